import JvmDerived
import JvmDerived.Pilot.@@N@@Statement
import JvmDerived.Pilot.@@N@@Code
set_option linter.unusedVariables false
set_option linter.unusedSimpArgs false
@@BLOCK:NumsL.lean.txt@@
namespace Jvm.RoadKit
open Sem ClassFile Op Lib Jvm.Stand Jvm.Free Jvm.LawKit
section New
variable {p : Program} {l : Launch} {e : Env} {R : Room} {s : State} {m : MethodId} {args : Array Value} {below : List Frame} {meth : Method} {c : Code} {T : State} {locs : List Loc} {cells slots : Nat}
theorem retI (X : Stand p l e R s m args below meth c T locs cells slots) (hx : p.tables.exec = Jvm.exec) {pc : Nat} {Ls : Array Slot} {z : Int32} {rest : List Value} (hret : meth.sig.returnType = some .int) (hd : decode c.code pc = .ok (.ireturn, 1)) {fs : List Frame}
    (hl : ∀ (f : JFrame) (acts : List Action), f.method = m → f.locked = none → f.entered = [] → (doReturn e (T.setTop f) acts (some (.int z))).1 = T.setFrames fs) : Steps p.tables e below (T.setTop (mkF m pc Ls (.int z :: rest))) (T.setFrames fs) := by
  have hm' : T.vm.method? m = some meth := X.method'
  have hn : narrow .int (.int z) = .int z := rfl
  show Steps p.tables e below (T.setTop { method := m, pc := pc, locals := Ls, stack := _ :: rest, locked := none }) _
  jvm_step X.here [X.here.top, hx, hd, hm', hret, hn]
  first | (intro acts; rw [hl _ acts rfl rfl rfl]) | rw [hl _ _ rfl rfl rfl]
  exact Steps.refl _
end New
/-! the rest of a body: it ends, with what Q says of the value, the heap and the written places -/
section Own
variable {p : Program} {l : Launch} {e : Env} {R : Room} {s : State} {m : MethodId} {args : Array Value} {below : List Frame} {meth : Method} {c : Code} {T : State} {locs : List Loc} {cells slots : Nat} {k n : Nat} {Q : Option Value → Heap → List Loc → Prop} {Z : State} {a0 : Array Value} {h : Heap}
def OEnds (p : Program) (e : Env) (below : List Frame) (s : State) (k n : Nat) (Q : Option Value → Heap → List Loc → Prop) (A : State) : Prop :=
  ∃ s₂ o, Steps p.tables e below A s₂ ∧ s₂.status = .running ∧ Ended s₂ below o ∧ ∃ v L, o = .returned v ∧ Q v s₂.heap L ∧ FrameEnd s o s₂ L k n
theorem OEnds.pre {A B : State} (h : ∀ t, Steps p.tables e below B t → Steps p.tables e below A t) (hB : OEnds p e below s k n Q B) : OEnds p e below s k n Q A := by
  obtain ⟨s₂, o, h1, h2⟩ := hB
  exact ⟨s₂, o, h _ h1, h2⟩
theorem OEnds.int (X : Stand p l e R s m args below meth c T locs cells slots) (hx : p.tables.exec = Jvm.exec) (hlocks : meth.locks = false) (hret : meth.sig.returnType = some .int) {pc : Nat} {Ls : Array Slot} {z : Int32} {rest : List Value} (hd : decode c.code pc = .ok (.ireturn, 1)) (hk : cells ≤ k) (hn : slots ≤ n)
    (hQ : Q (some (.int z)) T.heap locs) : OEnds p e below s k n Q (T.setTop (mkF m pc Ls (.int z :: rest))) := by
  obtain ⟨fs, hr, hrun, hended, hW, hsame⟩ := X.leave (v := some (.int z)) (fun h => by rw [hret] at h; cases h) hlocks
  exact ⟨_, _, retI X hx hret hd hr, hrun, hended, _, _, rfl, hQ, ⟨_, rfl⟩, hW, hsame.mono hk hn⟩
theorem OEnds.nrw {ty : FieldType} (X : Stand p l e R s m args below meth c T locs cells slots) (hx : p.tables.exec = Jvm.exec) (hlocks : meth.locks = false) (hret : meth.sig.returnType = some ty) (ht : ty = .boolean ∨ ty = .byte ∨ ty = .char ∨ ty = .short) {pc : Nat} {Ls : Array Slot} {z : Int32} {rest : List Value} (hd : decode c.code pc = .ok (.ireturn, 1)) (hk : cells ≤ k) (hn : slots ≤ n)
    (hQ : Q (some (.int (nar ty z))) T.heap locs) : OEnds p e below s k n Q (T.setTop (mkF m pc Ls (.int z :: rest))) := by
  obtain ⟨fs, hr, hrun, hended, hW, hsame⟩ := X.leave (v := some (.int (nar ty z))) (fun h => by rw [hret] at h; cases h) hlocks
  exact ⟨_, _, retN X hx hret ht hd hr, hrun, hended, _, _, rfl, hQ, ⟨_, rfl⟩, hW, hsame.mono hk hn⟩
theorem OEnds.long (X : Stand p l e R s m args below meth c T locs cells slots) (hx : p.tables.exec = Jvm.exec) (hlocks : meth.locks = false) (hret : meth.sig.returnType = some .long) {pc : Nat} {Ls : Array Slot} {z : Int64} (hd : decode c.code pc = .ok (.lreturn, 1)) (hk : cells ≤ k) (hn : slots ≤ n)
    (hQ : Q (some (.long z)) T.heap locs) : OEnds p e below s k n Q (T.setTop (mkF m pc Ls [.long z])) := by
  obtain ⟨fs, hr, hrun, hended, hW, hsame⟩ := X.leave (v := some (.long z)) (fun h => by rw [hret] at h; cases h) hlocks
  exact ⟨_, _, X.lreturnOut hx hret hd hr, hrun, hended, _, _, rfl, hQ, ⟨_, rfl⟩, hW, hsame.mono hk hn⟩
/-- a static call of a method that writes nothing, by its contract -/
theorem callPure (X : Stand p l e R s m args below meth c T locs cells slots) (hx : p.tables.exec = Jvm.exec) (hZ : Z.Warmed39 s.vm) {own : String} {index : Nat} {y : MethodName} {bytes : ByteArray} {maxL : Nat} {ret : Option FieldType} {rm : Room} {as' : Array Value} {v : Value} {W : Nat}
    (hown : s.vm.findClass own = some m.cls) (w1 : (Cond.methodLink own index y).before a0 Z = true) (w2 : (Cond.static y).before a0 Z = true) (w3 : (Cond.initialized y.cls).before a0 Z = true) (w4 : (Cond.code y bytes maxL ret).before a0 Z = true) (hy : y.cls ≠ "java/lang/invoke/MethodHandle" ∧ y.cls ≠ "java/lang/invoke/VarHandle")
    (eT : T.heap = h)
    (hM : MetFree l y (head1 [Cond.code y bytes maxL ret] rm) (fun a U => a = as' ∧ Z.Warmed39 U.vm ∧ U.heap = h) (fun _ _ _ _ _ => True) (fun _ U o U' => ∃ v' L, o = .returned v' ∧ (v' = some v ∧ L = [] ∧ U'.heap = h) ∧ FrameEnd U o U' L rm.cells rm.slots))
    (hc0 : rm.cells = 0) (hs0 : rm.slots = 0) (hf : rm.frames + 1 ≤ R.frames) (hl : W + (maxL + 11) + rm.locals ≤ R.locals)
    {pc : Nat} {Ls : Array Slot} {argsL rest : List Value} (hsize : Ls.size = c.maxLocals) (hlen : ∀ sig, parseMethodDescriptor y.desc = some sig → argsL.length = sig.parameters.length) (has : argsL.toArray = as') (hW : (rest.map fun v => v.category).sum ≤ W)
    (hd : decode c.code pc = .ok (.invokestatic index, 3)) (hcells : cells ≤ R.cells) (hslots : slots ≤ R.slots) :
    ∃ T', Stand p l e R s m args below meth c T' locs cells slots ∧ T'.heap = h ∧
      ∀ target, Steps p.tables e below (T'.setTop (mkF m (pc + 3) Ls (v :: rest))) target → Steps p.tables e below (T.setTop (mkF m pc Ls (argsL.reverse ++ rest))) target := by
  obtain ⟨v', vm₁, ⟨T1, L1, k1, n1⟩, -, X1, ⟨Lc, ⟨e1, e2, e3⟩, l1, y1, z1⟩, st⟩ := Jvm.LawKit.callS X hx (y := y) hown (mvT hZ w1) (mvT hZ w2) (mvT hZ w3) (mvT hZ w4) hy
    (backOf (W := W) (Q := fun v' h' L => v' = some v ∧ L = [] ∧ h' = h) hM hZ w4 w3 hf hl) (g := mkF m pc Ls (argsL.reverse ++ rest)) rfl hsize (argsL := argsL) (rest := rest) hlen rfl
    (by show 2 * 0 + _ ≤ _; rw [Nat.mul_zero, Nat.zero_add]; exact hW) hd (fun _ _ => ⟨has, eT, by rw [hc0]; exact hcells, by rw [hs0]; exact hslots⟩)
  dsimp only [Pt.U, Pt.locs, Pt.cells, Pt.slots] at X1 l1 y1 z1 st e3
  subst l1 y1 z1 e1 e2
  rw [hc0, hs0, List.append_nil, Nat.add_zero, Nat.add_zero] at X1
  exact ⟨T1, X1, e3, st⟩
end Own
end Jvm.RoadKit
namespace Jvm.RoadKit
open Sem ClassFile Op Lib Jvm.Stand Jvm.Free Jvm.LawKit
theorem nd_eq {α : Type} {l : List α} (N : l.Nodup) {i j : Nat} {x : α} (hi : l[i]? = some x) (hj : l[j]? = some x) : i = j := by
  obtain ⟨h1, e1⟩ := List.getElem?_eq_some_iff.mp hi
  obtain ⟨h2, e2⟩ := List.getElem?_eq_some_iff.mp hj
  have P := List.pairwise_iff_getElem.mp N
  rcases Nat.lt_trichotomy i j with h | h | h
  · exact absurd (e1.trans e2.symm) (P i j h1 h2 h)
  · exact h
  · exact absurd (e2.trans e1.symm) (P j i h2 h1 h)
/-! what the walk knows of the cells that it made: objects by their fields, arrays by their exact contents -/
section OWorld
variable {Z : State} {n0 : Nat} {h h' : Heap} {a b : Addr} {C O nm d : String} {ty : FieldType} {vs : List Value} {v old : Value} {sl : Nat}
def OAL (Z : State) (h : Heap) (a : Addr) (ty : FieldType) (vs : List Value) : Prop := ∃ c : Cell, Arr Z h a c ty ∧ c.slots = vs.toArray ∧ ∀ C, ty = .object C → Ovr Z c.cls C
abbrev OFEnt := String × String × String × Value
abbrev OEnt := Addr × String × List OFEnt × Option (FieldType × List Value)
abbrev eO (a : Addr) (C : String) (fs : List OFEnt) : OEnt := (a, C, fs, none)
abbrev eA (a : Addr) (ty : FieldType) (vs : List Value) : OEnt := (a, "", [], some (ty, vs))
def OObjOk (Z : State) (h : Heap) (a : Addr) (C : String) (fs : List OFEnt) : Prop :=
  Exa Z h a C ∧ (∀ f ∈ fs, Fld Z h a f.1 f.2.1 f.2.2.1 f.2.2.2) ∧ (fs.map fun f => slotOf Z f.1 f.2.1 f.2.2.1).Nodup
def OEntOk (Z : State) (h : Heap) (e : OEnt) : Prop := match e.2.2.2 with
  | none => OObjOk Z h e.1 e.2.1 e.2.2.1
  | some q => OAL Z h e.1 q.1 q.2
def OWorld (Z : State) (n0 : Nat) (h : Heap) (es : List OEnt) : Prop := Old Z n0 h ∧ (∀ e ∈ es, n0 ≤ e.1 ∧ OEntOk Z h e) ∧ (es.map (·.1)).Nodup
theorem OAL.lt (F : OAL Z h a ty vs) : a < h.size := by obtain ⟨c, A, -⟩ := F; exact A.lt
theorem OAL.ext (F : OAL Z h a ty vs) (E : Ext h h') : OAL Z h' a ty vs := by obtain ⟨c, A, r⟩ := F; exact ⟨c, A.ext E, r⟩
theorem OAL.other (F : OAL Z h b ty vs) (W : Wr h h' a sl v) (q : b ≠ a) : OAL Z h' b ty vs := by obtain ⟨c, A, r⟩ := F; exact ⟨c, A.other W q, r⟩
theorem OAL.same (F : OAL Z h a ty vs) (W : Wr h h' a sl v) : OAL Z h' a ty (vs.set sl v) := by
  obtain ⟨c, A, r⟩ := F
  refine ⟨_, A.same W, ?_, r.2⟩
  simp [Cell.setSlot, r.1]
theorem OAL.new {cA : ClassId} {z : Int32} (A : Arr Z h a (newA cA ty z) ty) (O : ∀ C, ty = .object C → Ovr Z cA C) : OAL Z h a ty (List.replicate z.toNatClampNeg (defaultValue ty)) :=
  ⟨_, A, by simp [newA], O⟩
theorem OObjOk.lt {fs : List OFEnt} (F : OObjOk Z h a C fs) : a < h.size := F.1.lt
theorem OObjOk.ext {fs : List OFEnt} (F : OObjOk Z h a C fs) (E : Ext h h') : OObjOk Z h' a C fs := ⟨F.1.ext E, fun f hf => (F.2.1 f hf).ext E, F.2.2⟩
theorem OObjOk.other {fs : List OFEnt} (F : OObjOk Z h b C fs) (W : Wr h h' a sl v) (q : b ≠ a) : OObjOk Z h' b C fs := ⟨F.1.wr W, fun f hf => (F.2.1 f hf).other W (Or.inl q), F.2.2⟩
theorem OObjOk.same {fs : List OFEnt} {j : Nat} (F : OObjOk Z h a C fs) (hj : fs[j]? = some (O, nm, d, old)) (W : Wr h h' a (slotOf Z O nm d) v) : OObjOk Z h' a C (fs.set j (O, nm, d, v)) := by
  obtain ⟨F1, F2, F3⟩ := F
  obtain ⟨hl, hj'⟩ := List.getElem?_eq_some_iff.mp hj
  have hm : (fs.set j (O, nm, d, v)).map (fun f => slotOf Z f.1 f.2.1 f.2.2.1) = fs.map (fun f => slotOf Z f.1 f.2.1 f.2.2.1) := by
    apply List.ext_getElem?
    intro i
    simp only [List.getElem?_map, List.getElem?_set]
    by_cases hi : j = i
    · subst hi; simp [hl, hj']
    · simp [hi]
  refine ⟨F1.wr W, fun f hf => ?_, by rw [hm]; exact F3⟩
  obtain ⟨i, hi⟩ := List.mem_iff_getElem?.mp hf
  rw [List.getElem?_set] at hi
  by_cases q : j = i
  · subst q
    simp [hl] at hi
    subst hi
    exact (F2 _ (List.mem_of_getElem? hj)).same W
  · simp only [q, if_false] at hi
    refine (F2 f (List.mem_of_getElem? hi)).other W (Or.inr fun e => q ?_)
    exact nd_eq F3 (i := j) (j := i) (x := slotOf Z O nm d) (by simp [hj]) (by simp [hi, e])
theorem OEntOk.lt {e : OEnt} (F : OEntOk Z h e) : e.1 < h.size := by
  obtain ⟨a, C, fs, o⟩ := e
  cases o with
  | none => exact OObjOk.lt F
  | some q => exact OAL.lt F
theorem OEntOk.ext {e : OEnt} (F : OEntOk Z h e) (E : Ext h h') : OEntOk Z h' e := by
  obtain ⟨a, C, fs, o⟩ := e
  cases o with
  | none => exact OObjOk.ext F E
  | some q => exact OAL.ext F E
theorem OEntOk.other {e : OEnt} (F : OEntOk Z h e) (W : Wr h h' a sl v) (q : e.1 ≠ a) : OEntOk Z h' e := by
  obtain ⟨a, C, fs, o⟩ := e
  cases o with
  | none => exact OObjOk.other F W q
  | some r => exact OAL.other F W q
theorem OWorld.start (s : State) : OWorld s s.heap.size s.heap [] := ⟨Old.start s, (fun _ q => nomatch q), List.nodup_nil⟩
theorem OWorld.nil {es : List OEnt} (W : OWorld Z n0 h es) : OWorld Z n0 h [] := ⟨W.1, (fun _ q => nomatch q), List.nodup_nil⟩
theorem OWorld.at {es : List OEnt} {k : Nat} {e : OEnt} (W : OWorld Z n0 h es) (hk : es[k]? = some e) : n0 ≤ e.1 ∧ OEntOk Z h e := W.2.1 e (List.mem_of_getElem? hk)
theorem OWorld.obj {es : List OEnt} {k : Nat} {fs : List OFEnt} (W : OWorld Z n0 h es) (hk : es[k]? = some (eO a C fs)) : OObjOk Z h a C fs := (W.at hk).2
theorem OWorld.arr {es : List OEnt} {k : Nat} (W : OWorld Z n0 h es) (hk : es[k]? = some (eA a ty vs)) : OAL Z h a ty vs := (W.at hk).2
theorem OWorld.fld {es : List OEnt} {k j : Nat} {fs : List OFEnt} (W : OWorld Z n0 h es) (hk : es[k]? = some (eO a C fs)) (hj : fs[j]? = some (O, nm, d, v)) : Fld Z h a O nm d v := (W.obj hk).2.1 _ (List.mem_of_getElem? hj)
theorem OWorld.ext {es : List OEnt} (W : OWorld Z n0 h es) (E : Ext h h') : OWorld Z n0 h' es := ⟨W.1.ext E, fun e he => ⟨(W.2.1 e he).1, (W.2.1 e he).2.ext E⟩, W.2.2⟩
theorem OWorld.push {es : List OEnt} (W : OWorld Z n0 h es) (E : Ext h h') {r : String × List OFEnt × Option (FieldType × List Value)} (hr : OEntOk Z h' (h.size, r)) : OWorld Z n0 h' ((h.size, r) :: es) := by
  have hn : n0 ≤ h.size := by rw [← W.1.1]; exact W.1.2.1
  refine ⟨W.1.ext E, fun e he => ?_, ?_⟩
  · rcases List.mem_cons.mp he with rfl | he
    · exact ⟨hn, hr⟩
    · exact ⟨(W.2.1 e he).1, (W.2.1 e he).2.ext E⟩
  · rw [List.map_cons, List.nodup_cons]
    refine ⟨fun q => ?_, W.2.2⟩
    obtain ⟨e, he, h1⟩ := List.mem_map.mp q
    exact absurd h1 (Nat.ne_of_lt (W.2.1 e he).2.lt)
theorem nodup_at {es : List OEnt} (N : (es.map (·.1)).Nodup) {k i : Nat} {e f : OEnt} (hk : es[k]? = some e) (hi : es[i]? = some f) (q : k ≠ i) : f.1 ≠ e.1 := fun e1 => q (nd_eq N (i := k) (j := i) (x := e.1) (by simp [hk]) (by simp [hi, e1]))
/-- the world in another order: the explicit part picked by places, the frame behind it -/
theorem OWorld.pick {pre F : List OEnt} (W : OWorld Z n0 h (pre ++ F)) (is : List Nat) (hn : is.Nodup) : OWorld Z n0 h ((is.filterMap fun i => pre[i]?) ++ F) := by
  have hsub : ∀ e ∈ (is.filterMap fun i => pre[i]?), e ∈ pre := fun e he => by
    obtain ⟨i, -, hi⟩ := List.mem_filterMap.mp he
    exact List.mem_of_getElem? hi
  have N := W.2.2
  rw [List.map_append, List.nodup_append] at N
  refine ⟨W.1, fun e he => W.2.1 e ?_, ?_⟩
  · rcases List.mem_append.mp he with he | he
    · exact List.mem_append.mpr (Or.inl (hsub e he))
    · exact List.mem_append.mpr (Or.inr he)
  · rw [List.map_append, List.nodup_append]
    refine ⟨?_, N.2.1, fun x hx y hy => ?_⟩
    · rw [List.Nodup, List.pairwise_map, List.pairwise_filterMap]
      exact hn.imp fun {i j} hij b hb b' hb' => (nodup_at N.1 hb hb' hij).symm
    · obtain ⟨e, he, rfl⟩ := List.mem_map.mp hx
      exact N.2.2 _ (List.mem_map.mpr ⟨e, hsub e he, rfl⟩) y hy
theorem OWorld.upd {es : List OEnt} {k : Nat} {e e' : OEnt} (W : OWorld Z n0 h es) (hk : es[k]? = some e) (Wr' : Wr h h' e.1 sl v) (he : e'.1 = e.1) (hok : OEntOk Z h' e') : OWorld Z n0 h' (es.set k e') := by
  obtain ⟨hl, hk'⟩ := List.getElem?_eq_some_iff.mp hk
  have hm : (es.set k e').map (·.1) = es.map (·.1) := by
    apply List.ext_getElem?
    intro i
    simp only [List.getElem?_map, List.getElem?_set]
    by_cases hi : k = i
    · subst hi; simp [hl, hk', he]
    · simp [hi]
  refine ⟨W.1.wr Wr' (W.at hk).1, fun f hf => ?_, by rw [hm]; exact W.2.2⟩
  obtain ⟨i, hi⟩ := List.mem_iff_getElem?.mp hf
  rw [List.getElem?_set] at hi
  by_cases q : k = i
  · subst q
    simp [hl] at hi
    subst hi
    exact ⟨by rw [he]; exact (W.at hk).1, hok⟩
  · simp only [q, if_false] at hi
    exact ⟨(W.at hi).1, (W.at hi).2.other Wr' (nodup_at W.2.2 hk hi q)⟩
theorem OWorld.wrA {es : List OEnt} {k : Nat} (W : OWorld Z n0 h es) (hk : es[k]? = some (eA a ty vs)) (Wr' : Wr h h' a sl v) : OWorld Z n0 h' (es.set k (eA a ty (vs.set sl v))) :=
  W.upd hk Wr' rfl (OAL.same (W.arr hk) Wr')
theorem OWorld.wrO {es : List OEnt} {k j : Nat} {fs : List OFEnt} (W : OWorld Z n0 h es) (hk : es[k]? = some (eO a C fs)) (hj : fs[j]? = some (O, nm, d, old)) (Wr' : Wr h h' a (slotOf Z O nm d) v) : OWorld Z n0 h' (es.set k (eO a C (fs.set j (O, nm, d, v)))) :=
  W.upd hk Wr' rfl (OObjOk.same (W.obj hk) hj Wr')
/-- the fields of a class as the sheet lays them, at their first values -/
def OLaidAll (Z : State) (a0 : Array Value) (C : String) : List OFEnt → Prop
  | [] => True
  | f :: fs => (Laid Z a0 C f.1 f.2.1 f.2.2.1 ∧ ∃ ty, parseFieldDescriptor f.2.2.1 = some ty ∧ f.2.2.2 = defaultValue ty) ∧ OLaidAll Z a0 C fs
theorem OLaidAll.mem {a0 : Array Value} : ∀ {fs : List OFEnt}, OLaidAll Z a0 C fs → ∀ f ∈ fs, Laid Z a0 C f.1 f.2.1 f.2.2.1 ∧ ∃ ty, parseFieldDescriptor f.2.2.1 = some ty ∧ f.2.2.2 = defaultValue ty
  | _ :: _, H, f, hf => (List.mem_cons.mp hf).elim (fun e => by subst e; exact H.1) (fun q => OLaidAll.mem H.2 f q)
theorem OLaidAll.nodup {a0 : Array Value} : ∀ {fs : List OFEnt}, OLaidAll Z a0 C fs → (fs.map fun f => f.2.1).Nodup → (fs.map fun f => slotOf Z f.1 f.2.1 f.2.2.1).Nodup
  | [], _, _ => List.nodup_nil
  | g :: gs, H, N => by
    rw [List.map_cons, List.nodup_cons] at N ⊢
    refine ⟨fun q => ?_, OLaidAll.nodup H.2 N.2⟩
    obtain ⟨f, hf, e⟩ := List.mem_map.mp q
    obtain ⟨L, t, ht, -⟩ := OLaidAll.mem H.2 f hf
    obtain ⟨L', t', ht', -⟩ := H.1
    exact slot_ne L L' (fun e => N.1 (List.mem_map.mpr ⟨f, hf, e⟩)) ht ht' e
end OWorld
/-- a class, no interface -/
def OIsCls (Z : State) (C : String) : Prop := ∀ s : State, Z.Warmed39 s.vm → ∃ c k, s.vm.findClass C = some c ∧ s.vm.classes[c]? = some k ∧ k.isInterface = false
theorem nf_sel {Z : State} {a0 : Array Value} {C D : String} {x z : MethodName} (w : (Cond.selects C x z).before a0 Z = true) (hD : z.cls = D) : OIsCls Z D := fun s hZ => by
  subst hD
  obtain ⟨c2, r2, m2, q1, q2, q3, q4, kP, hkP, hkPi⟩ := Cond.selects_spec (mvT (args := #[]) hZ w)
  exact ⟨m2.cls, kP, findClass_of_methodNamed q3, hkP, hkPi⟩
theorem OIsCls.nf {Z s : State} {y : MethodName} (h : OIsCls Z y.cls) (hZ : Z.Warmed39 s.vm) : NotFace s y := fun r0 h0 => by
  obtain ⟨c, k, e1, e2, e3⟩ := h s hZ
  cases (findClass_of_methodNamed h0).symm.trans e1
  exact ⟨k, e2, e3⟩
/-! where the walk stands, with what it knows -/
section OHere
variable {p : Program} {l : Launch} {e : Env} {R : Room} {s : State} {m : MethodId} {args : Array Value} {below : List Frame} {meth : Method} {c : Code} {T : State} {cells slots : Nat} {k n : Nat} {Q : Option Value → Heap → List Loc → Prop} {Z : State} {a0 : Array Value} {n0 kk : Nat} {es : List OEnt} {a : Addr} {vs : List Value} {rest : List Value} {pc : Nat} {Ls : Array Slot} {i : Nat} {j : Int32} {q : Nat} {target : State} {g : JFrame}
def OHere (p : Program) (l : Launch) (e : Env) (R : Room) (s : State) (m : MethodId) (args : Array Value) (below : List Frame) (meth : Method) (c : Code) (Z : State) (n0 kk : Nat) (T : State) (cells slots : Nat) (es : List OEnt) : Prop :=
  ∃ locs, Stand p l e R s m args below meth c T locs cells slots ∧ OWorld Z n0 T.heap es ∧ Fr n0 locs ∧ kk ≤ T.heap.size
theorem OHere.here (H : OHere p l e R s m args below meth c Z n0 kk T cells slots es) : At T m c below := H.elim fun _ h => h.1.here
theorem OHere.more {cells' slots' : Nat} (H : OHere p l e R s m args below meth c Z n0 kk T cells slots es) (h1 : cells ≤ cells') (h2 : slots ≤ slots') : OHere p l e R s m args below meth c Z n0 kk T cells' slots' es := by
  obtain ⟨locs, X, W, N, K⟩ := H; exact ⟨locs, X.more h1 h2, W, N, K⟩
theorem OHere.pick {pre F es' : List OEnt} (H : OHere p l e R s m args below meth c Z n0 kk T cells slots (pre ++ F)) (is : List Nat) (hn : is.Nodup) (he : (is.filterMap fun i => pre[i]?) = es') : OHere p l e R s m args below meth c Z n0 kk T cells slots (es' ++ F) := by
  obtain ⟨locs, X, W, N, K⟩ := H; subst he; exact ⟨locs, X, W.pick is hn, N, K⟩
theorem OHere.ldcI (H : OHere p l e R s m args below meth c Z n0 kk T cells slots es) (hx : p.tables.exec = Jvm.exec) {own : String} {index : Nat} {v : Int32} (hown : s.vm.findClass own = some m.cls) (hc : (Cond.constant own index v).before args s = true) (hg : g.method = m) (hd : decode c.code g.pc = .ok (.ldc index, 2))
    (hr : Steps p.tables e below (T.setTop { g with pc := g.pc + 2, stack := .int v :: g.stack }) target) : Steps p.tables e below (T.setTop g) target := by
  obtain ⟨locs, X, W, N, K⟩ := H; exact X.ldcI hx hown hc hg hd hr
theorem OHere.ldc2J (H : OHere p l e R s m args below meth c Z n0 kk T cells slots es) (hx : p.tables.exec = Jvm.exec) {own : String} {index : Nat} {v : Int64} (hown : s.vm.findClass own = some m.cls) (hc : (Cond.constantLong own index v).before args s = true) (hg : g.method = m) (hd : decode c.code g.pc = .ok (.ldc2_w index, 3))
    (hr : Steps p.tables e below (T.setTop { g with pc := g.pc + 3, stack := .long v :: g.stack }) target) : Steps p.tables e below (T.setTop g) target := by
  obtain ⟨locs, X, W, N, K⟩ := H; exact X.ldc2J hx hown hc hg hd hr
theorem OHere.irem (H : OHere p l e R s m args below meth c Z n0 kk T cells slots es) (hx : p.tables.exec = Jvm.exec) (hg : g.method = m) {x y : Int32} (hd : decode c.code g.pc = .ok (.irem, 1)) (hs : g.stack = .int y :: .int x :: rest) (hy : y ≠ 0)
    (hr : Steps p.tables e below (T.setTop { g with pc := g.pc + 1, stack := .int (x % y) :: rest }) target) : Steps p.tables e below (T.setTop g) target := by
  obtain ⟨locs, X, W, N, K⟩ := H; exact iremM X hx hg hd hs hy hr
theorem inside (A : Cell) (hA : A.slots = vs.toArray) (hj : ¬ j < 0) (hi : j.toNatClampNeg = i) (hl : i < vs.length) : ¬ (j < 0 ∨ A.slots.size ≤ j.toNatClampNeg) := by
  rw [hA, hi]; rintro (h | h)
  · exact hj h
  · simp at h; omega
/-- loads from an array: iaload, laload, baload -/
theorem OHere.iaload (H : OHere p l e R s m args below meth c Z n0 kk T cells slots es) (hx : p.tables.exec = Jvm.exec) (hZ : Z.Warmed39 s.vm) (hq : es[q]? = some (eA a .int vs)) {v : Value} (hj : ¬ j < 0) (hi : j.toNatClampNeg = i) (hv : vs[i]? = some v) (hd : decode c.code pc = .ok (.iaload, 1))
    (hr : Steps p.tables e below (T.setTop (mkF m (pc + 1) Ls (v :: rest))) target) : Steps p.tables e below (T.setTop (mkF m pc Ls (.int j :: .ref a :: rest))) target := by
  obtain ⟨locs, X, W, N, K⟩ := H
  obtain ⟨A, ⟨h1, h2, h3⟩, hA, -⟩ := W.arr hq
  exact X.iaload hx h1 (State.isArrayOf_alike hZ.alike h2) h3 (inside A hA hj hi (List.getElem?_eq_some_iff.mp hv).1) (by rw [hA, hi]; simpa using hv) (g := mkF m pc Ls (.int j :: .ref a :: rest)) rfl rfl hd target hr
theorem OHere.laload (H : OHere p l e R s m args below meth c Z n0 kk T cells slots es) (hx : p.tables.exec = Jvm.exec) (hZ : Z.Warmed39 s.vm) (hq : es[q]? = some (eA a .long vs)) {v : Value} (hj : ¬ j < 0) (hi : j.toNatClampNeg = i) (hv : vs[i]? = some v) (hd : decode c.code pc = .ok (.laload, 1))
    (hr : Steps p.tables e below (T.setTop (mkF m (pc + 1) Ls (v :: rest))) target) : Steps p.tables e below (T.setTop (mkF m pc Ls (.int j :: .ref a :: rest))) target := by
  obtain ⟨locs, X, W, N, K⟩ := H
  obtain ⟨A, ⟨h1, h2, h3⟩, hA, -⟩ := W.arr hq
  exact X.laload hx h1 (State.isArrayOf_alike hZ.alike h2) h3 (inside A hA hj hi (List.getElem?_eq_some_iff.mp hv).1) (by rw [hA, hi]; simpa using hv) (g := mkF m pc Ls (.int j :: .ref a :: rest)) rfl rfl hd target hr
theorem OHere.baload (H : OHere p l e R s m args below meth c Z n0 kk T cells slots es) (hx : p.tables.exec = Jvm.exec) (hZ : Z.Warmed39 s.vm) (hq : es[q]? = some (eA a .byte vs)) {v : Value} (hj : ¬ j < 0) (hi : j.toNatClampNeg = i) (hv : vs[i]? = some v) (hd : decode c.code pc = .ok (.baload, 1))
    (hr : Steps p.tables e below (T.setTop (mkF m (pc + 1) Ls (v :: rest))) target) : Steps p.tables e below (T.setTop (mkF m pc Ls (.int j :: .ref a :: rest))) target := by
  obtain ⟨locs, X, W, N, K⟩ := H
  obtain ⟨A, ⟨h1, h2, h3⟩, hA, -⟩ := W.arr hq
  exact X.baloadBytes hx h1 (State.isArrayOf_alike hZ.alike h2) h3 (inside A hA hj hi (List.getElem?_eq_some_iff.mp hv).1) (by rw [hA, hi]; simpa using hv) (g := mkF m pc Ls (.int j :: .ref a :: rest)) rfl rfl hd target hr
theorem OHere.len (H : OHere p l e R s m args below meth c Z n0 kk T cells slots es) (hx : p.tables.exec = Jvm.exec) (hZ : Z.Warmed39 s.vm) {ty : FieldType} (hq : es[q]? = some (eA a ty vs)) {z : Int32} (hz : vs.length.toInt32 = z) (hd : decode c.code pc = .ok (.arraylength, 1))
    (hr : Steps p.tables e below (T.setTop (mkF m (pc + 1) Ls (.int z :: rest))) target) : Steps p.tables e below (T.setTop (mkF m pc Ls (.ref a :: rest))) target := by
  obtain ⟨locs, X, W, N, K⟩ := H
  obtain ⟨A, ⟨h1, h2, h3⟩, hA, -⟩ := W.arr hq
  refine X.arraylength hx h1 (State.isArrayOf_alike hZ.alike h2) (g := mkF m pc Ls (.ref a :: rest)) rfl rfl hd target ?_
  have : A.slots.size.toInt32 = z := by rw [hA, ← hz]; simp
  rw [this]; exact hr
/-- stores into an array -/
theorem OHere.iastore (H : OHere p l e R s m args below meth c Z n0 kk T cells slots es) (hx : p.tables.exec = Jvm.exec) (hZ : Z.Warmed39 s.vm) (hq : es[q]? = some (eA a .int vs)) {x : Int32} (hj : ¬ j < 0) (hi : j.toNatClampNeg = i) (hl : i < vs.length) (hd : decode c.code pc = .ok (.iastore, 1)) :
    ∃ T', OHere p l e R s m args below meth c Z n0 kk T' cells slots (es.set q (eA a .int (vs.set i (.int x)))) ∧ ∀ target, Steps p.tables e below (T'.setTop (mkF m (pc + 1) Ls rest)) target → Steps p.tables e below (T.setTop (mkF m pc Ls (.int x :: .int j :: .ref a :: rest))) target := by
  obtain ⟨locs, X, W, N, K⟩ := H
  obtain ⟨A, hAr, hA, -⟩ := W.arr hq
  obtain ⟨T', h', X', e', Wr', st⟩ := stI X hx hZ rfl hAr (inside A hA hj hi hl) (g := mkF m pc Ls (.int x :: .int j :: .ref a :: rest)) rfl rfl hd
  subst e'
  rw [hi] at Wr' X'
  exact ⟨T', ⟨_, X', W.wrA hq Wr', (N.app fun y hy => by cases List.mem_singleton.mp hy; exact (W.at hq).1), by rw [Wr'.size]; exact K⟩, st⟩
theorem OHere.lastore (H : OHere p l e R s m args below meth c Z n0 kk T cells slots es) (hx : p.tables.exec = Jvm.exec) (hZ : Z.Warmed39 s.vm) (hq : es[q]? = some (eA a .long vs)) {x : Int64} (hj : ¬ j < 0) (hi : j.toNatClampNeg = i) (hl : i < vs.length) (hd : decode c.code pc = .ok (.lastore, 1)) :
    ∃ T', OHere p l e R s m args below meth c Z n0 kk T' cells slots (es.set q (eA a .long (vs.set i (.long x)))) ∧ ∀ target, Steps p.tables e below (T'.setTop (mkF m (pc + 1) Ls rest)) target → Steps p.tables e below (T.setTop (mkF m pc Ls (.long x :: .int j :: .ref a :: rest))) target := by
  obtain ⟨locs, X, W, N, K⟩ := H
  obtain ⟨A, hAr, hA, -⟩ := W.arr hq
  obtain ⟨T', h', X', e', Wr', st⟩ := stJ X hx hZ rfl hAr (inside A hA hj hi hl) (g := mkF m pc Ls (.long x :: .int j :: .ref a :: rest)) rfl rfl hd
  subst e'
  rw [hi] at Wr' X'
  exact ⟨T', ⟨_, X', W.wrA hq Wr', (N.app fun y hy => by cases List.mem_singleton.mp hy; exact (W.at hq).1), by rw [Wr'.size]; exact K⟩, st⟩
theorem OHere.bastore (H : OHere p l e R s m args below meth c Z n0 kk T cells slots es) (hx : p.tables.exec = Jvm.exec) (hZ : Z.Warmed39 s.vm) (hq : es[q]? = some (eA a .byte vs)) {x : Int32} (hj : ¬ j < 0) (hi : j.toNatClampNeg = i) (hl : i < vs.length) (hd : decode c.code pc = .ok (.bastore, 1)) :
    ∃ T', OHere p l e R s m args below meth c Z n0 kk T' cells slots (es.set q (eA a .byte (vs.set i (.int (nar .byte x))))) ∧ ∀ target, Steps p.tables e below (T'.setTop (mkF m (pc + 1) Ls rest)) target → Steps p.tables e below (T.setTop (mkF m pc Ls (.int x :: .int j :: .ref a :: rest))) target := by
  obtain ⟨locs, X, W, N, K⟩ := H
  obtain ⟨A, hAr, hA, -⟩ := W.arr hq
  obtain ⟨T', h', X', e', Wr', st⟩ := stB X hx hZ rfl hAr (inside A hA hj hi hl) (g := mkF m pc Ls (.int x :: .int j :: .ref a :: rest)) rfl rfl hd
  subst e'
  rw [hi] at Wr' X'
  exact ⟨T', ⟨_, X', W.wrA hq Wr', (N.app fun y hy => by cases List.mem_singleton.mp hy; exact (W.at hq).1), by rw [Wr'.size]; exact K⟩, st⟩
/-- a new array of a primitive type; its address gets a name -/
theorem OHere.newarray (H : OHere p l e R s m args below meth c Z n0 kk T cells slots es) (hx : p.tables.exec = Jvm.exec) (hZ : Z.Warmed39 s.vm) {aty : ArrayType} (w : (Cond.arrayClass (newarray.typeOf aty)).before a0 Z = true) (hd : decode c.code pc = .ok (.newarray aty, 2)) {z : Int32} (hn : ¬ z < 0) {cap : Nat} (hcap : z.toNatClampNeg = cap) (hb : cap * 8 ≤ 536870912) (hc : cells + 1 ≤ R.cells) (hl : slots + cap ≤ R.slots) :
    ∃ T' b, OHere p l e R s m args below meth c Z n0 kk T' (cells + 1) (slots + cap) (eA b (newarray.typeOf aty) (List.replicate cap (defaultValue (newarray.typeOf aty))) :: es) ∧ ∀ target, Steps p.tables e below (T'.setTop (mkF m (pc + 2) Ls (.ref b :: rest))) target → Steps p.tables e below (T.setTop (mkF m pc Ls (.int z :: rest))) target := by
  obtain ⟨locs, X, W, N, K⟩ := H
  obtain ⟨T', h', cA, X', e', E', A', st⟩ := newP X hx hZ w rfl (g := mkF m pc Ls (.int z :: rest)) rfl hd rfl hn (Nat.le_of_eq hcap) hb hc hl
  subst e'
  have A2 := OAL.new A' (fun C hC => by cases aty <;> cases hC)
  rw [hcap] at A2
  exact ⟨T', T.heap.size, ⟨_, X', W.push E' A2, N, Nat.le_trans K E'.1⟩, st⟩
/-- a new object -/
theorem OHere.new (H : OHere p l e R s m args below meth c Z n0 kk T cells slots es) (hx : p.tables.exec = Jvm.exec) (hZ : Z.Warmed39 s.vm) {own C : String} {index sz : Nat} (hown : s.vm.findClass own = some m.cls) (w : (Cond.classLink own index C).before a0 Z = true) (wi : (Cond.instantiable C sz).before a0 Z = true) (wz : (Cond.initialized C).before a0 Z = true) (fs : List OFEnt) (hfs : OLaidAll Z a0 C fs) (hnd : (fs.map fun f => f.2.1).Nodup) (hd : decode c.code pc = .ok (.new index, 3)) (hc : cells + 1 ≤ R.cells) (hl : slots + sz ≤ R.slots) :
    ∃ T' b, OHere p l e R s m args below meth c Z n0 kk T' (cells + 1) (slots + sz) (eO b C fs :: es) ∧ ∀ target, Steps p.tables e below (T'.setTop (mkF m (pc + 3) Ls (.ref b :: rest))) target → Steps p.tables e below (T.setTop (mkF m pc Ls rest)) target := by
  obtain ⟨locs, X, W, N, K⟩ := H
  obtain ⟨T', h', X', e', E', A', D', -, st⟩ := newO X hx hZ hown w wi wz rfl (g := mkF m pc Ls rest) rfl hd hc hl
  subst e'
  refine ⟨T', T.heap.size, ⟨_, X', W.push E' ⟨A', fun f hf => ?_, hfs.nodup hnd⟩, N, Nat.le_trans K E'.1⟩, st⟩
  obtain ⟨L, ty, ht, hv⟩ := hfs.mem f hf
  rw [hv]; exact D' L ht
theorem OHere.initO (H : OHere p l e R s m args below meth c Z n0 kk T cells slots es) (hx : p.tables.exec = Jvm.exec) (hZ : Z.Warmed39 s.vm) {own : String} {index : Nat} (hown : s.vm.findClass own = some m.cls) (w1 : (Cond.methodLink own index Lib.objectInit).before a0 Z = true) (w2 : (Cond.instanceMethod Lib.objectInit).before a0 Z = true)
    (w3 : (Cond.code Lib.objectInit ⟨#[0xb1]⟩ 1 none).before a0 Z = true) (hsize : Ls.size = c.maxLocals) (hd : decode c.code pc = .ok (.invokespecial index, 3)) (hf : 1 ≤ R.frames) {W : Nat} (hW : (rest.map fun v => v.category).sum ≤ W) (hl : W + 12 ≤ R.locals) :
    ∃ T', OHere p l e R s m args below meth c Z n0 kk T' cells slots es ∧ ∀ target, Steps p.tables e below (T'.setTop (mkF m (pc + 3) Ls rest)) target → Steps p.tables e below (T.setTop (mkF m pc Ls (.ref a :: rest))) target := by
  obtain ⟨locs, X, W', N, K⟩ := H
  obtain ⟨T', X', e', st⟩ := RoadKit.initO X hx hZ hown w1 w2 w3 rfl (g := mkF m pc Ls (.ref a :: rest)) rfl hsize rfl hd hf (W := W) (by show 2 * 0 + _ ≤ _; rw [Nat.mul_zero, Nat.zero_add]; exact hW) hl
  exact ⟨T', ⟨_, X', by rw [e']; exact W', N, by rw [e']; exact K⟩, st⟩
theorem OHere.getfield (H : OHere p l e R s m args below meth c Z n0 kk T cells slots es) (hx : p.tables.exec = Jvm.exec) (hZ : Z.Warmed39 s.vm) {own R0 O nm d C : String} {index f : Nat} {fs : List OFEnt} {v : Value} (hown : s.vm.findClass own = some m.cls) (w : (Cond.fieldLink own index R0 nm d).before a0 Z = true) (via : Via Z R0 O nm d) (hq : es[q]? = some (eO a C fs)) (hf : fs[f]? = some (O, nm, d, v)) (hd : decode c.code pc = .ok (.getfield index, 3)) :
    ∃ T', OHere p l e R s m args below meth c Z n0 kk T' cells slots es ∧ ∀ target, Steps p.tables e below (T'.setTop (mkF m (pc + 3) Ls (v :: rest))) target → Steps p.tables e below (T.setTop (mkF m pc Ls (.ref a :: rest))) target := by
  obtain ⟨locs, X, W, N, K⟩ := H
  obtain ⟨T', X', e', st⟩ := getF X hx hZ hown (host := "") (Or.inl w) via rfl (W.fld hq hf) (g := mkF m pc Ls (.ref a :: rest)) rfl rfl hd
  exact ⟨T', ⟨_, X', by rw [e']; exact W, N, by rw [e']; exact K⟩, st⟩
theorem OHere.putfield (H : OHere p l e R s m args below meth c Z n0 kk T cells slots es) (hx : p.tables.exec = Jvm.exec) (hZ : Z.Warmed39 s.vm) {own R0 O nm d C : String} {index f kz : Nat} {fs : List OFEnt} {v old : Value} {ty : FieldType} (hown : s.vm.findClass own = some m.cls) (w : (Cond.fieldLink own index R0 nm d).before a0 Z = true) (via : Via Z R0 O nm d) (hq : es[q]? = some (eO a C fs)) (hf : fs[f]? = some (O, nm, d, old))
    (L : (Cond.lays C O nm d).before a0 Z = true ∨ ((Cond.laysFinal C O nm d).before a0 Z = true ∧ own = O ∧ meth.name = "<init>")) (wi : (Cond.instantiable C kz).before a0 Z = true) (hty : parseFieldDescriptor d = some ty) (hn : narrow ty v = v) (hfit : fits ty v = true) (hd : decode c.code pc = .ok (.putfield index, 3)) :
    ∃ T', OHere p l e R s m args below meth c Z n0 kk T' cells slots (es.set q (eO a C (fs.set f (O, nm, d, v)))) ∧ ∀ target, Steps p.tables e below (T'.setTop (mkF m (pc + 3) Ls rest)) target → Steps p.tables e below (T.setTop (mkF m pc Ls (v :: .ref a :: rest))) target := by
  obtain ⟨locs, X, W, N, K⟩ := H
  obtain ⟨T', h', X', e', Wr', st⟩ := putF X hx hZ hown (host := "") (Or.inl w) via rfl (W.fld hq hf) (W.obj hq).1 L wi hty hn hfit (g := mkF m pc Ls (v :: .ref a :: rest)) rfl rfl hd
  subst e'
  exact ⟨T', ⟨_, X', W.wrO hq hf Wr', (N.app fun y hy => by cases List.mem_singleton.mp hy; exact (W.at hq).1), by rw [Wr'.size]; exact K⟩, st⟩
/-! the ends -/
theorem OHere.int (H : OHere p l e R s m args below meth c Z n0 kk T cells slots es) (hx : p.tables.exec = Jvm.exec) (hlocks : meth.locks = false) (hret : meth.sig.returnType = some .int) {z : Int32} (hd : decode c.code pc = .ok (.ireturn, 1)) (hk : cells ≤ k) (hn : slots ≤ n)
    (hQ : ∀ h L, OWorld Z n0 h es → Fr n0 L → Q (some (.int z)) h L) : OEnds p e below s k n Q (T.setTop (mkF m pc Ls (.int z :: rest))) := by
  obtain ⟨locs, X, W, N, K⟩ := H; exact OEnds.int X hx hlocks hret hd hk hn (hQ _ _ W N)
theorem OHere.nrw {ty : FieldType} (H : OHere p l e R s m args below meth c Z n0 kk T cells slots es) (hx : p.tables.exec = Jvm.exec) (hlocks : meth.locks = false) (hret : meth.sig.returnType = some ty) (ht : ty = .boolean ∨ ty = .byte ∨ ty = .char ∨ ty = .short) {z : Int32} (hd : decode c.code pc = .ok (.ireturn, 1)) (hk : cells ≤ k) (hn : slots ≤ n)
    (hQ : ∀ h L, OWorld Z n0 h es → Fr n0 L → Q (some (.int (nar ty z))) h L) : OEnds p e below s k n Q (T.setTop (mkF m pc Ls (.int z :: rest))) := by
  obtain ⟨locs, X, W, N, K⟩ := H; exact OEnds.nrw X hx hlocks hret ht hd hk hn (hQ _ _ W N)
theorem OHere.long (H : OHere p l e R s m args below meth c Z n0 kk T cells slots es) (hx : p.tables.exec = Jvm.exec) (hlocks : meth.locks = false) (hret : meth.sig.returnType = some .long) {z : Int64} (hd : decode c.code pc = .ok (.lreturn, 1)) (hk : cells ≤ k) (hn : slots ≤ n)
    (hQ : ∀ h L, OWorld Z n0 h es → Fr n0 L → Q (some (.long z)) h L) : OEnds p e below s k n Q (T.setTop (mkF m pc Ls [.long z])) := by
  obtain ⟨locs, X, W, N, K⟩ := H; exact OEnds.long X hx hlocks hret hd hk hn (hQ _ _ W N)
theorem OHere.ret (H : OHere p l e R s m args below meth c Z n0 kk T cells slots es) (hx : p.tables.exec = Jvm.exec) (hlocks : meth.locks = false) (hret : meth.sig.returnType = none) (hd : decode c.code pc = .ok (.return_, 1)) (hk : cells ≤ k) (hn : slots ≤ n)
    (hQ : ∀ h L, OWorld Z n0 h es → Fr n0 L → Q none h L) : OEnds p e below s k n Q (T.setTop (mkF m pc Ls [])) := by
  obtain ⟨locs, X, W, N, K⟩ := H
  obtain ⟨fs, hr, hrun, hended, hW, hsame⟩ := X.leave (v := none) (fun _ => rfl) hlocks
  exact ⟨_, _, X.returnOut hx hret hd hr, hrun, hended, _, _, rfl, hQ _ _ W N, ⟨_, rfl⟩, hW, hsame.mono hk hn⟩
/-! a callee's contract, and the calls -/
def OCon (l : Launch) (Z : State) (n0 : Nat) (y : MethodName) (bytes : ByteArray) (maxL : Nat) (ret : Option FieldType) (ws : List Cond) (rm : Room) (as : Array Value) (es : List OEnt) (P : Option Value → List OEnt → Prop) : Prop :=
  ∀ h, OWorld Z n0 h es → MetFree l y (head1 (Cond.code y bytes maxL ret :: ws) rm) (fun a U => a = as ∧ Z.Warmed39 U.vm ∧ U.heap = h) (fun _ _ _ _ _ => True) (fun _ U o U' => ∃ v' L, o = .returned v' ∧ (Fr n0 L ∧ ∃ es', P v' es' ∧ OWorld Z n0 U'.heap es') ∧ FrameEnd U o U' L rm.cells rm.slots)
theorem OCon.sz {y : MethodName} {bytes : ByteArray} {maxL : Nat} {ret : Option FieldType} {ws : List Cond} {rm : Room} {as : Array Value} {P : Option Value → List OEnt → Prop} (hM : OCon l Z n0 y bytes maxL ret ws rm as es P) (h : Heap) (W : OWorld Z n0 h es) :
    MetFree l y (head1 (Cond.code y bytes maxL ret :: ws) rm) (fun a U => a = as ∧ Z.Warmed39 U.vm ∧ U.heap = h) (fun _ _ _ _ _ => True) (fun _ U o U' => ∃ v' L, o = .returned v' ∧ ((Fr n0 L ∧ ∃ es', P v' es' ∧ OWorld Z n0 U'.heap es') ∧ h.size ≤ U'.heap.size) ∧ FrameEnd U o U' L rm.cells rm.slots) := fun p e a1 a2 a3 s m args below hf ha hP hK => by
  obtain ⟨n, o, h1, h2, h3, v', L, h4, h5, h6⟩ := hM h W p e a1 a2 a3 s m args below hf ha hP hK
  exact ⟨n, o, h1, h2, h3, v', L, h4, ⟨h5, by have q := h6.2.2.2.1; rw [hP.2.2] at q; exact q⟩, h6⟩
theorem OHere.static (H : OHere p l e R s m args below meth c Z n0 kk T cells slots es) (hx : p.tables.exec = Jvm.exec) (hZ : Z.Warmed39 s.vm) {own : String} {index : Nat} {y : MethodName} {bytes : ByteArray} {maxL : Nat} {ret : Option FieldType} {rm : Room} {as' : Array Value} {P : Option Value → List OEnt → Prop} {W : Nat}
    (hown : s.vm.findClass own = some m.cls) (w1 : (Cond.methodLink own index y).before a0 Z = true) (w2 : (Cond.static y).before a0 Z = true) (w3 : (Cond.initialized y.cls).before a0 Z = true) (w4 : (Cond.code y bytes maxL ret).before a0 Z = true) (hy : y.cls ≠ "java/lang/invoke/MethodHandle" ∧ y.cls ≠ "java/lang/invoke/VarHandle")
    (hM : OCon l Z n0 y bytes maxL ret [] rm as' es P) (hf : rm.frames + 1 ≤ R.frames) (hl : W + (maxL + 11) + rm.locals ≤ R.locals)
    {argsL : List Value} (hsize : Ls.size = c.maxLocals) (hlen : ∀ sig, parseMethodDescriptor y.desc = some sig → argsL.length = sig.parameters.length) (has : argsL.toArray = as') (hW : (rest.map fun v => v.category).sum ≤ W)
    (hd : decode c.code pc = .ok (.invokestatic index, 3)) (hcells : cells + rm.cells ≤ R.cells) (hslots : slots + rm.slots ≤ R.slots) :
    ∃ T' v es', P v es' ∧ OHere p l e R s m args below meth c Z n0 kk T' (cells + rm.cells) (slots + rm.slots) es' ∧
      ∀ target, Steps p.tables e below (T'.setTop (mkF m (pc + 3) Ls (v.toList ++ rest))) target → Steps p.tables e below (T.setTop (mkF m pc Ls (argsL.reverse ++ rest))) target := by
  obtain ⟨locs, X, W', N, K⟩ := H
  obtain ⟨v', vm₁, ⟨T1, L1, k1, n1⟩, -, X1, ⟨Lc, ⟨⟨e2, es', hP, e3⟩, hsz⟩, l1, y1, z1⟩, st⟩ := Jvm.LawKit.callS X hx (y := y) hown (mvT hZ w1) (mvT hZ w2) (mvT hZ w3) (mvT hZ w4) hy
    (backOf (W := W) (Q := fun v' h' L => (Fr n0 L ∧ ∃ es', P v' es' ∧ OWorld Z n0 h' es') ∧ T.heap.size ≤ h'.size) (hM.sz T.heap W') hZ w4 w3 hf hl) (g := mkF m pc Ls (argsL.reverse ++ rest)) rfl hsize (argsL := argsL) (rest := rest) hlen rfl
    (by show 2 * 0 + _ ≤ _; rw [Nat.mul_zero, Nat.zero_add]; exact hW) hd (fun _ _ => ⟨has, rfl, hcells, hslots⟩)
  dsimp only [Pt.U, Pt.locs, Pt.cells, Pt.slots] at X1 l1 y1 z1 st e3 hsz
  subst l1 y1 z1
  exact ⟨T1, v', es', hP, ⟨_, X1, e3, N.app e2, Nat.le_trans K hsz⟩, st⟩
theorem OHere.special (H : OHere p l e R s m args below meth c Z n0 kk T cells slots es) (hx : p.tables.exec = Jvm.exec) (hZ : Z.Warmed39 s.vm) {own : String} {index : Nat} {y : MethodName} (hy1 : y.name = "<init>") {bytes : ByteArray} {maxL : Nat} {rm : Room} {as' : Array Value} {P : Option Value → List OEnt → Prop} {W : Nat}
    (hown : s.vm.findClass own = some m.cls) (w1 : (Cond.methodLink own index y).before a0 Z = true) (w2 : (Cond.instanceMethod y).before a0 Z = true) (w3 : (Cond.initialized y.cls).before a0 Z = true) (w4 : (Cond.code y bytes maxL none).before a0 Z = true) (hy : y.cls ≠ "java/lang/invoke/MethodHandle" ∧ y.cls ≠ "java/lang/invoke/VarHandle")
    (hM : OCon l Z n0 y bytes maxL none [] rm as' es P) (hf : rm.frames + 1 ≤ R.frames) (hl : W + (maxL + 11) + rm.locals ≤ R.locals)
    {argsL : List Value} (hsize : Ls.size = c.maxLocals) (hlen : ∀ sig, parseMethodDescriptor y.desc = some sig → argsL.length = sig.parameters.length) (has : (.ref a :: argsL).toArray = as') (hW : (rest.map fun v => v.category).sum ≤ W)
    (hd : decode c.code pc = .ok (.invokespecial index, 3)) (hcells : cells + rm.cells ≤ R.cells) (hslots : slots + rm.slots ≤ R.slots) :
    ∃ T' v es', P v es' ∧ OHere p l e R s m args below meth c Z n0 kk T' (cells + rm.cells) (slots + rm.slots) es' ∧
      ∀ target, Steps p.tables e below (T'.setTop (mkF m (pc + 3) Ls (v.toList ++ rest))) target → Steps p.tables e below (T.setTop (mkF m pc Ls (argsL.reverse ++ .ref a :: rest))) target := by
  obtain ⟨locs, X, W', N, K⟩ := H
  obtain ⟨v', vm₁, ⟨T1, L1, k1, n1⟩, -, X1, ⟨Lc, ⟨⟨e2, es', hP, e3⟩, hsz⟩, l1, y1, z1⟩, st⟩ := X.specialBack hx (y := y) hy1 hown (mvT hZ w1) (mvT hZ w2) (mvT hZ w4) hy
    (backOf (W := W) (Q := fun v' h' L => (Fr n0 L ∧ ∃ es', P v' es' ∧ OWorld Z n0 h' es') ∧ T.heap.size ≤ h'.size) (hM.sz T.heap W') hZ w4 w3 hf hl) (g := mkF m pc Ls (argsL.reverse ++ .ref a :: rest)) rfl hsize (Steps.refl _) (a := a) (argsL := argsL) (rest := rest) hlen rfl
    (by show 2 * 0 + _ ≤ _; rw [Nat.mul_zero, Nat.zero_add]; exact hW) hd (fun _ _ => ⟨has, rfl, hcells, hslots⟩)
  dsimp only [Pt.U, Pt.locs, Pt.cells, Pt.slots] at X1 l1 y1 z1 st e3 hsz
  subst l1 y1 z1
  exact ⟨T1, v', es', hP, ⟨_, X1, e3, N.app e2, Nat.le_trans K hsz⟩, fun target k => st.trans k⟩
theorem OHere.virtual (H : OHere p l e R s m args below meth c Z n0 kk T cells slots es) (hx : p.tables.exec = Jvm.exec) (hZ : Z.Warmed39 s.vm) {own C : String} {index : Nat} {y z : MethodName} {bytes : ByteArray} {maxL : Nat} {ret : Option FieldType} {rm : Room} {as' : Array Value} {P : Option Value → List OEnt → Prop} {fs : List OFEnt} {W : Nat}
    (hown : s.vm.findClass own = some m.cls) (w1 : (Cond.methodLink own index y).before a0 Z = true) (w2 : (Cond.declares y).before a0 Z = true) (nf : OIsCls Z y.cls) (w3 : (Cond.selects C y z).before a0 Z = true) (w4 : (Cond.instanceMethod z).before a0 Z = true) (w5 : (Cond.initialized z.cls).before a0 Z = true) (w6 : (Cond.code z bytes maxL ret).before a0 Z = true) (hy : y.cls ≠ "java/lang/invoke/MethodHandle" ∧ y.cls ≠ "java/lang/invoke/VarHandle")
    (hq : es[q]? = some (eO a C fs)) (hM : OCon l Z n0 z bytes maxL ret [] rm as' es P) (hf : rm.frames + 1 ≤ R.frames) (hl : W + (maxL + 11) + rm.locals ≤ R.locals)
    {argsL : List Value} (hsize : Ls.size = c.maxLocals) (hlen : ∀ sig, parseMethodDescriptor y.desc = some sig → argsL.length = sig.parameters.length) (has : (.ref a :: argsL).toArray = as') (hW : (rest.map fun v => v.category).sum ≤ W)
    (hd : decode c.code pc = .ok (.invokevirtual index, 3)) (hcells : cells + rm.cells ≤ R.cells) (hslots : slots + rm.slots ≤ R.slots) :
    ∃ T' v es', P v es' ∧ OHere p l e R s m args below meth c Z n0 kk T' (cells + rm.cells) (slots + rm.slots) es' ∧
      ∀ target, Steps p.tables e below (T'.setTop (mkF m (pc + 3) Ls (v.toList ++ rest))) target → Steps p.tables e below (T.setTop (mkF m pc Ls (argsL.reverse ++ .ref a :: rest))) target := by
  obtain ⟨locs, X, W', N, K⟩ := H
  obtain ⟨cB, kB, qa, qb, qc⟩ := isOf hZ (T := T) rfl (W'.obj hq).1
  obtain ⟨v', vm₁, ⟨T1, L1, k1, n1⟩, -, X1, ⟨Lc, ⟨⟨e2, es', hP, e3⟩, hsz⟩, l1, y1, z1⟩, st⟩ := X.virtualBack hx (y := y) (z := z) hown (mvT hZ w1) (mvT hZ w2) (nf.nf hZ) (mvT hZ w3) (mvT hZ w4) hy
    (backOf (W := W) (Q := fun v' h' L => (Fr n0 L ∧ ∃ es', P v' es' ∧ OWorld Z n0 h' es') ∧ T.heap.size ≤ h'.size) (hM.sz T.heap W') hZ w6 w5 hf hl) qa qc (g := mkF m pc Ls (argsL.reverse ++ .ref a :: rest)) rfl hsize (Steps.refl _) (argsL := argsL) (rest := rest) hlen rfl
    (by show 2 * 0 + _ ≤ _; rw [Nat.mul_zero, Nat.zero_add]; exact hW) hd (fun _ _ => ⟨has, rfl, hcells, hslots⟩)
  dsimp only [Pt.U, Pt.locs, Pt.cells, Pt.slots] at X1 l1 y1 z1 st e3 hsz
  subst l1 y1 z1
  exact ⟨T1, v', es', hP, ⟨_, X1, e3, N.app e2, Nat.le_trans K hsz⟩, fun target k => st.trans k⟩
theorem OHere.virtualUp (H : OHere p l e R s m args below meth c Z n0 kk T cells slots es) (hx : p.tables.exec = Jvm.exec) (hZ : Z.Warmed39 s.vm) {own C owner : String} {index : Nat} {x y : MethodName} {bytes : ByteArray} {maxL : Nat} {ret : Option FieldType} {rm : Room} {as' : Array Value} {P : Option Value → List OEnt → Prop} {fs : List OFEnt} {W : Nat}
    (hown : s.vm.findClass own = some m.cls) (w1 : (Cond.methodLink own index x).before a0 Z = true) (w2 : (Cond.sameMethod x.cls owner x.name x.desc).before a0 Z = true) (w2' : (Cond.declares ⟨owner, x.name, x.desc⟩).before a0 Z = true) (w3 : (Cond.selects C x y).before a0 Z = true) (w4 : (Cond.instanceMethod y).before a0 Z = true) (w5 : (Cond.initialized y.cls).before a0 Z = true) (w6 : (Cond.code y bytes maxL ret).before a0 Z = true) (hy : owner ≠ "java/lang/invoke/MethodHandle" ∧ owner ≠ "java/lang/invoke/VarHandle")
    (hq : es[q]? = some (eO a C fs)) (hM : OCon l Z n0 y bytes maxL ret [] rm as' es P) (hf : rm.frames + 1 ≤ R.frames) (hl : W + (maxL + 11) + rm.locals ≤ R.locals)
    {argsL : List Value} (hsize : Ls.size = c.maxLocals) (hlen : ∀ sig, parseMethodDescriptor x.desc = some sig → argsL.length = sig.parameters.length) (has : (.ref a :: argsL).toArray = as') (hW : (rest.map fun v => v.category).sum ≤ W)
    (hd : decode c.code pc = .ok (.invokevirtual index, 3)) (hcells : cells + rm.cells ≤ R.cells) (hslots : slots + rm.slots ≤ R.slots) :
    ∃ T' v es', P v es' ∧ OHere p l e R s m args below meth c Z n0 kk T' (cells + rm.cells) (slots + rm.slots) es' ∧
      ∀ target, Steps p.tables e below (T'.setTop (mkF m (pc + 3) Ls (v.toList ++ rest))) target → Steps p.tables e below (T.setTop (mkF m pc Ls (argsL.reverse ++ .ref a :: rest))) target := by
  obtain ⟨locs, X, W', N, K⟩ := H
  obtain ⟨cB, kB, qa, qb, qc⟩ := isOf hZ (T := T) rfl (W'.obj hq).1
  obtain ⟨v', vm₁, ⟨T1, L1, k1, n1⟩, -, X1, ⟨Lc, ⟨⟨e2, es', hP, e3⟩, hsz⟩, l1, y1, z1⟩, st⟩ := X.virtualBackUp hx (x := x) (y := y) (owner := owner) hown (mvT hZ w1) (mvT hZ w2) (mvT hZ w2') hy (mvT hZ w3) (mvT hZ w4)
    (backOf (W := W) (Q := fun v' h' L => (Fr n0 L ∧ ∃ es', P v' es' ∧ OWorld Z n0 h' es') ∧ T.heap.size ≤ h'.size) (hM.sz T.heap W') hZ w6 w5 hf hl) qa qc (g := mkF m pc Ls (argsL.reverse ++ .ref a :: rest)) rfl hsize (Steps.refl _) (argsL := argsL) (rest := rest) hlen rfl
    (by show 2 * 0 + _ ≤ _; rw [Nat.mul_zero, Nat.zero_add]; exact hW) hd (fun _ _ => ⟨has, rfl, hcells, hslots⟩)
  dsimp only [Pt.U, Pt.locs, Pt.cells, Pt.slots] at X1 l1 y1 z1 st e3 hsz
  subst l1 y1 z1
  exact ⟨T1, v', es', hP, ⟨_, X1, e3, N.app e2, Nat.le_trans K hsz⟩, fun target k => st.trans k⟩
/-- a private method, called by invokevirtual -/
theorem OHere.priv (H : OHere p l e R s m args below meth c Z n0 kk T cells slots es) (hx : p.tables.exec = Jvm.exec) (hZ : Z.Warmed39 s.vm) {own C : String} {index : Nat} {y : MethodName} {bytes : ByteArray} {maxL : Nat} {ret : Option FieldType} {rm : Room} {as' : Array Value} {P : Option Value → List OEnt → Prop} {fs : List OFEnt} {W : Nat}
    (hown : s.vm.findClass own = some m.cls) (w1 : (Cond.methodLink own index y).before a0 Z = true) (w4 : (Cond.instanceMethod y).before a0 Z = true) (nf : OIsCls Z y.cls) (w3 : (Cond.privateMethod y).before a0 Z = true) (w5 : (Cond.initialized y.cls).before a0 Z = true) (w6 : (Cond.code y bytes maxL ret).before a0 Z = true) (hy : y.cls ≠ "java/lang/invoke/MethodHandle" ∧ y.cls ≠ "java/lang/invoke/VarHandle")
    (hq : es[q]? = some (eO a C fs)) (hM : OCon l Z n0 y bytes maxL ret [] rm as' es P) (hf : rm.frames + 1 ≤ R.frames) (hl : W + (maxL + 11) + rm.locals ≤ R.locals)
    {argsL : List Value} (hsize : Ls.size = c.maxLocals) (hlen : ∀ sig, parseMethodDescriptor y.desc = some sig → argsL.length = sig.parameters.length) (has : (.ref a :: argsL).toArray = as') (hW : (rest.map fun v => v.category).sum ≤ W)
    (hd : decode c.code pc = .ok (.invokevirtual index, 3)) (hcells : cells + rm.cells ≤ R.cells) (hslots : slots + rm.slots ≤ R.slots) :
    ∃ T' v es', P v es' ∧ OHere p l e R s m args below meth c Z n0 kk T' (cells + rm.cells) (slots + rm.slots) es' ∧
      ∀ target, Steps p.tables e below (T'.setTop (mkF m (pc + 3) Ls (v.toList ++ rest))) target → Steps p.tables e below (T.setTop (mkF m pc Ls (argsL.reverse ++ .ref a :: rest))) target := by
  obtain ⟨locs, X, W', N, K⟩ := H
  obtain ⟨cq, q1, q2⟩ := (W'.obj hq).1.cell
  have hpr := Cond.privateMethod_at (mvP hZ w3 (args := args))
  obtain ⟨cC, kC, f1, f2, f3⟩ := nf s hZ
  obtain ⟨v', vm₁, ⟨T1, L1, k1, n1⟩, -, X1, ⟨Lc, ⟨⟨e2, es', hP, e3⟩, hsz⟩, l1, y1, z1⟩, st⟩ := X.privateBack hx (y := y) hown (mvT hZ w1) (mvT hZ w4) (selects_self_of_private f1 f2 f3 hpr (mvT hZ w4) hy) hpr (mvT hZ w6) hy
    (backOf (W := W) (Q := fun v' h' L => (Fr n0 L ∧ ∃ es', P v' es' ∧ OWorld Z n0 h' es') ∧ T.heap.size ≤ h'.size) (hM.sz T.heap W') hZ w6 w5 hf hl) (g := mkF m pc Ls (argsL.reverse ++ .ref a :: rest)) rfl hsize (Steps.refl _) (a := a) q1 q2 (argsL := argsL) (rest := rest) hlen rfl
    (by show 2 * 0 + _ ≤ _; rw [Nat.mul_zero, Nat.zero_add]; exact hW) hd (fun _ _ => ⟨has, rfl, hcells, hslots⟩)
  dsimp only [Pt.U, Pt.locs, Pt.cells, Pt.slots] at X1 l1 y1 z1 st e3 hsz
  subst l1 y1 z1
  exact ⟨T1, v', es', hP, ⟨_, X1, e3, N.app e2, Nat.le_trans K hsz⟩, fun target k => st.trans k⟩
theorem OCon.of_pure {y : MethodName} {bytes : ByteArray} {maxL : Nat} {ret : Option FieldType} {ws : List Cond} {rm : Room} {as' : Array Value} {v : Option Value}
    (hM : ∀ h, MetFree l y (head1 (Cond.code y bytes maxL ret :: ws) rm) (fun a U => a = as' ∧ Z.Warmed39 U.vm ∧ U.heap = h) (fun _ _ _ _ _ => True) (fun _ U o U' => ∃ v' L, o = .returned v' ∧ (v' = v ∧ L = [] ∧ U'.heap = h) ∧ FrameEnd U o U' L rm.cells rm.slots)) : OCon l Z n0 y bytes maxL ret ws rm as' es (fun v' es' => v' = v ∧ es' = es) := fun h W p e a1 a2 a3 s m args below hf ha hP hK => by
  obtain ⟨n, o, h1, h2, h3, v', L, h4, ⟨h5, h6, h7⟩, h8⟩ := hM h p e a1 a2 a3 s m args below hf ha hP hK
  exact ⟨n, o, h1, h2, h3, v', L, h4, ⟨by rw [h6]; exact Fr.nil _, es, ⟨h5, rfl⟩, by rw [h7]; exact W⟩, h8⟩

/-! references: arrays, statics, casts, interface calls -/
theorem OHere.anewarray (H : OHere p l e R s m args below meth c Z n0 kk T cells slots es) (hx : p.tables.exec = Jvm.exec) (hZ : Z.Warmed39 s.vm) {own C : String} {index : Nat} (hown : s.vm.findClass own = some m.cls) (w1 : (Cond.classLink own index C).before a0 Z = true) (w2 : (Cond.arrayOver (.object C)).before a0 Z = true) (hd : decode c.code pc = .ok (.anewarray index, 3)) {z : Int32} (hn : ¬ z < 0) {cap : Nat} (hcap : z.toNatClampNeg = cap) (hb : cap * 8 ≤ 536870912) (hc : cells + 1 ≤ R.cells) (hl : slots + cap ≤ R.slots) :
    ∃ T' b, OHere p l e R s m args below meth c Z n0 kk T' (cells + 1) (slots + cap) (eA b (.object C) (List.replicate cap .null) :: es) ∧ ∀ target, Steps p.tables e below (T'.setTop (mkF m (pc + 3) Ls (.ref b :: rest))) target → Steps p.tables e below (T.setTop (mkF m pc Ls (.int z :: rest))) target := by
  obtain ⟨locs, X, W, N, K⟩ := H
  obtain ⟨T', h', cA, X', e', E', A', O', st⟩ := newR X hx hZ hown w1 w2 rfl (g := mkF m pc Ls (.int z :: rest)) rfl hd rfl hn (Nat.le_of_eq hcap) hb hc hl
  subst e'
  have A2 := OAL.new A' (fun C' hC => by cases hC; exact O')
  rw [hcap] at A2
  exact ⟨T', T.heap.size, ⟨_, X', W.push E' A2, N, Nat.le_trans K E'.1⟩, st⟩
theorem OHere.aaload (H : OHere p l e R s m args below meth c Z n0 kk T cells slots es) (hx : p.tables.exec = Jvm.exec) (hZ : Z.Warmed39 s.vm) {C : String} (hq : es[q]? = some (eA a (.object C) vs)) {v : Value} (hj : ¬ j < 0) (hi : j.toNatClampNeg = i) (hv : vs[i]? = some v) (hd : decode c.code pc = .ok (.aaload, 1))
    (hr : Steps p.tables e below (T.setTop (mkF m (pc + 1) Ls (v :: rest))) target) : Steps p.tables e below (T.setTop (mkF m pc Ls (.int j :: .ref a :: rest))) target := by
  obtain ⟨locs, X, W, N, K⟩ := H
  obtain ⟨A, ⟨h1, h2, h3⟩, hA, -⟩ := W.arr hq
  exact X.aaload hx h1 (State.isArrayOf_alike hZ.alike h2) rfl h3 (inside A hA hj hi (List.getElem?_eq_some_iff.mp hv).1) (by rw [hA, hi]; simpa using hv) (g := mkF m pc Ls (.int j :: .ref a :: rest)) rfl rfl hd target hr
/-- a value that the array at q takes: null, or an object whose class the sheet calls castable -/
def OTakes (Z : State) (a0 : Array Value) (es : List OEnt) (C : String) (v : Value) : Prop := v = .null ∨ ∃ (q2 : Nat) (y : Addr) (D : String) (fs : List OFEnt), es[q2]? = some (eO y D fs) ∧ v = .ref y ∧ (Cond.castable D C).before a0 Z = true
theorem OHere.aastore (H : OHere p l e R s m args below meth c Z n0 kk T cells slots es) (hx : p.tables.exec = Jvm.exec) (hZ : Z.Warmed39 s.vm) {C : String} (hq : es[q]? = some (eA a (.object C) vs)) {v : Value} (hj : ¬ j < 0) (hi : j.toNatClampNeg = i) (hl : i < vs.length) (ht : OTakes Z a0 es C v) (hd : decode c.code pc = .ok (.aastore, 1)) :
    ∃ T', OHere p l e R s m args below meth c Z n0 kk T' cells slots (es.set q (eA a (.object C) (vs.set i v))) ∧ ∀ target, Steps p.tables e below (T'.setTop (mkF m (pc + 1) Ls rest)) target → Steps p.tables e below (T.setTop (mkF m pc Ls (v :: .int j :: .ref a :: rest))) target := by
  obtain ⟨locs, X, W, N, K⟩ := H
  obtain ⟨A, hAr, hA, hO⟩ := W.arr hq
  have F : Sto Z T.heap a v := by
    rcases ht with rfl | ⟨q2, y, D, fs, h2, rfl, wc⟩
    · exact Or.inl rfl
    · exact Sto.of hAr (hO C rfl) (Ins.of_exa (W.obj h2).1 wc)
  obtain ⟨T', h', X', e', Wr', st⟩ := stR X hx hZ rfl hAr (inside A hA hj hi hl) rfl F (g := mkF m pc Ls (v :: .int j :: .ref a :: rest)) rfl rfl hd
  subst e'
  rw [hi] at Wr' X'
  exact ⟨T', ⟨_, X', W.wrA hq Wr', (N.app fun y hy => by cases List.mem_singleton.mp hy; exact (W.at hq).1), by rw [Wr'.size]; exact K⟩, st⟩
/-- an array of the start, of which the length alone is known -/
def OOldArr (Z : State) (d : Addr) (C : String) (n : Nat) : Prop := ∃ cl : Cell, Arr Z Z.heap d cl (.object C) ∧ cl.slots.size = n
theorem OHere.lenOld (H : OHere p l e R s m args below meth c Z n0 kk T cells slots es) (hx : p.tables.exec = Jvm.exec) (hZ : Z.Warmed39 s.vm) {d : Addr} {C : String} {n : Nat} (hD : OOldArr Z d C n) {z : Int32} (hz : n.toInt32 = z) (hd : decode c.code pc = .ok (.arraylength, 1))
    (hr : Steps p.tables e below (T.setTop (mkF m (pc + 1) Ls (.int z :: rest))) target) : Steps p.tables e below (T.setTop (mkF m pc Ls (.ref d :: rest))) target := by
  obtain ⟨locs, X, W, N, K⟩ := H
  obtain ⟨A, hA, hs⟩ := hD
  obtain ⟨h1, h2, h3⟩ := hA.ext W.1.2
  refine X.arraylength hx h1 (State.isArrayOf_alike hZ.alike h2) (g := mkF m pc Ls (.ref d :: rest)) rfl rfl hd target ?_
  rw [hs, hz]; exact hr
theorem OHere.getstatic (H : OHere p l e R s m args below meth c Z n0 kk T cells slots es) (hx : p.tables.exec = Jvm.exec) (hZ : Z.Warmed39 s.vm) {own O nm d : String} {index : Nat} {v : Value} (hown : s.vm.findClass own = some m.cls) (w : (Cond.fieldLink own index O nm d).before a0 Z = true) (hS : Sta Z Z.heap O nm d v) (hd : decode c.code pc = .ok (.getstatic index, 3)) :
    ∃ T', OHere p l e R s m args below meth c Z n0 kk T' cells slots es ∧ ∀ target, Steps p.tables e below (T'.setTop (mkF m (pc + 3) Ls (v :: rest))) target → Steps p.tables e below (T.setTop (mkF m pc Ls rest)) target := by
  obtain ⟨locs, X, W, N, K⟩ := H
  obtain ⟨T', X', e', st⟩ := getS X hx hZ hown w Via.refl rfl (hS.ext W.1.2) (host := "") (g := mkF m pc Ls rest) rfl hd
  exact ⟨T', ⟨_, X', by rw [e']; exact W, N, by rw [e']; exact K⟩, st⟩
theorem OHere.getfieldN (H : OHere p l e R s m args below meth c Z n0 kk T cells slots es) (hx : p.tables.exec = Jvm.exec) (hZ : Z.Warmed39 s.vm) {own R0 O nm d C host : String} {index f : Nat} {fs : List OFEnt} {v : Value} (hown : s.vm.findClass own = some m.cls) (w : (Cond.fieldLinkNest own index R0 nm d host).before a0 Z = true) (via : Via Z R0 O nm d) (hq : es[q]? = some (eO a C fs)) (hf : fs[f]? = some (O, nm, d, v)) (hd : decode c.code pc = .ok (.getfield index, 3)) :
    ∃ T', OHere p l e R s m args below meth c Z n0 kk T' cells slots es ∧ ∀ target, Steps p.tables e below (T'.setTop (mkF m (pc + 3) Ls (v :: rest))) target → Steps p.tables e below (T.setTop (mkF m pc Ls (.ref a :: rest))) target := by
  obtain ⟨locs, X, W, N, K⟩ := H
  obtain ⟨T', X', e', st⟩ := getF X hx hZ hown (host := host) (Or.inr w) via rfl (W.fld hq hf) (g := mkF m pc Ls (.ref a :: rest)) rfl rfl hd
  exact ⟨T', ⟨_, X', by rw [e']; exact W, N, by rw [e']; exact K⟩, st⟩
theorem OHere.cast (H : OHere p l e R s m args below meth c Z n0 kk T cells slots es) (hx : p.tables.exec = Jvm.exec) (hZ : Z.Warmed39 s.vm) {own C : String} {index : Nat} {fs : List OFEnt} (hown : s.vm.findClass own = some m.cls) (w : (Cond.classLink own index C).before a0 Z = true) (hq : es[q]? = some (eO a C fs)) (hd : decode c.code pc = .ok (.checkcast index, 3)) :
    ∃ T', OHere p l e R s m args below meth c Z n0 kk T' cells slots es ∧ ∀ target, Steps p.tables e below (T'.setTop (mkF m (pc + 3) Ls (.ref a :: rest))) target → Steps p.tables e below (T.setTop (mkF m pc Ls (.ref a :: rest))) target := by
  obtain ⟨locs, X, W, N, K⟩ := H
  obtain ⟨T', X', e', st⟩ := castY X hx hZ hown w rfl (Ins.self (W.obj hq).1) (g := mkF m pc Ls (.ref a :: rest)) rfl rfl hd
  exact ⟨T', ⟨_, X', by rw [e']; exact W, N, by rw [e']; exact K⟩, st⟩
theorem OHere.castNull (H : OHere p l e R s m args below meth c Z n0 kk T cells slots es) (hx : p.tables.exec = Jvm.exec) {index : Nat} (hd : decode c.code pc = .ok (.checkcast index, 3))
    (hr : Steps p.tables e below (T.setTop (mkF m (pc + 3) Ls (.null :: rest))) target) : Steps p.tables e below (T.setTop (mkF m pc Ls (.null :: rest))) target := by
  obtain ⟨locs, X, W, N, K⟩ := H
  exact X.checkcastNull hx (g := mkF m pc Ls (.null :: rest)) rfl rfl hd target hr
theorem OHere.areturn (H : OHere p l e R s m args below meth c Z n0 kk T cells slots es) (hx : p.tables.exec = Jvm.exec) (hlocks : meth.locks = false) {ty : FieldType} (hret : meth.sig.returnType = some ty) (hty : ty.isReference = true) {v : Value} (hv : v.isRef = true) (hd : decode c.code pc = .ok (.areturn, 1)) (hk : cells ≤ k) (hn : slots ≤ n)
    (hQ : ∀ h L, OWorld Z n0 h es → Fr n0 L → Q (some v) h L) : OEnds p e below s k n Q (T.setTop (mkF m pc Ls [v])) := by
  obtain ⟨locs, X, W, N, K⟩ := H
  obtain ⟨fs, hr, hrun, hended, hW, hsame⟩ := X.leave (v := some v) (fun h => by rw [hret] at h; cases h) hlocks
  exact ⟨_, _, X.areturnOut hx hv hret hty hd hr, hrun, hended, _, _, rfl, hQ _ _ W N, ⟨_, rfl⟩, hW, hsame.mono hk hn⟩
theorem OHere.face (H : OHere p l e R s m args below meth c Z n0 kk T cells slots es) (hx : p.tables.exec = Jvm.exec) (hZ : Z.Warmed39 s.vm) {own C : String} {index count : Nat} {y z : MethodName} {bytes : ByteArray} {maxL : Nat} {ret : Option FieldType} {rm : Room} {as' : Array Value} {P : Option Value → List OEnt → Prop} {fs : List OFEnt} {W : Nat}
    (hown : s.vm.findClass own = some m.cls) (w1 : (Cond.methodLink own index y).before a0 Z = true) (w2 : (Cond.declares y).before a0 Z = true) (w2' : (Cond.interfaceMethod y.cls y.cls y.name y.desc).before a0 Z = true) (k2 : ((Cond.interfaceMethod y.cls y.cls y.name y.desc).onTables && (Cond.interfaceMethod y.cls y.cls y.name y.desc).keepsFace) = true) (w3 : (Cond.selects C y z).before a0 Z = true) (w4 : (Cond.instanceMethod z).before a0 Z = true) (w7 : (Cond.publicMethod z).before a0 Z = true) (w8 : (Cond.unhidden C y.name y.desc).before a0 Z = true) (w9 : (Cond.castable C y.cls).before a0 Z = true) (w5 : (Cond.initialized z.cls).before a0 Z = true) (w6 : (Cond.code z bytes maxL ret).before a0 Z = true) (hy : y.cls ≠ "java/lang/invoke/MethodHandle" ∧ y.cls ≠ "java/lang/invoke/VarHandle")
    (hq : es[q]? = some (eO a C fs)) (hM : OCon l Z n0 z bytes maxL ret [] rm as' es P) (hf : rm.frames + 1 ≤ R.frames) (hl : W + (maxL + 11) + rm.locals ≤ R.locals)
    {argsL : List Value} (hsize : Ls.size = c.maxLocals) (hlen : ∀ sig, parseMethodDescriptor y.desc = some sig → argsL.length = sig.parameters.length) (has : (.ref a :: argsL).toArray = as') (hW : (rest.map fun v => v.category).sum ≤ W)
    (hd : decode c.code pc = .ok (.invokeinterface index count, 5)) (hcells : cells + rm.cells ≤ R.cells) (hslots : slots + rm.slots ≤ R.slots) :
    ∃ T' v es', P v es' ∧ OHere p l e R s m args below meth c Z n0 kk T' (cells + rm.cells) (slots + rm.slots) es' ∧
      ∀ target, Steps p.tables e below (T'.setTop (mkF m (pc + 5) Ls (v.toList ++ rest))) target → Steps p.tables e below (T.setTop (mkF m pc Ls (argsL.reverse ++ .ref a :: rest))) target := by
  obtain ⟨locs, X, W', N, K⟩ := H
  obtain ⟨cB, kB, qa, qb, qc⟩ := isOf hZ (T := T) rfl (W'.obj hq).1
  obtain ⟨v', vm₁, ⟨T1, L1, k1, n1⟩, -, X1, ⟨Lc, ⟨⟨e2, es', hP, e3⟩, hsz⟩, l1, y1, z1⟩, st⟩ := X.interfaceBack hx (xi := y) (y := z) hown (mvT hZ w1) (mvT hZ w2) (mvT hZ w2' k2) (mvT hZ w3) (mvT hZ w4) (mvT hZ w7) (mvT hZ w8) (mvT hZ w9) hy
    (backOf (W := W) (Q := fun v' h' L => (Fr n0 L ∧ ∃ es', P v' es' ∧ OWorld Z n0 h' es') ∧ T.heap.size ≤ h'.size) (hM.sz T.heap W') hZ w6 w5 hf hl) qa qb qc (g := mkF m pc Ls (argsL.reverse ++ .ref a :: rest)) rfl hsize (Steps.refl _) (argsL := argsL) (rest := rest) hlen rfl
    (by show 2 * 0 + _ ≤ _; rw [Nat.mul_zero, Nat.zero_add]; exact hW) hd (fun _ _ => ⟨has, rfl, hcells, hslots⟩)
  dsimp only [Pt.U, Pt.locs, Pt.cells, Pt.slots] at X1 l1 y1 z1 st e3 hsz
  subst l1 y1 z1
  exact ⟨T1, v', es', hP, ⟨_, X1, e3, N.app e2, Nat.le_trans K hsz⟩, fun target k => st.trans k⟩
end OHere
end Jvm.RoadKit
namespace Jvm.RoadKit
open Sem ClassFile Op Lib Jvm.Stand Jvm.Free Jvm.LawKit
section ObjEq
variable {p : Program} {l : Launch} {e : Env} {R : Room} {s : State} {below : List Frame} {sargs : Array Value}
abbrev objEq : MethodName := ⟨"java/lang/Object", "equals", "(Ljava/lang/Object;)Z"⟩
/-- Object.equals, walked in its caller's stead: nothing is asked of the class's initialisation -/
theorem objEq_back {bytes : ByteArray} {len W : Nat} (hx : p.tables.exec = Jvm.exec) (hcode : (Cond.code objEq bytes 2 (some .boolean)).before sargs s = true)
    (d0 : decode bytes 0 = .ok (.aload_n 0, 1)) (d1 : decode bytes 1 = .ok (.aload_n 1, 1)) (d2 : decode bytes 2 = .ok (.if_acmp .ne 7, 3)) (d5 : decode bytes 5 = .ok (.iconst 1, 1)) (d6 : decode bytes 6 = .ok (.goto 4, 3)) (d9 : decode bytes 9 = .ok (.iconst 0, 1)) (d10 : decode bytes 10 = .ok (.ireturn, 1))
    (hpl : plainFor objEq = true) (hfr : 1 ≤ R.frames) (hlo : W + 13 ≤ R.locals) (x : Addr) (v : Value) (hv : v.isRef = true) :
    Back l R p e below s sargs objEq len W (fun A a => a = #[.ref x, v]) (fun A _ r B => r = some (.int (if (.ref x : Value) = v then 1 else 0)) ∧ B = A) := by
  intro m meth c A g ig mk a X hg hsize hdg hW hn hp
  subst hp
  obtain ⟨U, Ls, c0, s0⟩ := A
  dsimp only [Pt.U, Pt.locs, Pt.cells, Pt.slots] at X hn ⊢
  have hcU : (Cond.code objEq bytes 2 (some .boolean)).before #[] U = true := word_at X.warmed (Or.inl rfl) hcode
  obtain ⟨methY, cY, hmY, hcY, hbY, hlY, hrY, hlkY, -, -⟩ := Cond.code_spec hn hcU
  subst hg
  refine ⟨_, ⟨U, Ls, c0, s0⟩, X, ⟨rfl, rfl⟩, ?_⟩
  have h := X.here
  rw [doInvoke_enter h.top [] hmY hcY hlkY (X.notFull hsize hfr (by rw [hlY]; omega))]
  have hA : At ((U.setTop g).pushFrame (.java (entryFrame mk #[.ref x, v] cY.maxLocals))) mk cY below := h.enter #[.ref x, v] hmY hcY (State.plainMethod.of_named hpl hn hmY)
  have hfr' := frames_entered (g := g) h.top (.java (entryFrame mk #[.ref x, v] cY.maxLocals))
  have hback : ((U.setTop g).pushFrame (.java (entryFrame mk #[.ref x, v] cY.maxLocals))).setFrames (.java g :: U.frames.tail) = U.setTop g := setFrames_entered (s := U) (g := g) h.top _
  have hvm : ((U.setTop g).pushFrame (.java (entryFrame mk #[.ref x, v] cY.maxLocals))).vm = U.vm := rfl
  have hcg : ((U.setTop g).pushFrame (.java (entryFrame mk #[.ref x, v] cY.maxLocals))).code? g.method = some c := by
    have := h.code
    rw [State.code?_eq] at this ⊢
    simpa [State.pushFrame, State.setFrames] using this
  have hloc : entryFrame mk #[.ref x, v] cY.maxLocals = mkF mk 0 #[.val (.ref x), .val v] [] := by
    rw [hlY]
    rcases ref_cases hv with rfl | ⟨y, rfl⟩ <;> rfl
  rw [hloc] at hA hfr' hback hvm hcg ⊢
  generalize (U.setTop g).pushFrame (.java (mkF mk 0 #[.val (.ref x), .val v] [])) = u at hA hfr' hback hvm hcg ⊢
  have hm' : u.vm.method? mk = some methY := by rw [hvm]; exact hmY
  have fin : ∀ (f : JFrame) (acts : List Action) (r : Option Value), f.method = mk → f.locked = none → f.entered = [] → (doReturn e (u.setTop f) acts r).1 = U.setTop { g with pc := g.pc + len, stack := r.toList ++ g.stack } := by
    intro f acts r h1 h2 h3
    subst h1
    rw [doReturn_leave (g := g) (meth := methY) (cg := c) (ig := ig) (len := len) acts hfr' hm' hlkY h2 h3 hcg hdg, hback, State.setTop_setTop]
  refine XS.aloadN hA hx rfl (hb hbY d0) rfl rfl ?_
  show Steps p.tables e below (u.setTop (mkF mk 1 #[.val (.ref x), .val v] [.ref x])) _
  refine XS.aloadN hA hx rfl (hb hbY d1) rfl hv ?_
  show Steps p.tables e below (u.setTop (mkF mk 2 #[.val (.ref x), .val v] [v, .ref x])) _
  have ret : ∀ (z : Int32), nar .boolean z = z → ∀ (Ls : Array Slot), Steps p.tables e below (u.setTop (mkF mk 10 Ls [.int z])) (U.setTop { g with pc := g.pc + len, stack := (some (Value.int z)).toList ++ g.stack }) := by
    intro z hz Ls
    have hnr : narrow .boolean (.int z) = .int z := by show Value.int (nar .boolean z) = _; rw [hz]
    show Steps p.tables e below (u.setTop { method := mk, pc := 10, locals := Ls, stack := [.int z], locked := none }) _
    have d10' := hb hbY d10
    jvm_step hA [hA.top, hx, d10', hm', hrY, hnr]
    first | (intro acts; rw [fin _ acts _ rfl rfl rfl]) | rw [fin _ _ _ rfl rfl rfl]
    exact Steps.refl _
  by_cases q : (.ref x : Value) = v
  · rw [if_pos q]
    refine XT.acmpNo hA hx rfl (hb hbY d2) rfl rfl hv (XT.aa_ne_f q) ?_
    show Steps p.tables e below (u.setTop (mkF mk 5 #[.val (.ref x), .val v] [])) _
    refine XT.iconstV hA hx rfl (1 : Int32) (hb hbY d5) rfl ?_
    show Steps p.tables e below (u.setTop (mkF mk 6 #[.val (.ref x), .val v] [.int 1])) _
    refine XS.goto hA hx rfl (pc0 := 6) (pc' := 10) rfl (hb hbY d6) (by decide) (by decide) ?_
    exact ret 1 (by decide) _
  · rw [if_neg q]
    refine XT.acmpYes hA hx rfl (pc0 := 2) (pc' := 9) rfl (hb hbY d2) rfl rfl hv (XT.aa_ne_t q) (by decide) (by decide) ?_
    show Steps p.tables e below (u.setTop (mkF mk 9 #[.val (.ref x), .val v] [])) _
    refine XT.iconstV hA hx rfl (0 : Int32) (hb hbY d9) rfl ?_
    exact ret 0 (by decide) _
end ObjEq
end Jvm.RoadKit
namespace Jvm.RoadKit
open Sem ClassFile Op Lib Jvm.Stand Jvm.Free Jvm.LawKit
section OHere2
variable {p : Program} {l : Launch} {e : Env} {R : Room} {s : State} {m : MethodId} {args : Array Value} {below : List Frame} {meth : Method} {c : Code} {T : State} {cells slots : Nat} {k n : Nat} {Q : Option Value → Heap → List Loc → Prop} {Z : State} {a0 : Array Value} {n0 kk : Nat} {es : List OEnt} {a : Addr} {rest : List Value} {pc : Nat} {Ls : Array Slot} {q : Nat} {target : State}
theorem OHere.equalsO (H : OHere p l e R s m args below meth c Z n0 kk T cells slots es) (hx : p.tables.exec = Jvm.exec) (hZ : Z.Warmed39 s.vm) {own C : String} {index : Nat} {bytes : ByteArray} {fs : List OFEnt} {W : Nat} {v : Value}
    (hown : s.vm.findClass own = some m.cls) (w1 : (Cond.methodLink own index objEq).before a0 Z = true) (w2 : (Cond.declares objEq).before a0 Z = true) (w3 : (Cond.selects C objEq objEq).before a0 Z = true) (w4 : (Cond.instanceMethod objEq).before a0 Z = true) (w6 : (Cond.code objEq bytes 2 (some .boolean)).before a0 Z = true)
    (d0 : decode bytes 0 = .ok (.aload_n 0, 1)) (d1 : decode bytes 1 = .ok (.aload_n 1, 1)) (d2 : decode bytes 2 = .ok (.if_acmp .ne 7, 3)) (d5 : decode bytes 5 = .ok (.iconst 1, 1)) (d6 : decode bytes 6 = .ok (.goto 4, 3)) (d9 : decode bytes 9 = .ok (.iconst 0, 1)) (d10 : decode bytes 10 = .ok (.ireturn, 1)) (hpl : plainFor objEq = true)
    (hq : es[q]? = some (eO a C fs)) (hv : v.isRef = true) (hf : 1 ≤ R.frames) (hl : W + 13 ≤ R.locals) (hsize : Ls.size = c.maxLocals) (hlen : ∀ sig, parseMethodDescriptor objEq.desc = some sig → [v].length = sig.parameters.length) (hW : (rest.map fun v => v.category).sum ≤ W)
    (hd : decode c.code pc = .ok (.invokevirtual index, 3)) :
    ∃ T', OHere p l e R s m args below meth c Z n0 kk T' cells slots es ∧
      ∀ target, Steps p.tables e below (T'.setTop (mkF m (pc + 3) Ls (.int (if (.ref a : Value) = v then 1 else 0) :: rest))) target → Steps p.tables e below (T.setTop (mkF m pc Ls (v :: .ref a :: rest))) target := by
  obtain ⟨locs, X, W', N, K⟩ := H
  obtain ⟨cB, kB, qa, qb, qc⟩ := isOf hZ (T := T) rfl (W'.obj hq).1
  obtain ⟨v', vm₁, ⟨T1, L1, k1, n1⟩, hw1, X1, ⟨e1, e2⟩, st⟩ := X.virtualBack hx (y := objEq) (z := objEq) hown (mvT hZ w1) (mvT hZ w2) ((nf_sel w3 rfl).nf hZ) (mvT hZ w3) (mvT hZ w4) (by decide)
    (objEq_back (W := W) hx (mvT hZ w6) d0 d1 d2 d5 d6 d9 d10 hpl hf hl a v hv) qa qc (g := mkF m pc Ls (v :: .ref a :: rest)) rfl hsize (Steps.refl _) (argsL := [v]) (rest := rest) hlen rfl
    (by show 2 * 0 + _ ≤ _; rw [Nat.mul_zero, Nat.zero_add]; exact hW) hd (fun _ _ => rfl)
  cases e2
  subst e1
  exact ⟨_, ⟨_, X1, W', N, K⟩, fun target k => st.trans k⟩
/-! a walk that interns String constants -/
def OEndsW (p : Program) (e : Env) (below : List Frame) (s : State) (k n : Nat) (Q : Option Value → Heap → List Loc → Prop) (A : State) : Prop :=
  ∃ s₂ o, Steps p.tables e below A s₂ ∧ s₂.status = .running ∧ Ended s₂ below o ∧ ∃ v L, o = .returned v ∧ Q v s₂.heap L ∧ ReturnedEndW s o s₂ L k n
theorem OEndsW.pre {A B : State} (h : ∀ t, Steps p.tables e below B t → Steps p.tables e below A t) (hB : OEndsW p e below s k n Q B) : OEndsW p e below s k n Q A := by
  obtain ⟨s₂, o, h1, h2⟩ := hB
  exact ⟨s₂, o, h _ h1, h2⟩
theorem OHere.nrwW {vm0 : Vm} {ty : FieldType} (H : OHere p l e R (s.setVm vm0) m args below meth c Z n0 kk T cells slots es) (hS : s.Since vm0 kk) (hx : p.tables.exec = Jvm.exec) (hlocks : meth.locks = false) (hret : meth.sig.returnType = some ty) (ht : ty = .boolean ∨ ty = .byte ∨ ty = .char ∨ ty = .short) {z : Int32} (hd : decode c.code pc = .ok (.ireturn, 1)) (hk : cells ≤ k) (hn : slots ≤ n)
    (hQ : ∀ h L, OWorld Z n0 h es → Fr n0 L → Q (some (.int (nar ty z))) h L) : OEndsW p e below s k n Q (T.setTop (mkF m pc Ls (.int z :: rest))) := by
  obtain ⟨locs, X, W, N, K⟩ := H
  obtain ⟨fs, hr, hrun, hended, h1, h2, h3, h4⟩ := X.leaveW hS K (v := some (.int (nar ty z))) (fun h => by rw [hret] at h; cases h) hlocks
  exact ⟨_, _, retN X hx hret ht hd hr, hrun, hended, _, _, rfl, hQ _ _ W N, h1, h2, h3, h4.mono hk hn⟩
theorem OHere.ldcS {vm0 : Vm} (H : OHere p l e R (s.setVm vm0) m args below meth c Z n0 kk T cells slots es) (hS : s.Since vm0 kk) (hx : p.tables.exec = Jvm.exec) (hZ : Z.Warmed39 vm0) {own text : String} {index : Nat} (hown : vm0.findClass own = some m.cls) (w : (Cond.stringLink own index text).before a0 Z = true) (wS : ∀ a ∈ Bundle.stringAtoms, a.before a0 Z = true)
    (hd : decode c.code pc = .ok (.ldc index, 2)) {u : Nat} (hn : 4 * text.toList.length ≤ u) (hbig : u ≤ 536870912) (hc : cells + 2 ≤ R.cells) (hl : slots + (u + 4) ≤ R.slots) :
    ∃ T' b k1, s.Since T'.vm k1 ∧ Z.Warmed39 (s.setVm T'.vm).vm ∧ (s.setVm T'.vm).vm.findClass own = some m.cls ∧ OHere p l e R (s.setVm T'.vm) m args below meth c Z n0 k1 T' (cells + 2) (slots + (u + 4)) es ∧
      ∀ target, Steps p.tables e below (T'.setTop (mkF m (pc + 2) Ls (.ref b :: rest))) target → Steps p.tables e below (T.setTop (mkF m pc Ls rest)) target := by
  obtain ⟨locs, X, W, N, K⟩ := H
  obtain ⟨b, T', h', k1, X', e', E', S', hk1, hZ', hown', st⟩ := RoadKit.ldcS X hx hZ hown w wS rfl hS K (g := mkF m pc Ls rest) rfl hd hn hbig hc hl
  subst e'
  exact ⟨T', b, k1, S', hZ', hown', ⟨_, X', W.ext E', N, hk1⟩, st⟩
end OHere2
end Jvm.RoadKit
namespace Jvm.RoadKit
theorem memAt {pre F : List OEnt} {e : OEnt} (h : e ∈ F) : ∃ q : Nat, (pre ++ F)[q]? = some e := List.mem_iff_getElem?.mp (List.mem_append_right pre h)
theorem k_lt : ∀ i < 20, ∀ n < 20, ((i : Nat).toInt32 < (n : Nat).toInt32 ↔ i < n) := by decide
theorem k_eq : ∀ i < 20, ∀ n < 20, ((i : Nat).toInt32 = (n : Nat).toInt32 ↔ i = n) := by decide
theorem k_nneg : ∀ i < 20, ¬ (i : Nat).toInt32 < 0 := by decide
theorem k_at : ∀ i < 20, (i : Nat).toInt32.toNatClampNeg = i := by decide
theorem k_succ : ∀ i < 20, (i : Nat).toInt32 + 1 = (i + 1).toInt32 := by decide
end Jvm.RoadKit
namespace Jvm.RoadKit
theorem OHere.nodup {p : Program} {l : Launch} {e : Env} {R : Room} {s : State} {m : MethodId} {args : Array Value} {below : List Frame} {meth : Method} {c : ClassFile.Code} {T : State} {cells slots : Nat} {Z : State} {n0 kk : Nat} {es : List OEnt} (H : OHere p l e R s m args below meth c Z n0 kk T cells slots es) : (es.map (·.1)).Nodup := by
  obtain ⟨locs, X, W, N, K⟩ := H; exact W.2.2
end Jvm.RoadKit
namespace Jvm.RoadKit
open Sem ClassFile Op Lib Jvm.Stand Jvm.Free Jvm.LawKit
abbrev vI (x : Int32) : Slot := .val (.int x)
abbrev vR (a : Addr) : Slot := .val (.ref a)
abbrev uN : Slot := .unset
theorem tWd {ws : List Cond} {a0 : Array Value} {Z : State} (hw : ∀ d ∈ ws, d.before a0 Z = true) {d : Cond} (i : Nat) (h : ws[i]? = some d) : d.before a0 Z = true := hw d (List.mem_of_getElem? h)
end Jvm.RoadKit
namespace Jvm.Own
open Jvm.RoadKit Jvm.Free
theorem nat_or32 (n : Nat) : n ||| 32 = if n / 32 % 2 = 0 then n + 32 else n := by
  have h1 : (n ||| 32) / 64 = n / 64 := by
    have := Nat.or_div_two_pow (a := n) (b := 32) (n := 6)
    simpa using this
  have h2 : (n ||| 32) % 64 = (n % 64) ||| 32 := by
    have := Nat.or_mod_two_pow (a := n) (b := 32) (n := 6)
    simpa using this
  have h3 : ∀ r < 64, r ||| 32 = if r / 32 % 2 = 0 then r + 32 else r := by decide
  have h4 := h3 (n % 64) (Nat.mod_lt _ (by decide))
  rw [h4] at h2
  split at h2 <;> split <;> omega
theorem toInt_nat (u : Int32) : u.toInt = if u.toBitVec.toNat < 2 ^ 31 then (u.toBitVec.toNat : Int) else (u.toBitVec.toNat : Int) - 2 ^ 32 := by
  have : u.toInt = u.toBitVec.toInt := rfl
  rw [this, BitVec.toInt_eq_toNat_cond]
  split <;> split <;> omega
theorem or32 (u : Int32) : (u ||| 32).toInt = if u.toInt / 32 % 2 = 0 then u.toInt + 32 else u.toInt := by
  have e : (u ||| 32).toBitVec.toNat = u.toBitVec.toNat ||| 32 := by simp [Int32.toBitVec_or, BitVec.toNat_or]
  have hb := u.toBitVec.isLt
  rw [toInt_nat, toInt_nat u, e, nat_or32]
  repeat' split
  all_goals omega
theorem i64_nat (u : Int64) : u.toInt = if u.toBitVec.toNat < 2 ^ 63 then (u.toBitVec.toNat : Int) else (u.toBitVec.toNat : Int) - 2 ^ 64 := by
  have : u.toInt = u.toBitVec.toInt := rfl
  rw [this, BitVec.toInt_eq_toNat_cond]
  split <;> split <;> omega
theorem or_neg64 (x y : Int64) : (x ||| y) < 0 ↔ x < 0 ∨ y < 0 := by
  have h : ∀ z : Int64, z < 0 ↔ z.toBitVec.msb = true := fun z => by
    rw [Int64.lt_iff_toInt_lt, Int64.toInt_zero]
    show z.toBitVec.toInt < 0 ↔ _
    rw [BitVec.toInt_neg_iff, BitVec.msb_eq_decide]; simp; omega
  simp [h, Int64.toBitVec_or, BitVec.msb_or]
theorem ushr_le (x : Int64) (y : Int32) : (XT.ushrL x y).toBitVec.toNat ≤ x.toBitVec.toNat := by
  simp only [XT.ushrL, UInt64.toBitVec_toInt64, UInt64.toBitVec_shiftRight, Int64.toBitVec_toUInt64]
  rw [BitVec.ushiftRight_eq', BitVec.toNat_ushiftRight, Nat.shiftRight_eq_div_pow]
  exact Nat.div_le_self _ _
theorem ushr_nonneg (x : Int64) (y : Int32) (h : 0 ≤ x.toInt) : 0 ≤ (XT.ushrL x y).toInt := by
  have h1 := ushr_le x y
  rw [i64_nat] at *
  have := x.toBitVec.isLt
  have := (XT.ushrL x y).toBitVec.isLt
  split at h <;> split <;> omega
theorem ushr44 (x : Int64) : 0 ≤ (XT.ushrL x 44).toInt ∧ (XT.ushrL x 44).toInt < 2 ^ 20 := by
  have e : (XT.ushrL x 44).toBitVec.toNat = x.toBitVec.toNat / 2 ^ 44 := by
    simp only [XT.ushrL, UInt64.toBitVec_toInt64, UInt64.toBitVec_shiftRight, Int64.toBitVec_toUInt64]
    rw [BitVec.ushiftRight_eq', BitVec.toNat_ushiftRight, Nat.shiftRight_eq_div_pow]
    rfl
  have := x.toBitVec.isLt
  rw [i64_nat, e]
  split <;> omega
theorem narc_toInt (x : Int32) : (nar .char x).toInt = x.toInt % 65536 := by
  have e : (nar .char x).toBitVec.toNat = x.toBitVec.toNat % 65536 := by
    show x.toUInt32.toUInt16.toUInt32.toInt32.toBitVec.toNat = _
    simp
  rw [toInt_nat, e, toInt_nat x]
  have := x.toBitVec.isLt
  repeat' split
  all_goals omega
theorem and_max64 (x : Int64) : 0 ≤ (x &&& 9223372036854775807).toInt := by
  have e : (x &&& 9223372036854775807).toBitVec.toNat = x.toBitVec.toNat &&& 9223372036854775807 := by simp [Int64.toBitVec_and, BitVec.toNat_and]
  have h : x.toBitVec.toNat &&& 9223372036854775807 ≤ 9223372036854775807 := Nat.and_le_right
  rw [i64_nat, e]
  split <;> omega
theorem and_max32 (x : Int32) : 0 ≤ (x &&& 2147483647).toInt := by
  have e : (x &&& 2147483647).toBitVec.toNat = x.toBitVec.toNat &&& 2147483647 := by simp [Int32.toBitVec_and, BitVec.toNat_and]
  have h : x.toBitVec.toNat &&& 2147483647 ≤ 2147483647 := Nat.and_le_right
  rw [toInt_nat, e]
  split <;> omega
theorem bv_toInt (b : BitVec 64) (k : Nat) (hb : b.toNat = k) (hk : k < 64) : b.toInt = k := by
  rw [BitVec.toInt_eq_toNat_of_lt (by omega), hb]
theorem bv_smod (b : BitVec 64) (k : Nat) (hb : b.toNat = k) (hk : k < 64) : (b.smod 64).toNat = k := by
  have h1 := bv_toInt b k hb hk
  have e : b.smod 64 = BitVec.ofNat 64 k := by
    apply BitVec.eq_of_toInt_eq
    rw [bv_toInt (BitVec.ofNat 64 k) k (by simp; omega) hk, BitVec.toInt_smod, h1, show (64 : BitVec 64).toInt = 64 from by decide, Int.fmod_eq_emod_of_nonneg _ (by omega)]; omega
  rw [e]; simp; omega
theorem and63 (y : Int64) : (y &&& 63).toBitVec.toNat = y.toBitVec.toNat % 64 := by
  rw [Int64.toBitVec_and, BitVec.toNat_and]
  have : (63 : Int64).toBitVec.toNat = 2 ^ 6 - 1 := rfl
  rw [this, Nat.and_two_pow_sub_one_eq_mod]
theorem shl_bv (x y : Int64) (k : Nat) (hy : y.toBitVec.toNat % 64 = k) : (x <<< (y &&& 63)).toBitVec = x.toBitVec <<< k := by
  have : (x <<< (y &&& 63)).toBitVec = x.toBitVec <<< ((y &&& 63).toBitVec.smod 64) := rfl
  rw [this, BitVec.shiftLeft_eq', bv_smod _ k (by rw [and63, hy]) (by omega)]
theorem neg_msb (z : Int64) : z < 0 ↔ z.toBitVec.msb = true := by
  rw [Int64.lt_iff_toInt_lt, Int64.toInt_zero]
  show z.toBitVec.toInt < 0 ↔ _
  rw [BitVec.toInt_neg_iff, BitVec.msb_eq_decide]; simp; omega
theorem shl_neg (x y : Int64) (k : Nat) (hk : k < 64) (hy : y.toBitVec.toNat % 64 = 63 - k) : (x <<< (y &&& 63)) < 0 ↔ x.toBitVec.getLsbD k = true := by
  rw [neg_msb, shl_bv x y (63 - k) hy, BitVec.msb_eq_getLsbD_last, BitVec.getLsbD_shiftLeft]
  have e : 63 - (63 - k) = k := by omega
  simp [e]
theorem mask_zero (x y : Int64) (k : Nat) (hy : y.toBitVec.toNat % 64 = k) : (x &&& ((1 : Int64) <<< (y &&& 63))) = 0 ↔ x.toBitVec.getLsbD k = false := by
  have hk : k < 64 := by omega
  rw [← Int64.toBitVec_inj, Int64.toBitVec_and, shl_bv _ _ k hy]
  constructor
  · intro h
    have := congrArg (fun z : BitVec 64 => z.getLsbD k) h
    simp [hk] at this
    exact this
  · intro h
    apply BitVec.eq_of_getLsbD_eq
    intro i hi
    simp only [BitVec.getLsbD_and, BitVec.getLsbD_shiftLeft, Int64.toBitVec_zero, BitVec.getLsbD_zero]
    show (x.toBitVec.getLsbD i && (decide (i < 64) && !decide (i < k) && (1#64).getLsbD (i - k))) = false
    by_cases q : i = k
    · subst q; simp [h]
    · by_cases q2 : i < k
      · simp [q2]
      · have : (1#64).getLsbD (i - k) = false := by
          rw [BitVec.getLsbD_one]; simp; omega
        simp [this]
theorem ushrL_bv (x : Int64) (y : Int32) (k : Nat) (hy : y.toInt64.toBitVec.toNat % 64 = k) : (XT.ushrL x y).toBitVec = x.toBitVec >>> k := by
  have e : (XT.ushrL x y).toBitVec = x.toBitVec >>> ((y.toInt64.toBitVec &&& 63) % 64) := by
    simp [XT.ushrL]
  rw [e, BitVec.ushiftRight_eq']
  congr 1
  have := and63 y.toInt64
  rw [Int64.toBitVec_and] at this
  have h2 : ((y.toInt64.toBitVec &&& 63) % 64).toNat = (y.toInt64.toBitVec &&& 63).toNat % 64 := by simp [BitVec.toNat_umod]
  rw [h2]
  have h3 : (y.toInt64.toBitVec &&& 63).toNat = y.toInt64.toBitVec.toNat % 64 := this
  rw [h3]; omega
end Jvm.Own
namespace Jvm.Pilot.@@N@@
open Jvm Jvm.ClassFile Sem Op Lib Jvm.Free Jvm.Stand Jvm.LawKit Jvm.RoadKit Bundle Jvm.Pilot.@@N@@.Jvm.D
open Jvm.Own
theorem pd_ocV : parseMethodDescriptor "()V" = some ⟨[], none⟩ := by decide +kernel
theorem pd_oIcALjava_lang_Object_ : parseMethodDescriptor "(I)[Ljava/lang/Object;" = some ⟨[.int], some (.array (.object "java/lang/Object"))⟩ := by decide +kernel
theorem pd_oIIcI : parseMethodDescriptor "(II)I" = some ⟨[.int, .int], some .int⟩ := by decide +kernel
theorem d5_0 : decode jdk_22_method_1_code 0 = .ok (.aload_n 0, 1) := by decide +kernel
theorem d5_1 : decode jdk_22_method_1_code 1 = .ok (.invokespecial 1, 3) := by decide +kernel
theorem d5_4 : decode jdk_22_method_1_code 4 = .ok (.return_, 1) := by decide +kernel
theorem pn_5 : plainFor (⟨"java/util/AbstractCollection", "<init>", "()V"⟩ : MethodName) = true := by first | exact plainFor_of_name (by first | (simp [plainName, overriddenIn]; done) | decide +kernel) | decide +kernel
theorem ef_5 (m : MethodId) (x0 : Addr) : entryFrame m #[(.ref x0)] 1 = mkF m 0 #[.val (.ref x0)] [] := by first | (simp [entryFrame, mkF, argsToLocals, Value.category]; done) | rfl
set_option maxRecDepth 65536 in
set_option maxHeartbeats 40000000 in
theorem conAC (l : Launch) (Z : State) (a0 : Array Value) (hw : ∀ d ∈ tables_1, d.before a0 Z = true) (n0 : Nat) (ws : List Jvm.Cond) (u0 : Addr) (F : List OEnt) :
    OCon l Z n0 (⟨"java/util/AbstractCollection", "<init>", "()V"⟩ : MethodName) jdk_22_method_1_code 1 none ws ({ frames := 1, cells := 0, slots := 0, locals := 12 } : Room) #[(.ref u0)] ([] ++ F) (fun v' es' => v' = none ∧ es' = ([] ++ F)) := by
  intro h0 hW0
  refine MetFree.of_bodySF pn_5 hisR ?_
  intro p e s m args below meth c s₁ Bd hml0 hP hK
  obtain ⟨rfl, hZ, hh⟩ := hP
  have hx := Bd.exec
  have hby := Bd.bytes
  have hml : c.maxLocals = 1 := hml0
  have hown : s.vm.findClass "java/util/AbstractCollection" = some m.cls := findClass_of_methodNamed Bd.named
  have hnm := (name_of_methodNamed Bd.named Bd.method).1
  have H0 : OHere p l e ({ frames := 1, cells := 0, slots := 0, locals := 12 } : Room) s m #[(.ref u0)] below meth c Z n0 0 s₁ 0 0 ([] ++ F) := ⟨[], Stand.of_body Bd, by rw [show s₁.heap = h0 from by rw [← hh, Bd.state]; rfl]; exact hW0, Fr.nil _, Nat.zero_le _⟩
  show OEnds p e below s _ _ (fun v' h' L => Fr n0 L ∧ ∃ es', (fun v' es' => v' = none ∧ es' = ([] ++ F)) v' es' ∧ OWorld Z n0 h' es') _
  refine OEnds.pre (fun t k => castTop (ef_5 m u0) k) ?_
  show OEnds p e below s _ _ _ (s₁.setTop (mkF m 0 #[vR u0] []))
  refine OEnds.pre (fun t_ k_ => XS.aloadN H0.here hx rfl (hb hby d5_0) rfl rfl k_) ?_
  show OEnds p e below s _ _ _ (s₁.setTop (mkF m 1 #[vR u0] [(.ref u0)]))
  obtain ⟨T1, H1, st1⟩ := OHere.initO H0 hx hZ (pc := 1) (Ls := #[vR u0]) (rest := []) (a := u0) hown (tWd hw 50 rfl) (tWd hw 16 rfl) (tWd hw 17 rfl) (by rw [hml]; rfl) (hb hby d5_1) (by decide) (W := 0) (Nat.le_of_eq rfl) (by decide)
  replace H1 : OHere p l e _ s m _ below meth c Z n0 0 T1 0 0 ([] ++ F) := H1
  refine OEnds.pre (fun t_ k_ => st1 _ k_) ?_
  show OEnds p e below s _ _ _ (T1.setTop (mkF m 4 #[vR u0] []))
  exact H1.ret hx Bd.notSynchronized Bd.returns (hb hby d5_4) (by decide) (by decide) (fun h L W N => ⟨N, _, ⟨rfl, rfl⟩, W⟩)
theorem d4_0 : decode jdk_39_method_1_code 0 = .ok (.aload_n 0, 1) := by decide +kernel
theorem d4_1 : decode jdk_39_method_1_code 1 = .ok (.invokespecial 1, 3) := by decide +kernel
theorem d4_4 : decode jdk_39_method_1_code 4 = .ok (.aload_n 0, 1) := by decide +kernel
theorem d4_5 : decode jdk_39_method_1_code 5 = .ok (.iconst 0, 1) := by decide +kernel
theorem d4_6 : decode jdk_39_method_1_code 6 = .ok (.putfield 7, 3) := by decide +kernel
theorem d4_9 : decode jdk_39_method_1_code 9 = .ok (.return_, 1) := by decide +kernel
theorem pn_4 : plainFor (⟨"java/util/AbstractList", "<init>", "()V"⟩ : MethodName) = true := by first | exact plainFor_of_name (by first | (simp [plainName, overriddenIn]; done) | decide +kernel) | decide +kernel
theorem ef_4 (m : MethodId) (x0 : Addr) : entryFrame m #[(.ref x0)] 1 = mkF m 0 #[.val (.ref x0)] [] := by first | (simp [entryFrame, mkF, argsToLocals, Value.category]; done) | rfl
set_option maxRecDepth 65536 in
set_option maxHeartbeats 40000000 in
theorem conABL (l : Launch) (Z : State) (a0 : Array Value) (hw : ∀ d ∈ tables_1, d.before a0 Z = true) (n0 : Nat) (ws : List Jvm.Cond) (u0 : Addr) (F : List OEnt) (d0 : Value) :
    OCon l Z n0 (⟨"java/util/AbstractList", "<init>", "()V"⟩ : MethodName) jdk_39_method_1_code 1 none ws ({ frames := 2, cells := 0, slots := 0, locals := 24 } : Room) #[(.ref u0)] ([(eO u0 "java/util/ArrayList" [("java/util/AbstractList", "modCount", "I", (.int 0)), ("java/util/ArrayList", "elementData", "[Ljava/lang/Object;", d0), ("java/util/ArrayList", "size", "I", (.int 0))])] ++ F) (fun v' es' => v' = none ∧ es' = ([(eO u0 "java/util/ArrayList" [("java/util/AbstractList", "modCount", "I", (.int (0 : Int32))), ("java/util/ArrayList", "elementData", "[Ljava/lang/Object;", d0), ("java/util/ArrayList", "size", "I", (.int 0))])] ++ F)) := by
  intro h0 hW0
  refine MetFree.of_bodySF pn_4 hisR ?_
  intro p e s m args below meth c s₁ Bd hml0 hP hK
  obtain ⟨rfl, hZ, hh⟩ := hP
  have hx := Bd.exec
  have hby := Bd.bytes
  have hml : c.maxLocals = 1 := hml0
  have hown : s.vm.findClass "java/util/AbstractList" = some m.cls := findClass_of_methodNamed Bd.named
  have hnm := (name_of_methodNamed Bd.named Bd.method).1
  have H0 : OHere p l e ({ frames := 2, cells := 0, slots := 0, locals := 24 } : Room) s m #[(.ref u0)] below meth c Z n0 0 s₁ 0 0 ([(eO u0 "java/util/ArrayList" [("java/util/AbstractList", "modCount", "I", (.int 0)), ("java/util/ArrayList", "elementData", "[Ljava/lang/Object;", d0), ("java/util/ArrayList", "size", "I", (.int 0))])] ++ F) := ⟨[], Stand.of_body Bd, by rw [show s₁.heap = h0 from by rw [← hh, Bd.state]; rfl]; exact hW0, Fr.nil _, Nat.zero_le _⟩
  show OEnds p e below s _ _ (fun v' h' L => Fr n0 L ∧ ∃ es', (fun v' es' => v' = none ∧ es' = ([(eO u0 "java/util/ArrayList" [("java/util/AbstractList", "modCount", "I", (.int (0 : Int32))), ("java/util/ArrayList", "elementData", "[Ljava/lang/Object;", d0), ("java/util/ArrayList", "size", "I", (.int 0))])] ++ F)) v' es' ∧ OWorld Z n0 h' es') _
  refine OEnds.pre (fun t k => castTop (ef_4 m u0) k) ?_
  show OEnds p e below s _ _ _ (s₁.setTop (mkF m 0 #[vR u0] []))
  refine OEnds.pre (fun t_ k_ => XS.aloadN H0.here hx rfl (hb hby d4_0) rfl rfl k_) ?_
  show OEnds p e below s _ _ _ (s₁.setTop (mkF m 1 #[vR u0] [(.ref u0)]))
  obtain ⟨T1, _, _, ⟨rfl, rfl⟩, H1, st1⟩ := OHere.special H0 hx hZ (y := (⟨"java/util/AbstractCollection", "<init>", "()V"⟩ : MethodName)) rfl (W := 0) (a := u0) hown (tWd hw 44 rfl) (tWd hw 45 rfl) (tWd hw 48 rfl) (tWd hw 49 rfl) (by decide) (conAC l Z a0 hw n0 [] u0 ([(eO u0 "java/util/ArrayList" [("java/util/AbstractList", "modCount", "I", (.int 0)), ("java/util/ArrayList", "elementData", "[Ljava/lang/Object;", d0), ("java/util/ArrayList", "size", "I", (.int 0))])] ++ F)) (by decide) (by decide) (pc := 1) (Ls := #[vR u0]) (argsL := []) (rest := []) (by rw [hml]; rfl) (lenOf pd_ocV rfl) rfl (Nat.le_of_eq rfl) (hb hby d4_1) (by decide) (by decide)
  replace H1 : OHere p l e _ s m _ below meth c Z n0 0 T1 0 0 ([(eO u0 "java/util/ArrayList" [("java/util/AbstractList", "modCount", "I", (.int 0)), ("java/util/ArrayList", "elementData", "[Ljava/lang/Object;", d0), ("java/util/ArrayList", "size", "I", (.int 0))])] ++ F) := H1
  refine OEnds.pre (fun t_ k_ => st1 _ k_) ?_
  show OEnds p e below s _ _ _ (T1.setTop (mkF m 4 #[vR u0] []))
  refine OEnds.pre (fun t_ k_ => XS.aloadN H1.here hx rfl (hb hby d4_4) rfl rfl k_) ?_
  show OEnds p e below s _ _ _ (T1.setTop (mkF m 5 #[vR u0] [(.ref u0)]))
  refine OEnds.pre (fun t_ k_ => XT.iconstV H1.here hx rfl (0 : Int32) (hb hby d4_5) rfl k_) ?_
  show OEnds p e below s _ _ _ (T1.setTop (mkF m 6 #[vR u0] [(.int (0 : Int32)), (.ref u0)]))
  obtain ⟨T2, H2, st2⟩ := OHere.putfield H1 hx hZ (O := "java/util/AbstractList") (q := 0) (f := 0) (v := (.int (0 : Int32))) (C := "java/util/ArrayList") (ty := .int) (pc := 6) (Ls := #[vR u0]) (rest := []) hown (tWd hw 51 rfl) Via.refl (fs := [("java/util/AbstractList", "modCount", "I", (.int 0)), ("java/util/ArrayList", "elementData", "[Ljava/lang/Object;", d0), ("java/util/ArrayList", "size", "I", (.int 0))]) rfl rfl (Or.inl (tWd hw 52 rfl)) (tWd hw 33 rfl) (by decide) rfl rfl (hb hby d4_6)
  replace H2 : OHere p l e _ s m _ below meth c Z n0 0 T2 0 0 ([(eO u0 "java/util/ArrayList" [("java/util/AbstractList", "modCount", "I", (.int (0 : Int32))), ("java/util/ArrayList", "elementData", "[Ljava/lang/Object;", d0), ("java/util/ArrayList", "size", "I", (.int 0))])] ++ F) := H2
  refine OEnds.pre (fun t_ k_ => st2 _ k_) ?_
  show OEnds p e below s _ _ _ (T2.setTop (mkF m 9 #[vR u0] []))
  exact H2.ret hx Bd.notSynchronized Bd.returns (hb hby d4_9) (by decide) (by decide) (fun h L W N => ⟨N, _, ⟨rfl, rfl⟩, W⟩)
theorem d3_0 : decode jdk_38_method_2_code 0 = .ok (.aload_n 0, 1) := by decide +kernel
theorem d3_1 : decode jdk_38_method_2_code 1 = .ok (.invokespecial 1, 3) := by decide +kernel
theorem d3_4 : decode jdk_38_method_2_code 4 = .ok (.aload_n 0, 1) := by decide +kernel
theorem d3_5 : decode jdk_38_method_2_code 5 = .ok (.getstatic 39, 3) := by decide +kernel
theorem d3_8 : decode jdk_38_method_2_code 8 = .ok (.putfield 9, 3) := by decide +kernel
theorem d3_11 : decode jdk_38_method_2_code 11 = .ok (.return_, 1) := by decide +kernel
theorem pn_3 : plainFor (⟨"java/util/ArrayList", "<init>", "()V"⟩ : MethodName) = true := by first | exact plainFor_of_name (by first | (simp [plainName, overriddenIn]; done) | decide +kernel) | decide +kernel
theorem ef_3 (m : MethodId) (x0 : Addr) : entryFrame m #[(.ref x0)] 1 = mkF m 0 #[.val (.ref x0)] [] := by first | (simp [entryFrame, mkF, argsToLocals, Value.category]; done) | rfl
set_option maxRecDepth 65536 in
set_option maxHeartbeats 40000000 in
theorem conALi (l : Launch) (Z : State) (a0 : Array Value) (hw : ∀ d ∈ tables_1, d.before a0 Z = true) (n0 : Nat) (ws : List Jvm.Cond) (u0 : Addr) (F : List OEnt) (dd : Addr) (hSt : Sta Z Z.heap "java/util/ArrayList" "DEFAULTCAPACITY_EMPTY_ELEMENTDATA" "[Ljava/lang/Object;" (.ref dd)) (hDd : OOldArr Z dd "java/lang/Object" 0) :
    OCon l Z n0 (⟨"java/util/ArrayList", "<init>", "()V"⟩ : MethodName) jdk_38_method_2_code 1 none ws ({ frames := 3, cells := 0, slots := 0, locals := 36 } : Room) #[(.ref u0)] ([(eO u0 "java/util/ArrayList" [("java/util/AbstractList", "modCount", "I", (.int 0)), ("java/util/ArrayList", "elementData", "[Ljava/lang/Object;", .null), ("java/util/ArrayList", "size", "I", (.int 0))])] ++ F) (fun v' es' => v' = none ∧ es' = ([(eO u0 "java/util/ArrayList" [("java/util/AbstractList", "modCount", "I", (.int (0 : Int32))), ("java/util/ArrayList", "elementData", "[Ljava/lang/Object;", (.ref dd)), ("java/util/ArrayList", "size", "I", (.int 0))])] ++ F)) := by
  intro h0 hW0
  refine MetFree.of_bodySF pn_3 hisR ?_
  intro p e s m args below meth c s₁ Bd hml0 hP hK
  obtain ⟨rfl, hZ, hh⟩ := hP
  have hx := Bd.exec
  have hby := Bd.bytes
  have hml : c.maxLocals = 1 := hml0
  have hown : s.vm.findClass "java/util/ArrayList" = some m.cls := findClass_of_methodNamed Bd.named
  have hnm := (name_of_methodNamed Bd.named Bd.method).1
  have H0 : OHere p l e ({ frames := 3, cells := 0, slots := 0, locals := 36 } : Room) s m #[(.ref u0)] below meth c Z n0 0 s₁ 0 0 ([(eO u0 "java/util/ArrayList" [("java/util/AbstractList", "modCount", "I", (.int 0)), ("java/util/ArrayList", "elementData", "[Ljava/lang/Object;", .null), ("java/util/ArrayList", "size", "I", (.int 0))])] ++ F) := ⟨[], Stand.of_body Bd, by rw [show s₁.heap = h0 from by rw [← hh, Bd.state]; rfl]; exact hW0, Fr.nil _, Nat.zero_le _⟩
  show OEnds p e below s _ _ (fun v' h' L => Fr n0 L ∧ ∃ es', (fun v' es' => v' = none ∧ es' = ([(eO u0 "java/util/ArrayList" [("java/util/AbstractList", "modCount", "I", (.int (0 : Int32))), ("java/util/ArrayList", "elementData", "[Ljava/lang/Object;", (.ref dd)), ("java/util/ArrayList", "size", "I", (.int 0))])] ++ F)) v' es' ∧ OWorld Z n0 h' es') _
  refine OEnds.pre (fun t k => castTop (ef_3 m u0) k) ?_
  show OEnds p e below s _ _ _ (s₁.setTop (mkF m 0 #[vR u0] []))
  refine OEnds.pre (fun t_ k_ => XS.aloadN H0.here hx rfl (hb hby d3_0) rfl rfl k_) ?_
  show OEnds p e below s _ _ _ (s₁.setTop (mkF m 1 #[vR u0] [(.ref u0)]))
  obtain ⟨T1, _, _, ⟨rfl, rfl⟩, H1, st1⟩ := OHere.special H0 hx hZ (y := (⟨"java/util/AbstractList", "<init>", "()V"⟩ : MethodName)) rfl (W := 0) (a := u0) hown (tWd hw 38 rfl) (tWd hw 39 rfl) (tWd hw 42 rfl) (tWd hw 43 rfl) (by decide) (conABL l Z a0 hw n0 [] u0 ([] ++ F) .null) (by decide) (by decide) (pc := 1) (Ls := #[vR u0]) (argsL := []) (rest := []) (by rw [hml]; rfl) (lenOf pd_ocV rfl) rfl (Nat.le_of_eq rfl) (hb hby d3_1) (by decide) (by decide)
  replace H1 : OHere p l e _ s m _ below meth c Z n0 0 T1 0 0 ([(eO u0 "java/util/ArrayList" [("java/util/AbstractList", "modCount", "I", (.int (0 : Int32))), ("java/util/ArrayList", "elementData", "[Ljava/lang/Object;", .null), ("java/util/ArrayList", "size", "I", (.int 0))])] ++ F) := H1
  refine OEnds.pre (fun t_ k_ => st1 _ k_) ?_
  show OEnds p e below s _ _ _ (T1.setTop (mkF m 4 #[vR u0] []))
  refine OEnds.pre (fun t_ k_ => XS.aloadN H1.here hx rfl (hb hby d3_4) rfl rfl k_) ?_
  show OEnds p e below s _ _ _ (T1.setTop (mkF m 5 #[vR u0] [(.ref u0)]))
  obtain ⟨T2, H2, st2⟩ := OHere.getstatic H1 hx hZ (pc := 5) (Ls := #[vR u0]) (rest := [(.ref u0)]) hown (tWd hw 53 rfl) hSt (hb hby d3_5)
  replace H2 : OHere p l e _ s m _ below meth c Z n0 0 T2 0 0 ([(eO u0 "java/util/ArrayList" [("java/util/AbstractList", "modCount", "I", (.int (0 : Int32))), ("java/util/ArrayList", "elementData", "[Ljava/lang/Object;", .null), ("java/util/ArrayList", "size", "I", (.int 0))])] ++ F) := H2
  refine OEnds.pre (fun t_ k_ => st2 _ k_) ?_
  show OEnds p e below s _ _ _ (T2.setTop (mkF m 8 #[vR u0] [(.ref dd), (.ref u0)]))
  obtain ⟨T3, H3, st3⟩ := OHere.putfield H2 hx hZ (O := "java/util/ArrayList") (q := 0) (f := 1) (v := (.ref dd)) (C := "java/util/ArrayList") (ty := (.array (.object "java/lang/Object"))) (pc := 8) (Ls := #[vR u0]) (rest := []) hown (tWd hw 54 rfl) Via.refl (fs := [("java/util/AbstractList", "modCount", "I", (.int (0 : Int32))), ("java/util/ArrayList", "elementData", "[Ljava/lang/Object;", .null), ("java/util/ArrayList", "size", "I", (.int 0))]) rfl rfl (Or.inl (tWd hw 55 rfl)) (tWd hw 33 rfl) (by decide) rfl rfl (hb hby d3_8)
  replace H3 : OHere p l e _ s m _ below meth c Z n0 0 T3 0 0 ([(eO u0 "java/util/ArrayList" [("java/util/AbstractList", "modCount", "I", (.int (0 : Int32))), ("java/util/ArrayList", "elementData", "[Ljava/lang/Object;", (.ref dd)), ("java/util/ArrayList", "size", "I", (.int 0))])] ++ F) := H3
  refine OEnds.pre (fun t_ k_ => st3 _ k_) ?_
  show OEnds p e below s _ _ _ (T3.setTop (mkF m 11 #[vR u0] []))
  exact H3.ret hx Bd.notSynchronized Bd.returns (hb hby d3_11) (by decide) (by decide) (fun h L W N => ⟨N, _, ⟨rfl, rfl⟩, W⟩)
theorem d1_0 : decode prog_8_method_1_code 0 = .ok (.aload_n 0, 1) := by decide +kernel
theorem d1_1 : decode prog_8_method_1_code 1 = .ok (.invokespecial 1, 3) := by decide +kernel
theorem d1_4 : decode prog_8_method_1_code 4 = .ok (.aload_n 0, 1) := by decide +kernel
theorem d1_5 : decode prog_8_method_1_code 5 = .ok (.aload_n 1, 1) := by decide +kernel
theorem d1_6 : decode prog_8_method_1_code 6 = .ok (.putfield 7, 3) := by decide +kernel
theorem d1_9 : decode prog_8_method_1_code 9 = .ok (.aload_n 0, 1) := by decide +kernel
theorem d1_10 : decode prog_8_method_1_code 10 = .ok (.aload_n 2, 1) := by decide +kernel
theorem d1_11 : decode prog_8_method_1_code 11 = .ok (.putfield 13, 3) := by decide +kernel
theorem d1_14 : decode prog_8_method_1_code 14 = .ok (.aload_n 0, 1) := by decide +kernel
theorem d1_15 : decode prog_8_method_1_code 15 = .ok (.aload_n 3, 1) := by decide +kernel
theorem d1_16 : decode prog_8_method_1_code 16 = .ok (.putfield 17, 3) := by decide +kernel
theorem d1_19 : decode prog_8_method_1_code 19 = .ok (.aload_n 0, 1) := by decide +kernel
theorem d1_20 : decode prog_8_method_1_code 20 = .ok (.iload 4, 2) := by decide +kernel
theorem d1_22 : decode prog_8_method_1_code 22 = .ok (.putfield 20, 3) := by decide +kernel
theorem d1_25 : decode prog_8_method_1_code 25 = .ok (.aload_n 0, 1) := by decide +kernel
theorem d1_26 : decode prog_8_method_1_code 26 = .ok (.iload 5, 2) := by decide +kernel
theorem d1_28 : decode prog_8_method_1_code 28 = .ok (.putfield 24, 3) := by decide +kernel
theorem d1_31 : decode prog_8_method_1_code 31 = .ok (.aload_n 0, 1) := by decide +kernel
theorem d1_32 : decode prog_8_method_1_code 32 = .ok (.iload 6, 2) := by decide +kernel
theorem d1_34 : decode prog_8_method_1_code 34 = .ok (.putfield 27, 3) := by decide +kernel
theorem d1_37 : decode prog_8_method_1_code 37 = .ok (.aload_n 0, 1) := by decide +kernel
theorem d1_38 : decode prog_8_method_1_code 38 = .ok (.aload 7, 2) := by decide +kernel
theorem d1_40 : decode prog_8_method_1_code 40 = .ok (.putfield 30, 3) := by decide +kernel
theorem d1_43 : decode prog_8_method_1_code 43 = .ok (.return_, 1) := by decide +kernel
theorem pn_1 : plainFor (⟨"com/example/deadletter/deadletter/job/Job", "<init>", "(Ljava/util/UUID;Ljava/lang/String;Ljava/lang/String;IIILjava/lang/String;)V"⟩ : MethodName) = true := by first | exact plainFor_of_name (by first | (simp [plainName, overriddenIn]; done) | decide +kernel) | decide +kernel
theorem ef_1 (m : MethodId) (x0 : Addr) (x2 : Addr) (x3 : Addr) (x4 : Int32) (x5 : Int32) (x6 : Int32) : entryFrame m #[(.ref x0), .null, (.ref x2), (.ref x3), (.int x4), (.int x5), (.int x6), .null] 8 = mkF m 0 #[.val (.ref x0), .val .null, .val (.ref x2), .val (.ref x3), .val (.int x4), .val (.int x5), .val (.int x6), .val .null] [] := by first | (simp [entryFrame, mkF, argsToLocals, Value.category]; done) | rfl
set_option maxRecDepth 65536 in
set_option maxHeartbeats 40000000 in
theorem conJob (l : Launch) (Z : State) (a0 : Array Value) (hw : ∀ d ∈ tables_1, d.before a0 Z = true) (n0 : Nat) (ws : List Jvm.Cond) (u0 : Addr) (u2 : Addr) (u3 : Addr) (F : List OEnt) :
    OCon l Z n0 (⟨"com/example/deadletter/deadletter/job/Job", "<init>", "(Ljava/util/UUID;Ljava/lang/String;Ljava/lang/String;IIILjava/lang/String;)V"⟩ : MethodName) prog_8_method_1_code 8 none ws ({ frames := 1, cells := 0, slots := 0, locals := 12 } : Room) #[(.ref u0), .null, (.ref u2), (.ref u3), (.int (1 : Int32)), (.int (1 : Int32)), (.int (1 : Int32)), .null] ([(eO u0 "com/example/deadletter/deadletter/job/Job" [("com/example/deadletter/deadletter/job/Job", "id", "Ljava/util/UUID;", .null), ("com/example/deadletter/deadletter/job/Job", "queue", "Ljava/lang/String;", .null), ("com/example/deadletter/deadletter/job/Job", "payload", "Ljava/lang/String;", .null), ("com/example/deadletter/deadletter/job/Job", "attempt", "I", (.int 0)), ("com/example/deadletter/deadletter/job/Job", "maxAttempts", "I", (.int 0)), ("com/example/deadletter/deadletter/job/Job", "claim", "I", (.int 0)), ("com/example/deadletter/deadletter/job/Job", "schedule", "Ljava/lang/String;", .null)])] ++ F) (fun v' es' => v' = none ∧ es' = ([(eO u0 "com/example/deadletter/deadletter/job/Job" [("com/example/deadletter/deadletter/job/Job", "id", "Ljava/util/UUID;", .null), ("com/example/deadletter/deadletter/job/Job", "queue", "Ljava/lang/String;", (.ref u2)), ("com/example/deadletter/deadletter/job/Job", "payload", "Ljava/lang/String;", (.ref u3)), ("com/example/deadletter/deadletter/job/Job", "attempt", "I", (.int (1 : Int32))), ("com/example/deadletter/deadletter/job/Job", "maxAttempts", "I", (.int (1 : Int32))), ("com/example/deadletter/deadletter/job/Job", "claim", "I", (.int (1 : Int32))), ("com/example/deadletter/deadletter/job/Job", "schedule", "Ljava/lang/String;", .null)])] ++ F)) := by
  intro h0 hW0
  refine MetFree.of_bodySF pn_1 hisR ?_
  intro p e s m args below meth c s₁ Bd hml0 hP hK
  obtain ⟨rfl, hZ, hh⟩ := hP
  have hx := Bd.exec
  have hby := Bd.bytes
  have hml : c.maxLocals = 8 := hml0
  have hown : s.vm.findClass "com/example/deadletter/deadletter/job/Job" = some m.cls := findClass_of_methodNamed Bd.named
  have hnm := (name_of_methodNamed Bd.named Bd.method).1
  have H0 : OHere p l e ({ frames := 1, cells := 0, slots := 0, locals := 12 } : Room) s m #[(.ref u0), .null, (.ref u2), (.ref u3), (.int (1 : Int32)), (.int (1 : Int32)), (.int (1 : Int32)), .null] below meth c Z n0 0 s₁ 0 0 ([(eO u0 "com/example/deadletter/deadletter/job/Job" [("com/example/deadletter/deadletter/job/Job", "id", "Ljava/util/UUID;", .null), ("com/example/deadletter/deadletter/job/Job", "queue", "Ljava/lang/String;", .null), ("com/example/deadletter/deadletter/job/Job", "payload", "Ljava/lang/String;", .null), ("com/example/deadletter/deadletter/job/Job", "attempt", "I", (.int 0)), ("com/example/deadletter/deadletter/job/Job", "maxAttempts", "I", (.int 0)), ("com/example/deadletter/deadletter/job/Job", "claim", "I", (.int 0)), ("com/example/deadletter/deadletter/job/Job", "schedule", "Ljava/lang/String;", .null)])] ++ F) := ⟨[], Stand.of_body Bd, by rw [show s₁.heap = h0 from by rw [← hh, Bd.state]; rfl]; exact hW0, Fr.nil _, Nat.zero_le _⟩
  show OEnds p e below s _ _ (fun v' h' L => Fr n0 L ∧ ∃ es', (fun v' es' => v' = none ∧ es' = ([(eO u0 "com/example/deadletter/deadletter/job/Job" [("com/example/deadletter/deadletter/job/Job", "id", "Ljava/util/UUID;", .null), ("com/example/deadletter/deadletter/job/Job", "queue", "Ljava/lang/String;", (.ref u2)), ("com/example/deadletter/deadletter/job/Job", "payload", "Ljava/lang/String;", (.ref u3)), ("com/example/deadletter/deadletter/job/Job", "attempt", "I", (.int (1 : Int32))), ("com/example/deadletter/deadletter/job/Job", "maxAttempts", "I", (.int (1 : Int32))), ("com/example/deadletter/deadletter/job/Job", "claim", "I", (.int (1 : Int32))), ("com/example/deadletter/deadletter/job/Job", "schedule", "Ljava/lang/String;", .null)])] ++ F)) v' es' ∧ OWorld Z n0 h' es') _
  refine OEnds.pre (fun t k => castTop (ef_1 m u0 u2 u3 (1 : Int32) (1 : Int32) (1 : Int32)) k) ?_
  show OEnds p e below s _ _ _ (s₁.setTop (mkF m 0 #[vR u0, .val .null, vR u2, vR u3, vI (1 : Int32), vI (1 : Int32), vI (1 : Int32), .val .null] []))
  refine OEnds.pre (fun t_ k_ => XS.aloadN H0.here hx rfl (hb hby d1_0) rfl rfl k_) ?_
  show OEnds p e below s _ _ _ (s₁.setTop (mkF m 1 #[vR u0, .val .null, vR u2, vR u3, vI (1 : Int32), vI (1 : Int32), vI (1 : Int32), .val .null] [(.ref u0)]))
  obtain ⟨T1, H1, st1⟩ := OHere.initO H0 hx hZ (pc := 1) (Ls := #[vR u0, .val .null, vR u2, vR u3, vI (1 : Int32), vI (1 : Int32), vI (1 : Int32), .val .null]) (rest := []) (a := u0) hown (tWd hw 15 rfl) (tWd hw 16 rfl) (tWd hw 17 rfl) (by rw [hml]; rfl) (hb hby d1_1) (by decide) (W := 0) (Nat.le_of_eq rfl) (by decide)
  replace H1 : OHere p l e _ s m _ below meth c Z n0 0 T1 0 0 ([(eO u0 "com/example/deadletter/deadletter/job/Job" [("com/example/deadletter/deadletter/job/Job", "id", "Ljava/util/UUID;", .null), ("com/example/deadletter/deadletter/job/Job", "queue", "Ljava/lang/String;", .null), ("com/example/deadletter/deadletter/job/Job", "payload", "Ljava/lang/String;", .null), ("com/example/deadletter/deadletter/job/Job", "attempt", "I", (.int 0)), ("com/example/deadletter/deadletter/job/Job", "maxAttempts", "I", (.int 0)), ("com/example/deadletter/deadletter/job/Job", "claim", "I", (.int 0)), ("com/example/deadletter/deadletter/job/Job", "schedule", "Ljava/lang/String;", .null)])] ++ F) := H1
  refine OEnds.pre (fun t_ k_ => st1 _ k_) ?_
  show OEnds p e below s _ _ _ (T1.setTop (mkF m 4 #[vR u0, .val .null, vR u2, vR u3, vI (1 : Int32), vI (1 : Int32), vI (1 : Int32), .val .null] []))
  refine OEnds.pre (fun t_ k_ => XS.aloadN H1.here hx rfl (hb hby d1_4) rfl rfl k_) ?_
  show OEnds p e below s _ _ _ (T1.setTop (mkF m 5 #[vR u0, .val .null, vR u2, vR u3, vI (1 : Int32), vI (1 : Int32), vI (1 : Int32), .val .null] [(.ref u0)]))
  refine OEnds.pre (fun t_ k_ => XS.aloadN H1.here hx rfl (hb hby d1_5) rfl rfl k_) ?_
  show OEnds p e below s _ _ _ (T1.setTop (mkF m 6 #[vR u0, .val .null, vR u2, vR u3, vI (1 : Int32), vI (1 : Int32), vI (1 : Int32), .val .null] [.null, (.ref u0)]))
  obtain ⟨T2, H2, st2⟩ := OHere.putfield H1 hx hZ (O := "com/example/deadletter/deadletter/job/Job") (q := 0) (f := 0) (v := .null) (C := "com/example/deadletter/deadletter/job/Job") (ty := (.object "java/util/UUID")) (pc := 6) (Ls := #[vR u0, .val .null, vR u2, vR u3, vI (1 : Int32), vI (1 : Int32), vI (1 : Int32), .val .null]) (rest := []) hown (tWd hw 18 rfl) Via.refl (fs := [("com/example/deadletter/deadletter/job/Job", "id", "Ljava/util/UUID;", .null), ("com/example/deadletter/deadletter/job/Job", "queue", "Ljava/lang/String;", .null), ("com/example/deadletter/deadletter/job/Job", "payload", "Ljava/lang/String;", .null), ("com/example/deadletter/deadletter/job/Job", "attempt", "I", (.int 0)), ("com/example/deadletter/deadletter/job/Job", "maxAttempts", "I", (.int 0)), ("com/example/deadletter/deadletter/job/Job", "claim", "I", (.int 0)), ("com/example/deadletter/deadletter/job/Job", "schedule", "Ljava/lang/String;", .null)]) rfl rfl (Or.inr ⟨(tWd hw 19 rfl), rfl, hnm⟩) (tWd hw 1 rfl) (by decide) rfl rfl (hb hby d1_6)
  replace H2 : OHere p l e _ s m _ below meth c Z n0 0 T2 0 0 ([(eO u0 "com/example/deadletter/deadletter/job/Job" [("com/example/deadletter/deadletter/job/Job", "id", "Ljava/util/UUID;", .null), ("com/example/deadletter/deadletter/job/Job", "queue", "Ljava/lang/String;", .null), ("com/example/deadletter/deadletter/job/Job", "payload", "Ljava/lang/String;", .null), ("com/example/deadletter/deadletter/job/Job", "attempt", "I", (.int 0)), ("com/example/deadletter/deadletter/job/Job", "maxAttempts", "I", (.int 0)), ("com/example/deadletter/deadletter/job/Job", "claim", "I", (.int 0)), ("com/example/deadletter/deadletter/job/Job", "schedule", "Ljava/lang/String;", .null)])] ++ F) := H2
  refine OEnds.pre (fun t_ k_ => st2 _ k_) ?_
  show OEnds p e below s _ _ _ (T2.setTop (mkF m 9 #[vR u0, .val .null, vR u2, vR u3, vI (1 : Int32), vI (1 : Int32), vI (1 : Int32), .val .null] []))
  refine OEnds.pre (fun t_ k_ => XS.aloadN H2.here hx rfl (hb hby d1_9) rfl rfl k_) ?_
  show OEnds p e below s _ _ _ (T2.setTop (mkF m 10 #[vR u0, .val .null, vR u2, vR u3, vI (1 : Int32), vI (1 : Int32), vI (1 : Int32), .val .null] [(.ref u0)]))
  refine OEnds.pre (fun t_ k_ => XS.aloadN H2.here hx rfl (hb hby d1_10) rfl rfl k_) ?_
  show OEnds p e below s _ _ _ (T2.setTop (mkF m 11 #[vR u0, .val .null, vR u2, vR u3, vI (1 : Int32), vI (1 : Int32), vI (1 : Int32), .val .null] [(.ref u2), (.ref u0)]))
  obtain ⟨T3, H3, st3⟩ := OHere.putfield H2 hx hZ (O := "com/example/deadletter/deadletter/job/Job") (q := 0) (f := 1) (v := (.ref u2)) (C := "com/example/deadletter/deadletter/job/Job") (ty := (.object "java/lang/String")) (pc := 11) (Ls := #[vR u0, .val .null, vR u2, vR u3, vI (1 : Int32), vI (1 : Int32), vI (1 : Int32), .val .null]) (rest := []) hown (tWd hw 20 rfl) Via.refl (fs := [("com/example/deadletter/deadletter/job/Job", "id", "Ljava/util/UUID;", .null), ("com/example/deadletter/deadletter/job/Job", "queue", "Ljava/lang/String;", .null), ("com/example/deadletter/deadletter/job/Job", "payload", "Ljava/lang/String;", .null), ("com/example/deadletter/deadletter/job/Job", "attempt", "I", (.int 0)), ("com/example/deadletter/deadletter/job/Job", "maxAttempts", "I", (.int 0)), ("com/example/deadletter/deadletter/job/Job", "claim", "I", (.int 0)), ("com/example/deadletter/deadletter/job/Job", "schedule", "Ljava/lang/String;", .null)]) rfl rfl (Or.inr ⟨(tWd hw 21 rfl), rfl, hnm⟩) (tWd hw 1 rfl) (by decide) rfl rfl (hb hby d1_11)
  replace H3 : OHere p l e _ s m _ below meth c Z n0 0 T3 0 0 ([(eO u0 "com/example/deadletter/deadletter/job/Job" [("com/example/deadletter/deadletter/job/Job", "id", "Ljava/util/UUID;", .null), ("com/example/deadletter/deadletter/job/Job", "queue", "Ljava/lang/String;", (.ref u2)), ("com/example/deadletter/deadletter/job/Job", "payload", "Ljava/lang/String;", .null), ("com/example/deadletter/deadletter/job/Job", "attempt", "I", (.int 0)), ("com/example/deadletter/deadletter/job/Job", "maxAttempts", "I", (.int 0)), ("com/example/deadletter/deadletter/job/Job", "claim", "I", (.int 0)), ("com/example/deadletter/deadletter/job/Job", "schedule", "Ljava/lang/String;", .null)])] ++ F) := H3
  refine OEnds.pre (fun t_ k_ => st3 _ k_) ?_
  show OEnds p e below s _ _ _ (T3.setTop (mkF m 14 #[vR u0, .val .null, vR u2, vR u3, vI (1 : Int32), vI (1 : Int32), vI (1 : Int32), .val .null] []))
  refine OEnds.pre (fun t_ k_ => XS.aloadN H3.here hx rfl (hb hby d1_14) rfl rfl k_) ?_
  show OEnds p e below s _ _ _ (T3.setTop (mkF m 15 #[vR u0, .val .null, vR u2, vR u3, vI (1 : Int32), vI (1 : Int32), vI (1 : Int32), .val .null] [(.ref u0)]))
  refine OEnds.pre (fun t_ k_ => XS.aloadN H3.here hx rfl (hb hby d1_15) rfl rfl k_) ?_
  show OEnds p e below s _ _ _ (T3.setTop (mkF m 16 #[vR u0, .val .null, vR u2, vR u3, vI (1 : Int32), vI (1 : Int32), vI (1 : Int32), .val .null] [(.ref u3), (.ref u0)]))
  obtain ⟨T4, H4, st4⟩ := OHere.putfield H3 hx hZ (O := "com/example/deadletter/deadletter/job/Job") (q := 0) (f := 2) (v := (.ref u3)) (C := "com/example/deadletter/deadletter/job/Job") (ty := (.object "java/lang/String")) (pc := 16) (Ls := #[vR u0, .val .null, vR u2, vR u3, vI (1 : Int32), vI (1 : Int32), vI (1 : Int32), .val .null]) (rest := []) hown (tWd hw 22 rfl) Via.refl (fs := [("com/example/deadletter/deadletter/job/Job", "id", "Ljava/util/UUID;", .null), ("com/example/deadletter/deadletter/job/Job", "queue", "Ljava/lang/String;", (.ref u2)), ("com/example/deadletter/deadletter/job/Job", "payload", "Ljava/lang/String;", .null), ("com/example/deadletter/deadletter/job/Job", "attempt", "I", (.int 0)), ("com/example/deadletter/deadletter/job/Job", "maxAttempts", "I", (.int 0)), ("com/example/deadletter/deadletter/job/Job", "claim", "I", (.int 0)), ("com/example/deadletter/deadletter/job/Job", "schedule", "Ljava/lang/String;", .null)]) rfl rfl (Or.inr ⟨(tWd hw 23 rfl), rfl, hnm⟩) (tWd hw 1 rfl) (by decide) rfl rfl (hb hby d1_16)
  replace H4 : OHere p l e _ s m _ below meth c Z n0 0 T4 0 0 ([(eO u0 "com/example/deadletter/deadletter/job/Job" [("com/example/deadletter/deadletter/job/Job", "id", "Ljava/util/UUID;", .null), ("com/example/deadletter/deadletter/job/Job", "queue", "Ljava/lang/String;", (.ref u2)), ("com/example/deadletter/deadletter/job/Job", "payload", "Ljava/lang/String;", (.ref u3)), ("com/example/deadletter/deadletter/job/Job", "attempt", "I", (.int 0)), ("com/example/deadletter/deadletter/job/Job", "maxAttempts", "I", (.int 0)), ("com/example/deadletter/deadletter/job/Job", "claim", "I", (.int 0)), ("com/example/deadletter/deadletter/job/Job", "schedule", "Ljava/lang/String;", .null)])] ++ F) := H4
  refine OEnds.pre (fun t_ k_ => st4 _ k_) ?_
  show OEnds p e below s _ _ _ (T4.setTop (mkF m 19 #[vR u0, .val .null, vR u2, vR u3, vI (1 : Int32), vI (1 : Int32), vI (1 : Int32), .val .null] []))
  refine OEnds.pre (fun t_ k_ => XS.aloadN H4.here hx rfl (hb hby d1_19) rfl rfl k_) ?_
  show OEnds p e below s _ _ _ (T4.setTop (mkF m 20 #[vR u0, .val .null, vR u2, vR u3, vI (1 : Int32), vI (1 : Int32), vI (1 : Int32), .val .null] [(.ref u0)]))
  refine OEnds.pre (fun t_ k_ => XS.iload H4.here hx rfl (hb hby d1_20) rfl k_) ?_
  show OEnds p e below s _ _ _ (T4.setTop (mkF m 22 #[vR u0, .val .null, vR u2, vR u3, vI (1 : Int32), vI (1 : Int32), vI (1 : Int32), .val .null] [(.int (1 : Int32)), (.ref u0)]))
  obtain ⟨T5, H5, st5⟩ := OHere.putfield H4 hx hZ (O := "com/example/deadletter/deadletter/job/Job") (q := 0) (f := 3) (v := (.int (1 : Int32))) (C := "com/example/deadletter/deadletter/job/Job") (ty := .int) (pc := 22) (Ls := #[vR u0, .val .null, vR u2, vR u3, vI (1 : Int32), vI (1 : Int32), vI (1 : Int32), .val .null]) (rest := []) hown (tWd hw 24 rfl) Via.refl (fs := [("com/example/deadletter/deadletter/job/Job", "id", "Ljava/util/UUID;", .null), ("com/example/deadletter/deadletter/job/Job", "queue", "Ljava/lang/String;", (.ref u2)), ("com/example/deadletter/deadletter/job/Job", "payload", "Ljava/lang/String;", (.ref u3)), ("com/example/deadletter/deadletter/job/Job", "attempt", "I", (.int 0)), ("com/example/deadletter/deadletter/job/Job", "maxAttempts", "I", (.int 0)), ("com/example/deadletter/deadletter/job/Job", "claim", "I", (.int 0)), ("com/example/deadletter/deadletter/job/Job", "schedule", "Ljava/lang/String;", .null)]) rfl rfl (Or.inr ⟨(tWd hw 25 rfl), rfl, hnm⟩) (tWd hw 1 rfl) (by decide) rfl rfl (hb hby d1_22)
  replace H5 : OHere p l e _ s m _ below meth c Z n0 0 T5 0 0 ([(eO u0 "com/example/deadletter/deadletter/job/Job" [("com/example/deadletter/deadletter/job/Job", "id", "Ljava/util/UUID;", .null), ("com/example/deadletter/deadletter/job/Job", "queue", "Ljava/lang/String;", (.ref u2)), ("com/example/deadletter/deadletter/job/Job", "payload", "Ljava/lang/String;", (.ref u3)), ("com/example/deadletter/deadletter/job/Job", "attempt", "I", (.int (1 : Int32))), ("com/example/deadletter/deadletter/job/Job", "maxAttempts", "I", (.int 0)), ("com/example/deadletter/deadletter/job/Job", "claim", "I", (.int 0)), ("com/example/deadletter/deadletter/job/Job", "schedule", "Ljava/lang/String;", .null)])] ++ F) := H5
  refine OEnds.pre (fun t_ k_ => st5 _ k_) ?_
  show OEnds p e below s _ _ _ (T5.setTop (mkF m 25 #[vR u0, .val .null, vR u2, vR u3, vI (1 : Int32), vI (1 : Int32), vI (1 : Int32), .val .null] []))
  refine OEnds.pre (fun t_ k_ => XS.aloadN H5.here hx rfl (hb hby d1_25) rfl rfl k_) ?_
  show OEnds p e below s _ _ _ (T5.setTop (mkF m 26 #[vR u0, .val .null, vR u2, vR u3, vI (1 : Int32), vI (1 : Int32), vI (1 : Int32), .val .null] [(.ref u0)]))
  refine OEnds.pre (fun t_ k_ => XS.iload H5.here hx rfl (hb hby d1_26) rfl k_) ?_
  show OEnds p e below s _ _ _ (T5.setTop (mkF m 28 #[vR u0, .val .null, vR u2, vR u3, vI (1 : Int32), vI (1 : Int32), vI (1 : Int32), .val .null] [(.int (1 : Int32)), (.ref u0)]))
  obtain ⟨T6, H6, st6⟩ := OHere.putfield H5 hx hZ (O := "com/example/deadletter/deadletter/job/Job") (q := 0) (f := 4) (v := (.int (1 : Int32))) (C := "com/example/deadletter/deadletter/job/Job") (ty := .int) (pc := 28) (Ls := #[vR u0, .val .null, vR u2, vR u3, vI (1 : Int32), vI (1 : Int32), vI (1 : Int32), .val .null]) (rest := []) hown (tWd hw 26 rfl) Via.refl (fs := [("com/example/deadletter/deadletter/job/Job", "id", "Ljava/util/UUID;", .null), ("com/example/deadletter/deadletter/job/Job", "queue", "Ljava/lang/String;", (.ref u2)), ("com/example/deadletter/deadletter/job/Job", "payload", "Ljava/lang/String;", (.ref u3)), ("com/example/deadletter/deadletter/job/Job", "attempt", "I", (.int (1 : Int32))), ("com/example/deadletter/deadletter/job/Job", "maxAttempts", "I", (.int 0)), ("com/example/deadletter/deadletter/job/Job", "claim", "I", (.int 0)), ("com/example/deadletter/deadletter/job/Job", "schedule", "Ljava/lang/String;", .null)]) rfl rfl (Or.inr ⟨(tWd hw 27 rfl), rfl, hnm⟩) (tWd hw 1 rfl) (by decide) rfl rfl (hb hby d1_28)
  replace H6 : OHere p l e _ s m _ below meth c Z n0 0 T6 0 0 ([(eO u0 "com/example/deadletter/deadletter/job/Job" [("com/example/deadletter/deadletter/job/Job", "id", "Ljava/util/UUID;", .null), ("com/example/deadletter/deadletter/job/Job", "queue", "Ljava/lang/String;", (.ref u2)), ("com/example/deadletter/deadletter/job/Job", "payload", "Ljava/lang/String;", (.ref u3)), ("com/example/deadletter/deadletter/job/Job", "attempt", "I", (.int (1 : Int32))), ("com/example/deadletter/deadletter/job/Job", "maxAttempts", "I", (.int (1 : Int32))), ("com/example/deadletter/deadletter/job/Job", "claim", "I", (.int 0)), ("com/example/deadletter/deadletter/job/Job", "schedule", "Ljava/lang/String;", .null)])] ++ F) := H6
  refine OEnds.pre (fun t_ k_ => st6 _ k_) ?_
  show OEnds p e below s _ _ _ (T6.setTop (mkF m 31 #[vR u0, .val .null, vR u2, vR u3, vI (1 : Int32), vI (1 : Int32), vI (1 : Int32), .val .null] []))
  refine OEnds.pre (fun t_ k_ => XS.aloadN H6.here hx rfl (hb hby d1_31) rfl rfl k_) ?_
  show OEnds p e below s _ _ _ (T6.setTop (mkF m 32 #[vR u0, .val .null, vR u2, vR u3, vI (1 : Int32), vI (1 : Int32), vI (1 : Int32), .val .null] [(.ref u0)]))
  refine OEnds.pre (fun t_ k_ => XS.iload H6.here hx rfl (hb hby d1_32) rfl k_) ?_
  show OEnds p e below s _ _ _ (T6.setTop (mkF m 34 #[vR u0, .val .null, vR u2, vR u3, vI (1 : Int32), vI (1 : Int32), vI (1 : Int32), .val .null] [(.int (1 : Int32)), (.ref u0)]))
  obtain ⟨T7, H7, st7⟩ := OHere.putfield H6 hx hZ (O := "com/example/deadletter/deadletter/job/Job") (q := 0) (f := 5) (v := (.int (1 : Int32))) (C := "com/example/deadletter/deadletter/job/Job") (ty := .int) (pc := 34) (Ls := #[vR u0, .val .null, vR u2, vR u3, vI (1 : Int32), vI (1 : Int32), vI (1 : Int32), .val .null]) (rest := []) hown (tWd hw 28 rfl) Via.refl (fs := [("com/example/deadletter/deadletter/job/Job", "id", "Ljava/util/UUID;", .null), ("com/example/deadletter/deadletter/job/Job", "queue", "Ljava/lang/String;", (.ref u2)), ("com/example/deadletter/deadletter/job/Job", "payload", "Ljava/lang/String;", (.ref u3)), ("com/example/deadletter/deadletter/job/Job", "attempt", "I", (.int (1 : Int32))), ("com/example/deadletter/deadletter/job/Job", "maxAttempts", "I", (.int (1 : Int32))), ("com/example/deadletter/deadletter/job/Job", "claim", "I", (.int 0)), ("com/example/deadletter/deadletter/job/Job", "schedule", "Ljava/lang/String;", .null)]) rfl rfl (Or.inr ⟨(tWd hw 29 rfl), rfl, hnm⟩) (tWd hw 1 rfl) (by decide) rfl rfl (hb hby d1_34)
  replace H7 : OHere p l e _ s m _ below meth c Z n0 0 T7 0 0 ([(eO u0 "com/example/deadletter/deadletter/job/Job" [("com/example/deadletter/deadletter/job/Job", "id", "Ljava/util/UUID;", .null), ("com/example/deadletter/deadletter/job/Job", "queue", "Ljava/lang/String;", (.ref u2)), ("com/example/deadletter/deadletter/job/Job", "payload", "Ljava/lang/String;", (.ref u3)), ("com/example/deadletter/deadletter/job/Job", "attempt", "I", (.int (1 : Int32))), ("com/example/deadletter/deadletter/job/Job", "maxAttempts", "I", (.int (1 : Int32))), ("com/example/deadletter/deadletter/job/Job", "claim", "I", (.int (1 : Int32))), ("com/example/deadletter/deadletter/job/Job", "schedule", "Ljava/lang/String;", .null)])] ++ F) := H7
  refine OEnds.pre (fun t_ k_ => st7 _ k_) ?_
  show OEnds p e below s _ _ _ (T7.setTop (mkF m 37 #[vR u0, .val .null, vR u2, vR u3, vI (1 : Int32), vI (1 : Int32), vI (1 : Int32), .val .null] []))
  refine OEnds.pre (fun t_ k_ => XS.aloadN H7.here hx rfl (hb hby d1_37) rfl rfl k_) ?_
  show OEnds p e below s _ _ _ (T7.setTop (mkF m 38 #[vR u0, .val .null, vR u2, vR u3, vI (1 : Int32), vI (1 : Int32), vI (1 : Int32), .val .null] [(.ref u0)]))
  refine OEnds.pre (fun t_ k_ => XS.aload H7.here hx rfl (hb hby d1_38) rfl rfl k_) ?_
  show OEnds p e below s _ _ _ (T7.setTop (mkF m 40 #[vR u0, .val .null, vR u2, vR u3, vI (1 : Int32), vI (1 : Int32), vI (1 : Int32), .val .null] [.null, (.ref u0)]))
  obtain ⟨T8, H8, st8⟩ := OHere.putfield H7 hx hZ (O := "com/example/deadletter/deadletter/job/Job") (q := 0) (f := 6) (v := .null) (C := "com/example/deadletter/deadletter/job/Job") (ty := (.object "java/lang/String")) (pc := 40) (Ls := #[vR u0, .val .null, vR u2, vR u3, vI (1 : Int32), vI (1 : Int32), vI (1 : Int32), .val .null]) (rest := []) hown (tWd hw 30 rfl) Via.refl (fs := [("com/example/deadletter/deadletter/job/Job", "id", "Ljava/util/UUID;", .null), ("com/example/deadletter/deadletter/job/Job", "queue", "Ljava/lang/String;", (.ref u2)), ("com/example/deadletter/deadletter/job/Job", "payload", "Ljava/lang/String;", (.ref u3)), ("com/example/deadletter/deadletter/job/Job", "attempt", "I", (.int (1 : Int32))), ("com/example/deadletter/deadletter/job/Job", "maxAttempts", "I", (.int (1 : Int32))), ("com/example/deadletter/deadletter/job/Job", "claim", "I", (.int (1 : Int32))), ("com/example/deadletter/deadletter/job/Job", "schedule", "Ljava/lang/String;", .null)]) rfl rfl (Or.inr ⟨(tWd hw 31 rfl), rfl, hnm⟩) (tWd hw 1 rfl) (by decide) rfl rfl (hb hby d1_40)
  replace H8 : OHere p l e _ s m _ below meth c Z n0 0 T8 0 0 ([(eO u0 "com/example/deadletter/deadletter/job/Job" [("com/example/deadletter/deadletter/job/Job", "id", "Ljava/util/UUID;", .null), ("com/example/deadletter/deadletter/job/Job", "queue", "Ljava/lang/String;", (.ref u2)), ("com/example/deadletter/deadletter/job/Job", "payload", "Ljava/lang/String;", (.ref u3)), ("com/example/deadletter/deadletter/job/Job", "attempt", "I", (.int (1 : Int32))), ("com/example/deadletter/deadletter/job/Job", "maxAttempts", "I", (.int (1 : Int32))), ("com/example/deadletter/deadletter/job/Job", "claim", "I", (.int (1 : Int32))), ("com/example/deadletter/deadletter/job/Job", "schedule", "Ljava/lang/String;", .null)])] ++ F) := H8
  refine OEnds.pre (fun t_ k_ => st8 _ k_) ?_
  show OEnds p e below s _ _ _ (T8.setTop (mkF m 43 #[vR u0, .val .null, vR u2, vR u3, vI (1 : Int32), vI (1 : Int32), vI (1 : Int32), .val .null] []))
  exact H8.ret hx Bd.notSynchronized Bd.returns (hb hby d1_43) (by decide) (by decide) (fun h L W N => ⟨N, _, ⟨rfl, rfl⟩, W⟩)
theorem d10_0 : decode jdk_29_method_65_code 0 = .ok (.iload_n 0, 1) := by decide +kernel
theorem d10_1 : decode jdk_29_method_65_code 1 = .ok (.iload_n 1, 1) := by decide +kernel
theorem d10_2 : decode jdk_29_method_65_code 2 = .ok (.if_icmp .lt 7, 3) := by decide +kernel
theorem d10_5 : decode jdk_29_method_65_code 5 = .ok (.iload_n 0, 1) := by decide +kernel
theorem d10_6 : decode jdk_29_method_65_code 6 = .ok (.goto 4, 3) := by decide +kernel
theorem d10_9 : decode jdk_29_method_65_code 9 = .ok (.iload_n 1, 1) := by decide +kernel
theorem d10_10 : decode jdk_29_method_65_code 10 = .ok (.ireturn, 1) := by decide +kernel
theorem pn_10 : plainFor (⟨"java/lang/Math", "max", "(II)I"⟩ : MethodName) = true := Jvm.Free.JP.mathPlain rfl (by decide +kernel)
theorem pd_10 : parseMethodDescriptor "(II)I" = some ⟨[.int, .int], some .int⟩ := by decide +kernel
theorem ef_10 (m : MethodId) (u0 : Int32) (u1 : Int32) : entryFrame m #[(.int u0), (.int u1)] 2 = mkF m 0 #[.val (.int u0), .val (.int u1)] [] := by first | (simp [entryFrame, mkF, argsToLocals, Value.category]; done) | rfl
def f10 (u0 : Int32) (u1 : Int32) : Int32 := (if u0 < u1 then u1 else u0)
set_option maxRecDepth 65536 in
set_option maxHeartbeats 40000000 in
theorem met10 (l : Launch) (Z : State) (a0 : Array Value) (hw : ∀ d ∈ tables_1, d.before a0 Z = true) (ws : List Jvm.Cond) (u0 : Int32) (u1 : Int32) (h0 : Heap) :
    MetFree l (⟨"java/lang/Math", "max", "(II)I"⟩ : MethodName) (head1 (Jvm.Cond.code (⟨"java/lang/Math", "max", "(II)I"⟩ : MethodName) jdk_29_method_65_code 2 (some .int) :: ws) ({ frames := 0, cells := 0, slots := 0, locals := 0 } : Room)) (fun a U => a = #[(.int u0), (.int u1)] ∧ Z.Warmed39 U.vm ∧ U.heap = h0) (fun _ _ _ _ _ => True) (fun _ U o U' => ∃ v L, o = .returned v ∧ (v = some (.int (f10 u0 u1)) ∧ L = [] ∧ U'.heap = h0) ∧ FrameEnd U o U' L ({ frames := 0, cells := 0, slots := 0, locals := 0 } : Room).cells ({ frames := 0, cells := 0, slots := 0, locals := 0 } : Room).slots) := by
  refine MetFree.of_bodySF pn_10 hisR ?_
  intro p e s m args below meth c s₁ Bd hml0 hP hK
  obtain ⟨rfl, hZ, hh⟩ := hP
  have hx := Bd.exec
  have hby := Bd.bytes
  have hml : c.maxLocals = 2 := hml0
  have hown : s.vm.findClass "java/lang/Math" = some m.cls := findClass_of_methodNamed Bd.named
  have X0 : Stand p l e ({ frames := 0, cells := 0, slots := 0, locals := 0 } : Room) s m #[(.int u0), (.int u1)] below meth c s₁ [] 0 0 := Stand.of_body Bd
  have e0 : s₁.heap = h0 := by rw [← hh, Bd.state]; rfl
  show OEnds p e below s _ _ (fun v h L => v = some (.int (f10 u0 u1)) ∧ L = [] ∧ h = h0) _
  refine OEnds.pre (fun t k => castTop (ef_10 m u0 u1) k) ?_
  show OEnds p e below s _ _ _ (s₁.setTop (mkF m 0 #[.val (.int u0), .val (.int u1)] []))
  refine OEnds.pre (fun t k => XS.iloadN X0.here hx rfl (hb hby d10_0) rfl k) ?_
  show OEnds p e below s _ _ _ (s₁.setTop (mkF m 1 #[.val (.int u0), .val (.int u1)] [(.int u0)]))
  refine OEnds.pre (fun t k => XS.iloadN X0.here hx rfl (hb hby d10_1) rfl k) ?_
  show OEnds p e below s _ _ _ (s₁.setTop (mkF m 2 #[.val (.int u0), .val (.int u1)] [(.int u1), (.int u0)]))
  by_cases c1 : u0 < u1
  · refine OEnds.pre (fun t k => XS.icmpYes X0.here hx rfl (pc0 := 2) (pc' := 9) rfl (hb hby d10_2) rfl (XT.ii_lt_t c1) (by decide) (by decide) k) ?_
    show OEnds p e below s _ _ _ (s₁.setTop (mkF m 9 #[.val (.int u0), .val (.int u1)] []))
    refine OEnds.pre (fun t k => XS.iloadN X0.here hx rfl (hb hby d10_9) rfl k) ?_
    show OEnds p e below s _ _ _ (s₁.setTop (mkF m 10 #[.val (.int u0), .val (.int u1)] [(.int u1)]))
    exact OEnds.int X0 hx Bd.notSynchronized Bd.returns (hb hby d10_10) (Nat.zero_le _) (Nat.zero_le _) ⟨congrArg (fun q => some (Value.int q)) (by unfold f10; rw [if_pos c1]), rfl, e0⟩
  · refine OEnds.pre (fun t k => XS.icmpNo X0.here hx rfl (hb hby d10_2) rfl (XT.ii_lt_f c1) k) ?_
    show OEnds p e below s _ _ _ (s₁.setTop (mkF m 5 #[.val (.int u0), .val (.int u1)] []))
    refine OEnds.pre (fun t k => XS.iloadN X0.here hx rfl (hb hby d10_5) rfl k) ?_
    show OEnds p e below s _ _ _ (s₁.setTop (mkF m 6 #[.val (.int u0), .val (.int u1)] [(.int u0)]))
    refine OEnds.pre (fun t k => XS.goto X0.here hx rfl (pc0 := 6) (pc' := 10) rfl (hb hby d10_6) (by decide) (by decide) k) ?_
    show OEnds p e below s _ _ _ (s₁.setTop (mkF m 10 #[.val (.int u0), .val (.int u1)] [(.int u0)]))
    exact OEnds.int X0 hx Bd.notSynchronized Bd.returns (hb hby d10_10) (Nat.zero_le _) (Nat.zero_le _) ⟨congrArg (fun q => some (Value.int q)) (by unfold f10; rw [if_neg c1]), rfl, e0⟩
theorem conMax (l : Launch) (Z : State) (a0 : Array Value) (hw : ∀ d ∈ tables_1, d.before a0 Z = true) (n0 : Nat) (ws : List Jvm.Cond) (u0 u1 r : Int32) (hr : f10 u0 u1 = r) (es : List OEnt) :
    OCon l Z n0 (⟨"java/lang/Math", "max", "(II)I"⟩ : MethodName) jdk_29_method_65_code 2 (some .int) ws ({ frames := 0, cells := 0, slots := 0, locals := 0 } : Room) #[(.int u0), (.int u1)] es (fun v' es' => v' = some (.int r) ∧ es' = es) := by
  subst hr; exact OCon.of_pure fun h => met10 l Z a0 hw ws u0 u1 h
theorem d9_0 : decode jdk_38_method_6_code 0 = .ok (.aload_n 0, 1) := by decide +kernel
theorem d9_1 : decode jdk_38_method_6_code 1 = .ok (.getfield 9, 3) := by decide +kernel
theorem d9_4 : decode jdk_38_method_6_code 4 = .ok (.arraylength, 1) := by decide +kernel
theorem d9_5 : decode jdk_38_method_6_code 5 = .ok (.istore_n 2, 1) := by decide +kernel
theorem d9_6 : decode jdk_38_method_6_code 6 = .ok (.iload_n 2, 1) := by decide +kernel
theorem d9_7 : decode jdk_38_method_6_code 7 = .ok (.ifCond .gt 13, 3) := by decide +kernel
theorem d9_10 : decode jdk_38_method_6_code 10 = .ok (.aload_n 0, 1) := by decide +kernel
theorem d9_11 : decode jdk_38_method_6_code 11 = .ok (.getfield 9, 3) := by decide +kernel
theorem d9_14 : decode jdk_38_method_6_code 14 = .ok (.getstatic 39, 3) := by decide +kernel
theorem d9_17 : decode jdk_38_method_6_code 17 = .ok (.if_acmp .eq 28, 3) := by decide +kernel
theorem d9_20 : decode jdk_38_method_6_code 20 = .ok (.iload_n 2, 1) := by decide +kernel
theorem d9_21 : decode jdk_38_method_6_code 21 = .ok (.iload_n 1, 1) := by decide +kernel
theorem d9_22 : decode jdk_38_method_6_code 22 = .ok (.iload_n 2, 1) := by decide +kernel
theorem d9_23 : decode jdk_38_method_6_code 23 = .ok (.isub, 1) := by decide +kernel
theorem d9_24 : decode jdk_38_method_6_code 24 = .ok (.iload_n 2, 1) := by decide +kernel
theorem d9_25 : decode jdk_38_method_6_code 25 = .ok (.iconst 1, 1) := by decide +kernel
theorem d9_26 : decode jdk_38_method_6_code 26 = .ok (.ishr, 1) := by decide +kernel
theorem d9_27 : decode jdk_38_method_6_code 27 = .ok (.invokestatic 73, 3) := by decide +kernel
theorem d9_30 : decode jdk_38_method_6_code 30 = .ok (.istore_n 3, 1) := by decide +kernel
theorem d9_31 : decode jdk_38_method_6_code 31 = .ok (.aload_n 0, 1) := by decide +kernel
theorem d9_32 : decode jdk_38_method_6_code 32 = .ok (.aload_n 0, 1) := by decide +kernel
theorem d9_33 : decode jdk_38_method_6_code 33 = .ok (.getfield 9, 3) := by decide +kernel
theorem d9_36 : decode jdk_38_method_6_code 36 = .ok (.iload_n 3, 1) := by decide +kernel
theorem d9_37 : decode jdk_38_method_6_code 37 = .ok (.invokestatic 66, 3) := by decide +kernel
theorem d9_40 : decode jdk_38_method_6_code 40 = .ok (.dup_x1, 1) := by decide +kernel
theorem d9_41 : decode jdk_38_method_6_code 41 = .ok (.putfield 9, 3) := by decide +kernel
theorem d9_44 : decode jdk_38_method_6_code 44 = .ok (.areturn, 1) := by decide +kernel
theorem d9_45 : decode jdk_38_method_6_code 45 = .ok (.aload_n 0, 1) := by decide +kernel
theorem d9_46 : decode jdk_38_method_6_code 46 = .ok (.bipush 10, 2) := by decide +kernel
theorem d9_48 : decode jdk_38_method_6_code 48 = .ok (.iload_n 1, 1) := by decide +kernel
theorem d9_49 : decode jdk_38_method_6_code 49 = .ok (.invokestatic 79, 3) := by decide +kernel
theorem d9_52 : decode jdk_38_method_6_code 52 = .ok (.anewarray 7, 3) := by decide +kernel
theorem d9_55 : decode jdk_38_method_6_code 55 = .ok (.dup_x1, 1) := by decide +kernel
theorem d9_56 : decode jdk_38_method_6_code 56 = .ok (.putfield 9, 3) := by decide +kernel
theorem d9_59 : decode jdk_38_method_6_code 59 = .ok (.areturn, 1) := by decide +kernel
theorem pn_9 : plainFor (⟨"java/util/ArrayList", "grow", "(I)[Ljava/lang/Object;"⟩ : MethodName) = true := by first | exact plainFor_of_name (by first | (simp [plainName, overriddenIn]; done) | decide +kernel) | decide +kernel
theorem ef_9 (m : MethodId) (x0 : Addr) (x1 : Int32) : entryFrame m #[(.ref x0), (.int x1)] 4 = mkF m 0 #[.val (.ref x0), .val (.int x1), .unset, .unset] [] := by first | (simp [entryFrame, mkF, argsToLocals, Value.category]; done) | rfl
set_option maxRecDepth 65536 in
set_option maxHeartbeats 40000000 in
theorem conG1 (l : Launch) (Z : State) (a0 : Array Value) (hw : ∀ d ∈ tables_1, d.before a0 Z = true) (n0 : Nat) (ws : List Jvm.Cond) (u0 : Addr) (F : List OEnt) (mc : Int32) (dd : Addr) (hSt : Sta Z Z.heap "java/util/ArrayList" "DEFAULTCAPACITY_EMPTY_ELEMENTDATA" "[Ljava/lang/Object;" (.ref dd)) (hDd : OOldArr Z dd "java/lang/Object" 0) :
    OCon l Z n0 (⟨"java/util/ArrayList", "grow", "(I)[Ljava/lang/Object;"⟩ : MethodName) jdk_38_method_6_code 4 (some (.array (.object "java/lang/Object"))) ws ({ frames := 1, cells := 1, slots := 10, locals := 14 } : Room) #[(.ref u0), (.int (1 : Int32))] ([(eO u0 "java/util/ArrayList" [("java/util/AbstractList", "modCount", "I", (.int mc)), ("java/util/ArrayList", "elementData", "[Ljava/lang/Object;", (.ref dd)), ("java/util/ArrayList", "size", "I", (.int (0 : Int32)))])] ++ F) (fun v' es' => ∃ b : Addr, v' = some (.ref b) ∧ es' = ([(eA b (.object "java/lang/Object") [.null, .null, .null, .null, .null, .null, .null, .null, .null, .null]), (eO u0 "java/util/ArrayList" [("java/util/AbstractList", "modCount", "I", (.int mc)), ("java/util/ArrayList", "elementData", "[Ljava/lang/Object;", (.ref b)), ("java/util/ArrayList", "size", "I", (.int (0 : Int32)))])] ++ F)) := by
  intro h0 hW0
  refine MetFree.of_bodySF pn_9 hisR ?_
  intro p e s m args below meth c s₁ Bd hml0 hP hK
  obtain ⟨rfl, hZ, hh⟩ := hP
  have hx := Bd.exec
  have hby := Bd.bytes
  have hml : c.maxLocals = 4 := hml0
  have hown : s.vm.findClass "java/util/ArrayList" = some m.cls := findClass_of_methodNamed Bd.named
  have hnm := (name_of_methodNamed Bd.named Bd.method).1
  have H0 : OHere p l e ({ frames := 1, cells := 1, slots := 10, locals := 14 } : Room) s m #[(.ref u0), (.int (1 : Int32))] below meth c Z n0 0 s₁ 0 0 ([(eO u0 "java/util/ArrayList" [("java/util/AbstractList", "modCount", "I", (.int mc)), ("java/util/ArrayList", "elementData", "[Ljava/lang/Object;", (.ref dd)), ("java/util/ArrayList", "size", "I", (.int (0 : Int32)))])] ++ F) := ⟨[], Stand.of_body Bd, by rw [show s₁.heap = h0 from by rw [← hh, Bd.state]; rfl]; exact hW0, Fr.nil _, Nat.zero_le _⟩
  show OEnds p e below s _ _ (fun v' h' L => Fr n0 L ∧ ∃ es', (fun v' es' => ∃ b : Addr, v' = some (.ref b) ∧ es' = ([(eA b (.object "java/lang/Object") [.null, .null, .null, .null, .null, .null, .null, .null, .null, .null]), (eO u0 "java/util/ArrayList" [("java/util/AbstractList", "modCount", "I", (.int mc)), ("java/util/ArrayList", "elementData", "[Ljava/lang/Object;", (.ref b)), ("java/util/ArrayList", "size", "I", (.int (0 : Int32)))])] ++ F)) v' es' ∧ OWorld Z n0 h' es') _
  refine OEnds.pre (fun t k => castTop (ef_9 m u0 (1 : Int32)) k) ?_
  show OEnds p e below s _ _ _ (s₁.setTop (mkF m 0 #[vR u0, vI (1 : Int32), uN, uN] []))
  refine OEnds.pre (fun t_ k_ => XS.aloadN H0.here hx rfl (hb hby d9_0) rfl rfl k_) ?_
  show OEnds p e below s _ _ _ (s₁.setTop (mkF m 1 #[vR u0, vI (1 : Int32), uN, uN] [(.ref u0)]))
  obtain ⟨T1, H1, st1⟩ := OHere.getfield H0 hx hZ (O := "java/util/ArrayList") (q := 0) (f := 1) (v := (.ref dd)) (fs := [("java/util/AbstractList", "modCount", "I", (.int mc)), ("java/util/ArrayList", "elementData", "[Ljava/lang/Object;", (.ref dd)), ("java/util/ArrayList", "size", "I", (.int (0 : Int32)))]) (C := "java/util/ArrayList") (pc := 1) (Ls := #[vR u0, vI (1 : Int32), uN, uN]) (rest := []) hown (tWd hw 54 rfl) Via.refl rfl rfl (hb hby d9_1)
  replace H1 : OHere p l e _ s m _ below meth c Z n0 0 T1 0 0 ([(eO u0 "java/util/ArrayList" [("java/util/AbstractList", "modCount", "I", (.int mc)), ("java/util/ArrayList", "elementData", "[Ljava/lang/Object;", (.ref dd)), ("java/util/ArrayList", "size", "I", (.int (0 : Int32)))])] ++ F) := H1
  refine OEnds.pre (fun t_ k_ => st1 _ k_) ?_
  show OEnds p e below s _ _ _ (T1.setTop (mkF m 4 #[vR u0, vI (1 : Int32), uN, uN] [(.ref dd)]))
  refine OEnds.pre (fun t_ k_ => OHere.lenOld H1 hx hZ (C := "java/lang/Object") (n := 0) (z := (0 : Int32)) hDd rfl (hb hby d9_4) k_) ?_
  show OEnds p e below s _ _ _ (T1.setTop (mkF m 5 #[vR u0, vI (1 : Int32), uN, uN] [(.int (0 : Int32))]))
  refine OEnds.pre (fun t_ k_ => XS.istoreN H1.here hx rfl (hb hby d9_5) rfl (l' := #[vR u0, vI (1 : Int32), vI (0 : Int32), uN]) rfl k_) ?_
  show OEnds p e below s _ _ _ (T1.setTop (mkF m 6 #[vR u0, vI (1 : Int32), vI (0 : Int32), uN] []))
  refine OEnds.pre (fun t_ k_ => XS.iloadN H1.here hx rfl (hb hby d9_6) rfl k_) ?_
  show OEnds p e below s _ _ _ (T1.setTop (mkF m 7 #[vR u0, vI (1 : Int32), vI (0 : Int32), uN] [(.int (0 : Int32))]))
  refine OEnds.pre (fun t_ k_ => XS.ifNo H1.here hx rfl (hb hby d9_7) rfl (XT.i0_gt_f (by decide)) k_) ?_
  show OEnds p e below s _ _ _ (T1.setTop (mkF m 10 #[vR u0, vI (1 : Int32), vI (0 : Int32), uN] []))
  refine OEnds.pre (fun t_ k_ => XS.aloadN H1.here hx rfl (hb hby d9_10) rfl rfl k_) ?_
  show OEnds p e below s _ _ _ (T1.setTop (mkF m 11 #[vR u0, vI (1 : Int32), vI (0 : Int32), uN] [(.ref u0)]))
  obtain ⟨T2, H2, st2⟩ := OHere.getfield H1 hx hZ (O := "java/util/ArrayList") (q := 0) (f := 1) (v := (.ref dd)) (fs := [("java/util/AbstractList", "modCount", "I", (.int mc)), ("java/util/ArrayList", "elementData", "[Ljava/lang/Object;", (.ref dd)), ("java/util/ArrayList", "size", "I", (.int (0 : Int32)))]) (C := "java/util/ArrayList") (pc := 11) (Ls := #[vR u0, vI (1 : Int32), vI (0 : Int32), uN]) (rest := []) hown (tWd hw 54 rfl) Via.refl rfl rfl (hb hby d9_11)
  replace H2 : OHere p l e _ s m _ below meth c Z n0 0 T2 0 0 ([(eO u0 "java/util/ArrayList" [("java/util/AbstractList", "modCount", "I", (.int mc)), ("java/util/ArrayList", "elementData", "[Ljava/lang/Object;", (.ref dd)), ("java/util/ArrayList", "size", "I", (.int (0 : Int32)))])] ++ F) := H2
  refine OEnds.pre (fun t_ k_ => st2 _ k_) ?_
  show OEnds p e below s _ _ _ (T2.setTop (mkF m 14 #[vR u0, vI (1 : Int32), vI (0 : Int32), uN] [(.ref dd)]))
  obtain ⟨T3, H3, st3⟩ := OHere.getstatic H2 hx hZ (pc := 14) (Ls := #[vR u0, vI (1 : Int32), vI (0 : Int32), uN]) (rest := [(.ref dd)]) hown (tWd hw 53 rfl) hSt (hb hby d9_14)
  replace H3 : OHere p l e _ s m _ below meth c Z n0 0 T3 0 0 ([(eO u0 "java/util/ArrayList" [("java/util/AbstractList", "modCount", "I", (.int mc)), ("java/util/ArrayList", "elementData", "[Ljava/lang/Object;", (.ref dd)), ("java/util/ArrayList", "size", "I", (.int (0 : Int32)))])] ++ F) := H3
  refine OEnds.pre (fun t_ k_ => st3 _ k_) ?_
  show OEnds p e below s _ _ _ (T3.setTop (mkF m 17 #[vR u0, vI (1 : Int32), vI (0 : Int32), uN] [(.ref dd), (.ref dd)]))
  refine OEnds.pre (fun t_ k_ => XT.acmpYes H3.here hx rfl (pc0 := 17) (pc' := 45) rfl (hb hby d9_17) rfl rfl rfl (XT.aa_eq_t rfl) (by decide) (by decide) k_) ?_
  show OEnds p e below s _ _ _ (T3.setTop (mkF m 45 #[vR u0, vI (1 : Int32), vI (0 : Int32), uN] []))
  refine OEnds.pre (fun t_ k_ => XS.aloadN H3.here hx rfl (hb hby d9_45) rfl rfl k_) ?_
  show OEnds p e below s _ _ _ (T3.setTop (mkF m 46 #[vR u0, vI (1 : Int32), vI (0 : Int32), uN] [(.ref u0)]))
  refine OEnds.pre (fun t_ k_ => XT.bipushV H3.here hx rfl (10 : Int32) (hb hby d9_46) rfl k_) ?_
  show OEnds p e below s _ _ _ (T3.setTop (mkF m 48 #[vR u0, vI (1 : Int32), vI (0 : Int32), uN] [(.int (10 : Int32)), (.ref u0)]))
  refine OEnds.pre (fun t_ k_ => XS.iloadN H3.here hx rfl (hb hby d9_48) rfl k_) ?_
  show OEnds p e below s _ _ _ (T3.setTop (mkF m 49 #[vR u0, vI (1 : Int32), vI (0 : Int32), uN] [(.int (1 : Int32)), (.int (10 : Int32)), (.ref u0)]))
  obtain ⟨T4, _, _, ⟨rfl, rfl⟩, H4, st4⟩ := OHere.static H3 hx hZ (y := (⟨"java/lang/Math", "max", "(II)I"⟩ : MethodName)) (W := 1) hown (tWd hw 80 rfl) (tWd hw 81 rfl) (tWd hw 82 rfl) (tWd hw 83 rfl) (by decide) (conMax l Z a0 hw n0 [] (10 : Int32) (1 : Int32) (10 : Int32) (by decide) ([] ++ ([(eO u0 "java/util/ArrayList" [("java/util/AbstractList", "modCount", "I", (.int mc)), ("java/util/ArrayList", "elementData", "[Ljava/lang/Object;", (.ref dd)), ("java/util/ArrayList", "size", "I", (.int (0 : Int32)))])] ++ F))) (by decide) (by decide) (pc := 49) (Ls := #[vR u0, vI (1 : Int32), vI (0 : Int32), uN]) (argsL := [(.int (10 : Int32)), (.int (1 : Int32))]) (rest := [(.ref u0)]) (by rw [hml]; rfl) (lenOf pd_oIIcI rfl) rfl (Nat.le_of_eq rfl) (hb hby d9_49) (by decide) (by decide)
  replace H4 : OHere p l e _ s m _ below meth c Z n0 0 T4 0 0 ([(eO u0 "java/util/ArrayList" [("java/util/AbstractList", "modCount", "I", (.int mc)), ("java/util/ArrayList", "elementData", "[Ljava/lang/Object;", (.ref dd)), ("java/util/ArrayList", "size", "I", (.int (0 : Int32)))])] ++ F) := H4
  refine OEnds.pre (fun t_ k_ => st4 _ k_) ?_
  show OEnds p e below s _ _ _ (T4.setTop (mkF m 52 #[vR u0, vI (1 : Int32), vI (0 : Int32), uN] [(.int (10 : Int32)), (.ref u0)]))
  obtain ⟨T6, b5, H6, st6⟩ := OHere.anewarray H4 hx hZ (cap := 10) (pc := 52) (Ls := #[vR u0, vI (1 : Int32), vI (0 : Int32), uN]) (rest := [(.ref u0)]) (z := (10 : Int32)) hown (tWd hw 84 rfl) (tWd hw 85 rfl) (hb hby d9_52) (by decide) (by decide) (by decide) (by decide) (by decide)
  replace H6 : OHere p l e _ s m _ below meth c Z n0 0 T6 1 10 ([(eA b5 (.object "java/lang/Object") [.null, .null, .null, .null, .null, .null, .null, .null, .null, .null]), (eO u0 "java/util/ArrayList" [("java/util/AbstractList", "modCount", "I", (.int mc)), ("java/util/ArrayList", "elementData", "[Ljava/lang/Object;", (.ref dd)), ("java/util/ArrayList", "size", "I", (.int (0 : Int32)))])] ++ F) := H6
  refine OEnds.pre (fun t_ k_ => st6 _ k_) ?_
  show OEnds p e below s _ _ _ (T6.setTop (mkF m 55 #[vR u0, vI (1 : Int32), vI (0 : Int32), uN] [(.ref b5), (.ref u0)]))
  refine OEnds.pre (fun t_ k_ => XT.dupX1 H6.here hx rfl (hb hby d9_55) rfl rfl rfl k_) ?_
  show OEnds p e below s _ _ _ (T6.setTop (mkF m 56 #[vR u0, vI (1 : Int32), vI (0 : Int32), uN] [(.ref b5), (.ref u0), (.ref b5)]))
  obtain ⟨T7, H7, st7⟩ := OHere.putfield H6 hx hZ (O := "java/util/ArrayList") (q := 1) (f := 1) (v := (.ref b5)) (C := "java/util/ArrayList") (ty := (.array (.object "java/lang/Object"))) (pc := 56) (Ls := #[vR u0, vI (1 : Int32), vI (0 : Int32), uN]) (rest := [(.ref b5)]) hown (tWd hw 54 rfl) Via.refl (fs := [("java/util/AbstractList", "modCount", "I", (.int mc)), ("java/util/ArrayList", "elementData", "[Ljava/lang/Object;", (.ref dd)), ("java/util/ArrayList", "size", "I", (.int (0 : Int32)))]) rfl rfl (Or.inl (tWd hw 55 rfl)) (tWd hw 33 rfl) (by decide) rfl rfl (hb hby d9_56)
  replace H7 : OHere p l e _ s m _ below meth c Z n0 0 T7 1 10 ([(eA b5 (.object "java/lang/Object") [.null, .null, .null, .null, .null, .null, .null, .null, .null, .null]), (eO u0 "java/util/ArrayList" [("java/util/AbstractList", "modCount", "I", (.int mc)), ("java/util/ArrayList", "elementData", "[Ljava/lang/Object;", (.ref b5)), ("java/util/ArrayList", "size", "I", (.int (0 : Int32)))])] ++ F) := H7
  refine OEnds.pre (fun t_ k_ => st7 _ k_) ?_
  show OEnds p e below s _ _ _ (T7.setTop (mkF m 59 #[vR u0, vI (1 : Int32), vI (0 : Int32), uN] [(.ref b5)]))
  exact H7.areturn hx Bd.notSynchronized Bd.returns rfl rfl (hb hby d9_59) (by decide) (by decide) (fun h L W N => ⟨N, _, ⟨b5, rfl, rfl⟩, W⟩)
theorem d8_0 : decode jdk_38_method_7_code 0 = .ok (.aload_n 0, 1) := by decide +kernel
theorem d8_1 : decode jdk_38_method_7_code 1 = .ok (.aload_n 0, 1) := by decide +kernel
theorem d8_2 : decode jdk_38_method_7_code 2 = .ok (.getfield 48, 3) := by decide +kernel
theorem d8_5 : decode jdk_38_method_7_code 5 = .ok (.iconst 1, 1) := by decide +kernel
theorem d8_6 : decode jdk_38_method_7_code 6 = .ok (.iadd, 1) := by decide +kernel
theorem d8_7 : decode jdk_38_method_7_code 7 = .ok (.invokevirtual 69, 3) := by decide +kernel
theorem d8_10 : decode jdk_38_method_7_code 10 = .ok (.areturn, 1) := by decide +kernel
theorem pn_8 : plainFor (⟨"java/util/ArrayList", "grow", "()[Ljava/lang/Object;"⟩ : MethodName) = true := by first | exact plainFor_of_name (by first | (simp [plainName, overriddenIn]; done) | decide +kernel) | decide +kernel
theorem ef_8 (m : MethodId) (x0 : Addr) : entryFrame m #[(.ref x0)] 1 = mkF m 0 #[.val (.ref x0)] [] := by first | (simp [entryFrame, mkF, argsToLocals, Value.category]; done) | rfl
set_option maxRecDepth 65536 in
set_option maxHeartbeats 40000000 in
theorem conG0 (l : Launch) (Z : State) (a0 : Array Value) (hw : ∀ d ∈ tables_1, d.before a0 Z = true) (n0 : Nat) (ws : List Jvm.Cond) (u0 : Addr) (F : List OEnt) (mc : Int32) (dd : Addr) (hSt : Sta Z Z.heap "java/util/ArrayList" "DEFAULTCAPACITY_EMPTY_ELEMENTDATA" "[Ljava/lang/Object;" (.ref dd)) (hDd : OOldArr Z dd "java/lang/Object" 0) :
    OCon l Z n0 (⟨"java/util/ArrayList", "grow", "()[Ljava/lang/Object;"⟩ : MethodName) jdk_38_method_7_code 1 (some (.array (.object "java/lang/Object"))) ws ({ frames := 2, cells := 1, slots := 10, locals := 29 } : Room) #[(.ref u0)] ([(eO u0 "java/util/ArrayList" [("java/util/AbstractList", "modCount", "I", (.int mc)), ("java/util/ArrayList", "elementData", "[Ljava/lang/Object;", (.ref dd)), ("java/util/ArrayList", "size", "I", (.int (0 : Int32)))])] ++ F) (fun v' es' => ∃ b : Addr, v' = some (.ref b) ∧ es' = ([(eA b (.object "java/lang/Object") [.null, .null, .null, .null, .null, .null, .null, .null, .null, .null]), (eO u0 "java/util/ArrayList" [("java/util/AbstractList", "modCount", "I", (.int mc)), ("java/util/ArrayList", "elementData", "[Ljava/lang/Object;", (.ref b)), ("java/util/ArrayList", "size", "I", (.int (0 : Int32)))])] ++ F)) := by
  intro h0 hW0
  refine MetFree.of_bodySF pn_8 hisR ?_
  intro p e s m args below meth c s₁ Bd hml0 hP hK
  obtain ⟨rfl, hZ, hh⟩ := hP
  have hx := Bd.exec
  have hby := Bd.bytes
  have hml : c.maxLocals = 1 := hml0
  have hown : s.vm.findClass "java/util/ArrayList" = some m.cls := findClass_of_methodNamed Bd.named
  have hnm := (name_of_methodNamed Bd.named Bd.method).1
  have H0 : OHere p l e ({ frames := 2, cells := 1, slots := 10, locals := 29 } : Room) s m #[(.ref u0)] below meth c Z n0 0 s₁ 0 0 ([(eO u0 "java/util/ArrayList" [("java/util/AbstractList", "modCount", "I", (.int mc)), ("java/util/ArrayList", "elementData", "[Ljava/lang/Object;", (.ref dd)), ("java/util/ArrayList", "size", "I", (.int (0 : Int32)))])] ++ F) := ⟨[], Stand.of_body Bd, by rw [show s₁.heap = h0 from by rw [← hh, Bd.state]; rfl]; exact hW0, Fr.nil _, Nat.zero_le _⟩
  show OEnds p e below s _ _ (fun v' h' L => Fr n0 L ∧ ∃ es', (fun v' es' => ∃ b : Addr, v' = some (.ref b) ∧ es' = ([(eA b (.object "java/lang/Object") [.null, .null, .null, .null, .null, .null, .null, .null, .null, .null]), (eO u0 "java/util/ArrayList" [("java/util/AbstractList", "modCount", "I", (.int mc)), ("java/util/ArrayList", "elementData", "[Ljava/lang/Object;", (.ref b)), ("java/util/ArrayList", "size", "I", (.int (0 : Int32)))])] ++ F)) v' es' ∧ OWorld Z n0 h' es') _
  refine OEnds.pre (fun t k => castTop (ef_8 m u0) k) ?_
  show OEnds p e below s _ _ _ (s₁.setTop (mkF m 0 #[vR u0] []))
  refine OEnds.pre (fun t_ k_ => XS.aloadN H0.here hx rfl (hb hby d8_0) rfl rfl k_) ?_
  show OEnds p e below s _ _ _ (s₁.setTop (mkF m 1 #[vR u0] [(.ref u0)]))
  refine OEnds.pre (fun t_ k_ => XS.aloadN H0.here hx rfl (hb hby d8_1) rfl rfl k_) ?_
  show OEnds p e below s _ _ _ (s₁.setTop (mkF m 2 #[vR u0] [(.ref u0), (.ref u0)]))
  obtain ⟨T1, H1, st1⟩ := OHere.getfield H0 hx hZ (O := "java/util/ArrayList") (q := 0) (f := 2) (v := (.int (0 : Int32))) (fs := [("java/util/AbstractList", "modCount", "I", (.int mc)), ("java/util/ArrayList", "elementData", "[Ljava/lang/Object;", (.ref dd)), ("java/util/ArrayList", "size", "I", (.int (0 : Int32)))]) (C := "java/util/ArrayList") (pc := 2) (Ls := #[vR u0]) (rest := [(.ref u0)]) hown (tWd hw 63 rfl) Via.refl rfl rfl (hb hby d8_2)
  replace H1 : OHere p l e _ s m _ below meth c Z n0 0 T1 0 0 ([(eO u0 "java/util/ArrayList" [("java/util/AbstractList", "modCount", "I", (.int mc)), ("java/util/ArrayList", "elementData", "[Ljava/lang/Object;", (.ref dd)), ("java/util/ArrayList", "size", "I", (.int (0 : Int32)))])] ++ F) := H1
  refine OEnds.pre (fun t_ k_ => st1 _ k_) ?_
  show OEnds p e below s _ _ _ (T1.setTop (mkF m 5 #[vR u0] [(.int (0 : Int32)), (.ref u0)]))
  refine OEnds.pre (fun t_ k_ => XT.iconstV H1.here hx rfl (1 : Int32) (hb hby d8_5) rfl k_) ?_
  show OEnds p e below s _ _ _ (T1.setTop (mkF m 6 #[vR u0] [(.int (1 : Int32)), (.int (0 : Int32)), (.ref u0)]))
  refine OEnds.pre (fun t_ k_ => XS.iadd H1.here hx rfl (hb hby d8_6) rfl k_) ?_
  show OEnds p e below s _ _ _ (T1.setTop (mkF m 7 #[vR u0] [(.int (1 : Int32)), (.ref u0)]))
  obtain ⟨T3, _, _, ⟨bg2, rfl, rfl⟩, H3, st3⟩ := OHere.priv H1 hx hZ (y := (⟨"java/util/ArrayList", "grow", "(I)[Ljava/lang/Object;"⟩ : MethodName)) (W := 0) (a := u0) (q := 0) (fs := [("java/util/AbstractList", "modCount", "I", (.int mc)), ("java/util/ArrayList", "elementData", "[Ljava/lang/Object;", (.ref dd)), ("java/util/ArrayList", "size", "I", (.int (0 : Int32)))]) (C := "java/util/ArrayList") hown (tWd hw 75 rfl) (tWd hw 76 rfl) (nf_sel (tWd hw 59 rfl) rfl) (tWd hw 77 rfl) (tWd hw 34 rfl) (tWd hw 79 rfl) (by decide) rfl (conG1 l Z a0 hw n0 [] u0 ([] ++ F) mc dd hSt hDd) (by decide) (by decide) (pc := 7) (Ls := #[vR u0]) (argsL := [(.int (1 : Int32))]) (rest := []) (by rw [hml]; rfl) (lenOf pd_oIcALjava_lang_Object_ rfl) rfl (Nat.le_of_eq rfl) (hb hby d8_7) (by decide) (by decide)
  replace H3 : OHere p l e _ s m _ below meth c Z n0 0 T3 1 10 ([(eA bg2 (.object "java/lang/Object") [.null, .null, .null, .null, .null, .null, .null, .null, .null, .null]), (eO u0 "java/util/ArrayList" [("java/util/AbstractList", "modCount", "I", (.int mc)), ("java/util/ArrayList", "elementData", "[Ljava/lang/Object;", (.ref bg2)), ("java/util/ArrayList", "size", "I", (.int (0 : Int32)))])] ++ F) := H3
  refine OEnds.pre (fun t_ k_ => st3 _ k_) ?_
  show OEnds p e below s _ _ _ (T3.setTop (mkF m 10 #[vR u0] [(.ref bg2)]))
  exact H3.areturn hx Bd.notSynchronized Bd.returns rfl rfl (hb hby d8_10) (by decide) (by decide) (fun h L W N => ⟨N, _, ⟨bg2, rfl, rfl⟩, W⟩)
theorem pd_ocALjava_lang_Object_ : parseMethodDescriptor "()[Ljava/lang/Object;" = some ⟨[], some (.array (.object "java/lang/Object"))⟩ := by decide +kernel
theorem pd_oLjava_lang_Object_ALjava_lang_Object_IcV : parseMethodDescriptor "(Ljava/lang/Object;[Ljava/lang/Object;I)V" = some ⟨[(.object "java/lang/Object"), (.array (.object "java/lang/Object")), .int], none⟩ := by decide +kernel
theorem d7_0 : decode jdk_38_method_24_code 0 = .ok (.iload_n 3, 1) := by decide +kernel
theorem d7_1 : decode jdk_38_method_24_code 1 = .ok (.aload_n 2, 1) := by decide +kernel
theorem d7_2 : decode jdk_38_method_24_code 2 = .ok (.arraylength, 1) := by decide +kernel
theorem d7_3 : decode jdk_38_method_24_code 3 = .ok (.if_icmp .ne 8, 3) := by decide +kernel
theorem d7_6 : decode jdk_38_method_24_code 6 = .ok (.aload_n 0, 1) := by decide +kernel
theorem d7_7 : decode jdk_38_method_24_code 7 = .ok (.invokevirtual 129, 3) := by decide +kernel
theorem d7_10 : decode jdk_38_method_24_code 10 = .ok (.astore_n 2, 1) := by decide +kernel
theorem d7_11 : decode jdk_38_method_24_code 11 = .ok (.aload_n 2, 1) := by decide +kernel
theorem d7_12 : decode jdk_38_method_24_code 12 = .ok (.iload_n 3, 1) := by decide +kernel
theorem d7_13 : decode jdk_38_method_24_code 13 = .ok (.aload_n 1, 1) := by decide +kernel
theorem d7_14 : decode jdk_38_method_24_code 14 = .ok (.aastore, 1) := by decide +kernel
theorem d7_15 : decode jdk_38_method_24_code 15 = .ok (.aload_n 0, 1) := by decide +kernel
theorem d7_16 : decode jdk_38_method_24_code 16 = .ok (.iload_n 3, 1) := by decide +kernel
theorem d7_17 : decode jdk_38_method_24_code 17 = .ok (.iconst 1, 1) := by decide +kernel
theorem d7_18 : decode jdk_38_method_24_code 18 = .ok (.iadd, 1) := by decide +kernel
theorem d7_19 : decode jdk_38_method_24_code 19 = .ok (.putfield 48, 3) := by decide +kernel
theorem d7_22 : decode jdk_38_method_24_code 22 = .ok (.return_, 1) := by decide +kernel
theorem pn_7 : plainFor (⟨"java/util/ArrayList", "add", "(Ljava/lang/Object;[Ljava/lang/Object;I)V"⟩ : MethodName) = true := by first | exact plainFor_of_name (by first | (simp [plainName, overriddenIn]; done) | decide +kernel) | decide +kernel
theorem ef_7 (m : MethodId) (x0 : Addr) (x1 : Addr) (x2 : Addr) (x3 : Int32) : entryFrame m #[(.ref x0), (.ref x1), (.ref x2), (.int x3)] 4 = mkF m 0 #[.val (.ref x0), .val (.ref x1), .val (.ref x2), .val (.int x3)] [] := by first | (simp [entryFrame, mkF, argsToLocals, Value.category]; done) | rfl
set_option maxRecDepth 65536 in
set_option maxHeartbeats 40000000 in
theorem conA7_0 (l : Launch) (Z : State) (a0 : Array Value) (hw : ∀ d ∈ tables_1, d.before a0 Z = true) (n0 : Nat) (ws : List Jvm.Cond) (u0 : Addr) (F : List OEnt) (x : Addr) (fx : List OFEnt) (hxF : eO x "com/example/deadletter/deadletter/job/Job" fx ∈ F)  (dd : Addr) (hSt : Sta Z Z.heap "java/util/ArrayList" "DEFAULTCAPACITY_EMPTY_ELEMENTDATA" "[Ljava/lang/Object;" (.ref dd)) (hDd : OOldArr Z dd "java/lang/Object" 0) :
    OCon l Z n0 (⟨"java/util/ArrayList", "add", "(Ljava/lang/Object;[Ljava/lang/Object;I)V"⟩ : MethodName) jdk_38_method_24_code 4 none ws ({ frames := 3, cells := 1, slots := 10, locals := 41 } : Room) #[(.ref u0), (.ref x), (.ref dd), (.int (0 : Int32))] ([(eO u0 "java/util/ArrayList" [("java/util/AbstractList", "modCount", "I", (.int (1 : Int32))), ("java/util/ArrayList", "elementData", "[Ljava/lang/Object;", (.ref dd)), ("java/util/ArrayList", "size", "I", (.int (0 : Int32)))])] ++ F) (fun v' es' => ∃ b : Addr, v' = none ∧ es' = ([(eA b (.object "java/lang/Object") [(.ref x), .null, .null, .null, .null, .null, .null, .null, .null, .null]), (eO u0 "java/util/ArrayList" [("java/util/AbstractList", "modCount", "I", (.int (1 : Int32))), ("java/util/ArrayList", "elementData", "[Ljava/lang/Object;", (.ref b)), ("java/util/ArrayList", "size", "I", (.int (1 : Int32)))])] ++ F)) := by
  intro h0 hW0
  refine MetFree.of_bodySF pn_7 hisR ?_
  intro p e s m args below meth c s₁ Bd hml0 hP hK
  obtain ⟨rfl, hZ, hh⟩ := hP
  have hx := Bd.exec
  have hby := Bd.bytes
  have hml : c.maxLocals = 4 := hml0
  have hown : s.vm.findClass "java/util/ArrayList" = some m.cls := findClass_of_methodNamed Bd.named
  have hnm := (name_of_methodNamed Bd.named Bd.method).1
  have H0 : OHere p l e ({ frames := 3, cells := 1, slots := 10, locals := 41 } : Room) s m #[(.ref u0), (.ref x), (.ref dd), (.int (0 : Int32))] below meth c Z n0 0 s₁ 0 0 ([(eO u0 "java/util/ArrayList" [("java/util/AbstractList", "modCount", "I", (.int (1 : Int32))), ("java/util/ArrayList", "elementData", "[Ljava/lang/Object;", (.ref dd)), ("java/util/ArrayList", "size", "I", (.int (0 : Int32)))])] ++ F) := ⟨[], Stand.of_body Bd, by rw [show s₁.heap = h0 from by rw [← hh, Bd.state]; rfl]; exact hW0, Fr.nil _, Nat.zero_le _⟩
  show OEnds p e below s _ _ (fun v' h' L => Fr n0 L ∧ ∃ es', (fun v' es' => ∃ b : Addr, v' = none ∧ es' = ([(eA b (.object "java/lang/Object") [(.ref x), .null, .null, .null, .null, .null, .null, .null, .null, .null]), (eO u0 "java/util/ArrayList" [("java/util/AbstractList", "modCount", "I", (.int (1 : Int32))), ("java/util/ArrayList", "elementData", "[Ljava/lang/Object;", (.ref b)), ("java/util/ArrayList", "size", "I", (.int (1 : Int32)))])] ++ F)) v' es' ∧ OWorld Z n0 h' es') _
  refine OEnds.pre (fun t k => castTop (ef_7 m u0 x dd (0 : Int32)) k) ?_
  show OEnds p e below s _ _ _ (s₁.setTop (mkF m 0 #[vR u0, vR x, vR dd, vI (0 : Int32)] []))
  refine OEnds.pre (fun t_ k_ => XS.iloadN H0.here hx rfl (hb hby d7_0) rfl k_) ?_
  show OEnds p e below s _ _ _ (s₁.setTop (mkF m 1 #[vR u0, vR x, vR dd, vI (0 : Int32)] [(.int (0 : Int32))]))
  refine OEnds.pre (fun t_ k_ => XS.aloadN H0.here hx rfl (hb hby d7_1) rfl rfl k_) ?_
  show OEnds p e below s _ _ _ (s₁.setTop (mkF m 2 #[vR u0, vR x, vR dd, vI (0 : Int32)] [(.ref dd), (.int (0 : Int32))]))
  refine OEnds.pre (fun t_ k_ => OHere.lenOld H0 hx hZ (C := "java/lang/Object") (n := 0) (z := (0 : Int32)) hDd rfl (hb hby d7_2) k_) ?_
  show OEnds p e below s _ _ _ (s₁.setTop (mkF m 3 #[vR u0, vR x, vR dd, vI (0 : Int32)] [(.int (0 : Int32)), (.int (0 : Int32))]))
  refine OEnds.pre (fun t_ k_ => XS.icmpNo H0.here hx rfl (hb hby d7_3) rfl (XT.ii_ne_f (by decide)) k_) ?_
  show OEnds p e below s _ _ _ (s₁.setTop (mkF m 6 #[vR u0, vR x, vR dd, vI (0 : Int32)] []))
  refine OEnds.pre (fun t_ k_ => XS.aloadN H0.here hx rfl (hb hby d7_6) rfl rfl k_) ?_
  show OEnds p e below s _ _ _ (s₁.setTop (mkF m 7 #[vR u0, vR x, vR dd, vI (0 : Int32)] [(.ref u0)]))
  obtain ⟨T2, _, _, ⟨bg1, rfl, rfl⟩, H2, st2⟩ := OHere.priv H0 hx hZ (y := (⟨"java/util/ArrayList", "grow", "()[Ljava/lang/Object;"⟩ : MethodName)) (W := 0) (a := u0) (q := 0) (fs := [("java/util/AbstractList", "modCount", "I", (.int (1 : Int32))), ("java/util/ArrayList", "elementData", "[Ljava/lang/Object;", (.ref dd)), ("java/util/ArrayList", "size", "I", (.int (0 : Int32)))]) (C := "java/util/ArrayList") hown (tWd hw 70 rfl) (tWd hw 71 rfl) (nf_sel (tWd hw 59 rfl) rfl) (tWd hw 72 rfl) (tWd hw 34 rfl) (tWd hw 74 rfl) (by decide) rfl (conG0 l Z a0 hw n0 [] u0 ([] ++ F) (1 : Int32) dd hSt hDd) (by decide) (by decide) (pc := 7) (Ls := #[vR u0, vR x, vR dd, vI (0 : Int32)]) (argsL := []) (rest := []) (by rw [hml]; rfl) (lenOf pd_ocALjava_lang_Object_ rfl) rfl (Nat.le_of_eq rfl) (hb hby d7_7) (by decide) (by decide)
  replace H2 : OHere p l e _ s m _ below meth c Z n0 0 T2 1 10 ([(eA bg1 (.object "java/lang/Object") [.null, .null, .null, .null, .null, .null, .null, .null, .null, .null]), (eO u0 "java/util/ArrayList" [("java/util/AbstractList", "modCount", "I", (.int (1 : Int32))), ("java/util/ArrayList", "elementData", "[Ljava/lang/Object;", (.ref bg1)), ("java/util/ArrayList", "size", "I", (.int (0 : Int32)))])] ++ F) := H2
  refine OEnds.pre (fun t_ k_ => st2 _ k_) ?_
  show OEnds p e below s _ _ _ (T2.setTop (mkF m 10 #[vR u0, vR x, vR dd, vI (0 : Int32)] [(.ref bg1)]))
  refine OEnds.pre (fun t_ k_ => XS.astoreN H2.here hx rfl (hb hby d7_10) rfl rfl (l' := #[vR u0, vR x, vR bg1, vI (0 : Int32)]) rfl k_) ?_
  show OEnds p e below s _ _ _ (T2.setTop (mkF m 11 #[vR u0, vR x, vR bg1, vI (0 : Int32)] []))
  refine OEnds.pre (fun t_ k_ => XS.aloadN H2.here hx rfl (hb hby d7_11) rfl rfl k_) ?_
  show OEnds p e below s _ _ _ (T2.setTop (mkF m 12 #[vR u0, vR x, vR bg1, vI (0 : Int32)] [(.ref bg1)]))
  refine OEnds.pre (fun t_ k_ => XS.iloadN H2.here hx rfl (hb hby d7_12) rfl k_) ?_
  show OEnds p e below s _ _ _ (T2.setTop (mkF m 13 #[vR u0, vR x, vR bg1, vI (0 : Int32)] [(.int (0 : Int32)), (.ref bg1)]))
  refine OEnds.pre (fun t_ k_ => XS.aloadN H2.here hx rfl (hb hby d7_13) rfl rfl k_) ?_
  show OEnds p e below s _ _ _ (T2.setTop (mkF m 14 #[vR u0, vR x, vR bg1, vI (0 : Int32)] [(.ref x), (.int (0 : Int32)), (.ref bg1)]))
  obtain ⟨T3, H3, st3⟩ := OHere.aastore H2 hx hZ (q := 0) (i := 0) (vs := [.null, .null, .null, .null, .null, .null, .null, .null, .null, .null]) (v := (.ref x)) (j := (0 : Int32)) (pc := 14) (Ls := #[vR u0, vR x, vR bg1, vI (0 : Int32)]) (rest := []) (C := "java/lang/Object") rfl (by decide) (by decide) (by simp) (Or.inr ⟨_, _, _, _, (memAt hxF).choose_spec, rfl, (tWd hw 86 rfl)⟩) (hb hby d7_14)
  replace H3 : OHere p l e _ s m _ below meth c Z n0 0 T3 1 10 ([(eA bg1 (.object "java/lang/Object") [(.ref x), .null, .null, .null, .null, .null, .null, .null, .null, .null]), (eO u0 "java/util/ArrayList" [("java/util/AbstractList", "modCount", "I", (.int (1 : Int32))), ("java/util/ArrayList", "elementData", "[Ljava/lang/Object;", (.ref bg1)), ("java/util/ArrayList", "size", "I", (.int (0 : Int32)))])] ++ F) := H3
  refine OEnds.pre (fun t_ k_ => st3 _ k_) ?_
  show OEnds p e below s _ _ _ (T3.setTop (mkF m 15 #[vR u0, vR x, vR bg1, vI (0 : Int32)] []))
  refine OEnds.pre (fun t_ k_ => XS.aloadN H3.here hx rfl (hb hby d7_15) rfl rfl k_) ?_
  show OEnds p e below s _ _ _ (T3.setTop (mkF m 16 #[vR u0, vR x, vR bg1, vI (0 : Int32)] [(.ref u0)]))
  refine OEnds.pre (fun t_ k_ => XS.iloadN H3.here hx rfl (hb hby d7_16) rfl k_) ?_
  show OEnds p e below s _ _ _ (T3.setTop (mkF m 17 #[vR u0, vR x, vR bg1, vI (0 : Int32)] [(.int (0 : Int32)), (.ref u0)]))
  refine OEnds.pre (fun t_ k_ => XT.iconstV H3.here hx rfl (1 : Int32) (hb hby d7_17) rfl k_) ?_
  show OEnds p e below s _ _ _ (T3.setTop (mkF m 18 #[vR u0, vR x, vR bg1, vI (0 : Int32)] [(.int (1 : Int32)), (.int (0 : Int32)), (.ref u0)]))
  refine OEnds.pre (fun t_ k_ => XS.iadd H3.here hx rfl (hb hby d7_18) rfl k_) ?_
  show OEnds p e below s _ _ _ (T3.setTop (mkF m 19 #[vR u0, vR x, vR bg1, vI (0 : Int32)] [(.int (1 : Int32)), (.ref u0)]))
  obtain ⟨T4, H4, st4⟩ := OHere.putfield H3 hx hZ (O := "java/util/ArrayList") (q := 1) (f := 2) (v := (.int (1 : Int32))) (C := "java/util/ArrayList") (ty := .int) (pc := 19) (Ls := #[vR u0, vR x, vR bg1, vI (0 : Int32)]) (rest := []) hown (tWd hw 63 rfl) Via.refl (fs := [("java/util/AbstractList", "modCount", "I", (.int (1 : Int32))), ("java/util/ArrayList", "elementData", "[Ljava/lang/Object;", (.ref bg1)), ("java/util/ArrayList", "size", "I", (.int (0 : Int32)))]) rfl rfl (Or.inl (tWd hw 64 rfl)) (tWd hw 33 rfl) (by decide) rfl rfl (hb hby d7_19)
  replace H4 : OHere p l e _ s m _ below meth c Z n0 0 T4 1 10 ([(eA bg1 (.object "java/lang/Object") [(.ref x), .null, .null, .null, .null, .null, .null, .null, .null, .null]), (eO u0 "java/util/ArrayList" [("java/util/AbstractList", "modCount", "I", (.int (1 : Int32))), ("java/util/ArrayList", "elementData", "[Ljava/lang/Object;", (.ref bg1)), ("java/util/ArrayList", "size", "I", (.int (1 : Int32)))])] ++ F) := H4
  refine OEnds.pre (fun t_ k_ => st4 _ k_) ?_
  show OEnds p e below s _ _ _ (T4.setTop (mkF m 22 #[vR u0, vR x, vR bg1, vI (0 : Int32)] []))
  exact H4.ret hx Bd.notSynchronized Bd.returns (hb hby d7_22) (by decide) (by decide) (fun h L W N => ⟨N, _, ⟨bg1, rfl, rfl⟩, W⟩)
theorem d6_0 : decode jdk_38_method_25_code 0 = .ok (.aload_n 0, 1) := by decide +kernel
theorem d6_1 : decode jdk_38_method_25_code 1 = .ok (.dup, 1) := by decide +kernel
theorem d6_2 : decode jdk_38_method_25_code 2 = .ok (.getfield 63, 3) := by decide +kernel
theorem d6_5 : decode jdk_38_method_25_code 5 = .ok (.iconst 1, 1) := by decide +kernel
theorem d6_6 : decode jdk_38_method_25_code 6 = .ok (.iadd, 1) := by decide +kernel
theorem d6_7 : decode jdk_38_method_25_code 7 = .ok (.putfield 63, 3) := by decide +kernel
theorem d6_10 : decode jdk_38_method_25_code 10 = .ok (.aload_n 0, 1) := by decide +kernel
theorem d6_11 : decode jdk_38_method_25_code 11 = .ok (.aload_n 1, 1) := by decide +kernel
theorem d6_12 : decode jdk_38_method_25_code 12 = .ok (.aload_n 0, 1) := by decide +kernel
theorem d6_13 : decode jdk_38_method_25_code 13 = .ok (.getfield 9, 3) := by decide +kernel
theorem d6_16 : decode jdk_38_method_25_code 16 = .ok (.aload_n 0, 1) := by decide +kernel
theorem d6_17 : decode jdk_38_method_25_code 17 = .ok (.getfield 48, 3) := by decide +kernel
theorem d6_20 : decode jdk_38_method_25_code 20 = .ok (.invokevirtual 131, 3) := by decide +kernel
theorem d6_23 : decode jdk_38_method_25_code 23 = .ok (.iconst 1, 1) := by decide +kernel
theorem d6_24 : decode jdk_38_method_25_code 24 = .ok (.ireturn, 1) := by decide +kernel
theorem pn_6 : plainFor (⟨"java/util/ArrayList", "add", "(Ljava/lang/Object;)Z"⟩ : MethodName) = true := by first | exact plainFor_of_name (by first | (simp [plainName, overriddenIn]; done) | decide +kernel) | decide +kernel
theorem ef_6 (m : MethodId) (x0 : Addr) (x1 : Addr) : entryFrame m #[(.ref x0), (.ref x1)] 2 = mkF m 0 #[.val (.ref x0), .val (.ref x1)] [] := by first | (simp [entryFrame, mkF, argsToLocals, Value.category]; done) | rfl
set_option maxRecDepth 65536 in
set_option maxHeartbeats 40000000 in
theorem conA6_0 (l : Launch) (Z : State) (a0 : Array Value) (hw : ∀ d ∈ tables_1, d.before a0 Z = true) (n0 : Nat) (ws : List Jvm.Cond) (u0 : Addr) (F : List OEnt) (x : Addr) (fx : List OFEnt) (hxF : eO x "com/example/deadletter/deadletter/job/Job" fx ∈ F)  (dd : Addr) (hSt : Sta Z Z.heap "java/util/ArrayList" "DEFAULTCAPACITY_EMPTY_ELEMENTDATA" "[Ljava/lang/Object;" (.ref dd)) (hDd : OOldArr Z dd "java/lang/Object" 0) :
    OCon l Z n0 (⟨"java/util/ArrayList", "add", "(Ljava/lang/Object;)Z"⟩ : MethodName) jdk_38_method_25_code 2 (some .boolean) ws ({ frames := 4, cells := 1, slots := 10, locals := 56 } : Room) #[(.ref u0), (.ref x)] ([(eO u0 "java/util/ArrayList" [("java/util/AbstractList", "modCount", "I", (.int (0 : Int32))), ("java/util/ArrayList", "elementData", "[Ljava/lang/Object;", (.ref dd)), ("java/util/ArrayList", "size", "I", (.int (0 : Int32)))])] ++ F) (fun v' es' => ∃ b : Addr, v' = some (.int (1 : Int32)) ∧ es' = ([(eA b (.object "java/lang/Object") [(.ref x), .null, .null, .null, .null, .null, .null, .null, .null, .null]), (eO u0 "java/util/ArrayList" [("java/util/AbstractList", "modCount", "I", (.int (1 : Int32))), ("java/util/ArrayList", "elementData", "[Ljava/lang/Object;", (.ref b)), ("java/util/ArrayList", "size", "I", (.int (1 : Int32)))])] ++ F)) := by
  intro h0 hW0
  refine MetFree.of_bodySF pn_6 hisR ?_
  intro p e s m args below meth c s₁ Bd hml0 hP hK
  obtain ⟨rfl, hZ, hh⟩ := hP
  have hx := Bd.exec
  have hby := Bd.bytes
  have hml : c.maxLocals = 2 := hml0
  have hown : s.vm.findClass "java/util/ArrayList" = some m.cls := findClass_of_methodNamed Bd.named
  have hnm := (name_of_methodNamed Bd.named Bd.method).1
  have H0 : OHere p l e ({ frames := 4, cells := 1, slots := 10, locals := 56 } : Room) s m #[(.ref u0), (.ref x)] below meth c Z n0 0 s₁ 0 0 ([(eO u0 "java/util/ArrayList" [("java/util/AbstractList", "modCount", "I", (.int (0 : Int32))), ("java/util/ArrayList", "elementData", "[Ljava/lang/Object;", (.ref dd)), ("java/util/ArrayList", "size", "I", (.int (0 : Int32)))])] ++ F) := ⟨[], Stand.of_body Bd, by rw [show s₁.heap = h0 from by rw [← hh, Bd.state]; rfl]; exact hW0, Fr.nil _, Nat.zero_le _⟩
  show OEnds p e below s _ _ (fun v' h' L => Fr n0 L ∧ ∃ es', (fun v' es' => ∃ b : Addr, v' = some (.int (1 : Int32)) ∧ es' = ([(eA b (.object "java/lang/Object") [(.ref x), .null, .null, .null, .null, .null, .null, .null, .null, .null]), (eO u0 "java/util/ArrayList" [("java/util/AbstractList", "modCount", "I", (.int (1 : Int32))), ("java/util/ArrayList", "elementData", "[Ljava/lang/Object;", (.ref b)), ("java/util/ArrayList", "size", "I", (.int (1 : Int32)))])] ++ F)) v' es' ∧ OWorld Z n0 h' es') _
  refine OEnds.pre (fun t k => castTop (ef_6 m u0 x) k) ?_
  show OEnds p e below s _ _ _ (s₁.setTop (mkF m 0 #[vR u0, vR x] []))
  refine OEnds.pre (fun t_ k_ => XS.aloadN H0.here hx rfl (hb hby d6_0) rfl rfl k_) ?_
  show OEnds p e below s _ _ _ (s₁.setTop (mkF m 1 #[vR u0, vR x] [(.ref u0)]))
  refine OEnds.pre (fun t_ k_ => XS.dup H0.here hx rfl (hb hby d6_1) rfl rfl k_) ?_
  show OEnds p e below s _ _ _ (s₁.setTop (mkF m 2 #[vR u0, vR x] [(.ref u0), (.ref u0)]))
  obtain ⟨T1, H1, st1⟩ := OHere.getfield H0 hx hZ (O := "java/util/AbstractList") (q := 0) (f := 0) (v := (.int (0 : Int32))) (fs := [("java/util/AbstractList", "modCount", "I", (.int (0 : Int32))), ("java/util/ArrayList", "elementData", "[Ljava/lang/Object;", (.ref dd)), ("java/util/ArrayList", "size", "I", (.int (0 : Int32)))]) (C := "java/util/ArrayList") (pc := 2) (Ls := #[vR u0, vR x]) (rest := [(.ref u0)]) hown (tWd hw 61 rfl) (Via.of (tWd hw 62 rfl)) rfl rfl (hb hby d6_2)
  replace H1 : OHere p l e _ s m _ below meth c Z n0 0 T1 0 0 ([(eO u0 "java/util/ArrayList" [("java/util/AbstractList", "modCount", "I", (.int (0 : Int32))), ("java/util/ArrayList", "elementData", "[Ljava/lang/Object;", (.ref dd)), ("java/util/ArrayList", "size", "I", (.int (0 : Int32)))])] ++ F) := H1
  refine OEnds.pre (fun t_ k_ => st1 _ k_) ?_
  show OEnds p e below s _ _ _ (T1.setTop (mkF m 5 #[vR u0, vR x] [(.int (0 : Int32)), (.ref u0)]))
  refine OEnds.pre (fun t_ k_ => XT.iconstV H1.here hx rfl (1 : Int32) (hb hby d6_5) rfl k_) ?_
  show OEnds p e below s _ _ _ (T1.setTop (mkF m 6 #[vR u0, vR x] [(.int (1 : Int32)), (.int (0 : Int32)), (.ref u0)]))
  refine OEnds.pre (fun t_ k_ => XS.iadd H1.here hx rfl (hb hby d6_6) rfl k_) ?_
  show OEnds p e below s _ _ _ (T1.setTop (mkF m 7 #[vR u0, vR x] [(.int (1 : Int32)), (.ref u0)]))
  obtain ⟨T2, H2, st2⟩ := OHere.putfield H1 hx hZ (O := "java/util/AbstractList") (q := 0) (f := 0) (v := (.int (1 : Int32))) (C := "java/util/ArrayList") (ty := .int) (pc := 7) (Ls := #[vR u0, vR x]) (rest := []) hown (tWd hw 61 rfl) (Via.of (tWd hw 62 rfl)) (fs := [("java/util/AbstractList", "modCount", "I", (.int (0 : Int32))), ("java/util/ArrayList", "elementData", "[Ljava/lang/Object;", (.ref dd)), ("java/util/ArrayList", "size", "I", (.int (0 : Int32)))]) rfl rfl (Or.inl (tWd hw 52 rfl)) (tWd hw 33 rfl) (by decide) rfl rfl (hb hby d6_7)
  replace H2 : OHere p l e _ s m _ below meth c Z n0 0 T2 0 0 ([(eO u0 "java/util/ArrayList" [("java/util/AbstractList", "modCount", "I", (.int (1 : Int32))), ("java/util/ArrayList", "elementData", "[Ljava/lang/Object;", (.ref dd)), ("java/util/ArrayList", "size", "I", (.int (0 : Int32)))])] ++ F) := H2
  refine OEnds.pre (fun t_ k_ => st2 _ k_) ?_
  show OEnds p e below s _ _ _ (T2.setTop (mkF m 10 #[vR u0, vR x] []))
  refine OEnds.pre (fun t_ k_ => XS.aloadN H2.here hx rfl (hb hby d6_10) rfl rfl k_) ?_
  show OEnds p e below s _ _ _ (T2.setTop (mkF m 11 #[vR u0, vR x] [(.ref u0)]))
  refine OEnds.pre (fun t_ k_ => XS.aloadN H2.here hx rfl (hb hby d6_11) rfl rfl k_) ?_
  show OEnds p e below s _ _ _ (T2.setTop (mkF m 12 #[vR u0, vR x] [(.ref x), (.ref u0)]))
  refine OEnds.pre (fun t_ k_ => XS.aloadN H2.here hx rfl (hb hby d6_12) rfl rfl k_) ?_
  show OEnds p e below s _ _ _ (T2.setTop (mkF m 13 #[vR u0, vR x] [(.ref u0), (.ref x), (.ref u0)]))
  obtain ⟨T3, H3, st3⟩ := OHere.getfield H2 hx hZ (O := "java/util/ArrayList") (q := 0) (f := 1) (v := (.ref dd)) (fs := [("java/util/AbstractList", "modCount", "I", (.int (1 : Int32))), ("java/util/ArrayList", "elementData", "[Ljava/lang/Object;", (.ref dd)), ("java/util/ArrayList", "size", "I", (.int (0 : Int32)))]) (C := "java/util/ArrayList") (pc := 13) (Ls := #[vR u0, vR x]) (rest := [(.ref x), (.ref u0)]) hown (tWd hw 54 rfl) Via.refl rfl rfl (hb hby d6_13)
  replace H3 : OHere p l e _ s m _ below meth c Z n0 0 T3 0 0 ([(eO u0 "java/util/ArrayList" [("java/util/AbstractList", "modCount", "I", (.int (1 : Int32))), ("java/util/ArrayList", "elementData", "[Ljava/lang/Object;", (.ref dd)), ("java/util/ArrayList", "size", "I", (.int (0 : Int32)))])] ++ F) := H3
  refine OEnds.pre (fun t_ k_ => st3 _ k_) ?_
  show OEnds p e below s _ _ _ (T3.setTop (mkF m 16 #[vR u0, vR x] [(.ref dd), (.ref x), (.ref u0)]))
  refine OEnds.pre (fun t_ k_ => XS.aloadN H3.here hx rfl (hb hby d6_16) rfl rfl k_) ?_
  show OEnds p e below s _ _ _ (T3.setTop (mkF m 17 #[vR u0, vR x] [(.ref u0), (.ref dd), (.ref x), (.ref u0)]))
  obtain ⟨T4, H4, st4⟩ := OHere.getfield H3 hx hZ (O := "java/util/ArrayList") (q := 0) (f := 2) (v := (.int (0 : Int32))) (fs := [("java/util/AbstractList", "modCount", "I", (.int (1 : Int32))), ("java/util/ArrayList", "elementData", "[Ljava/lang/Object;", (.ref dd)), ("java/util/ArrayList", "size", "I", (.int (0 : Int32)))]) (C := "java/util/ArrayList") (pc := 17) (Ls := #[vR u0, vR x]) (rest := [(.ref dd), (.ref x), (.ref u0)]) hown (tWd hw 63 rfl) Via.refl rfl rfl (hb hby d6_17)
  replace H4 : OHere p l e _ s m _ below meth c Z n0 0 T4 0 0 ([(eO u0 "java/util/ArrayList" [("java/util/AbstractList", "modCount", "I", (.int (1 : Int32))), ("java/util/ArrayList", "elementData", "[Ljava/lang/Object;", (.ref dd)), ("java/util/ArrayList", "size", "I", (.int (0 : Int32)))])] ++ F) := H4
  refine OEnds.pre (fun t_ k_ => st4 _ k_) ?_
  show OEnds p e below s _ _ _ (T4.setTop (mkF m 20 #[vR u0, vR x] [(.int (0 : Int32)), (.ref dd), (.ref x), (.ref u0)]))
  obtain ⟨T6, _, _, ⟨bl5, rfl, rfl⟩, H6, st6⟩ := OHere.priv H4 hx hZ (y := (⟨"java/util/ArrayList", "add", "(Ljava/lang/Object;[Ljava/lang/Object;I)V"⟩ : MethodName)) (W := 0) (a := u0) (q := 0) (fs := [("java/util/AbstractList", "modCount", "I", (.int (1 : Int32))), ("java/util/ArrayList", "elementData", "[Ljava/lang/Object;", (.ref dd)), ("java/util/ArrayList", "size", "I", (.int (0 : Int32)))]) (C := "java/util/ArrayList") hown (tWd hw 65 rfl) (tWd hw 66 rfl) (nf_sel (tWd hw 59 rfl) rfl) (tWd hw 67 rfl) (tWd hw 34 rfl) (tWd hw 69 rfl) (by decide) rfl (conA7_0 l Z a0 hw n0 [] u0 ([] ++ F) x fx (List.mem_append_right _ hxF) dd hSt hDd) (by decide) (by decide) (pc := 20) (Ls := #[vR u0, vR x]) (argsL := [(.ref x), (.ref dd), (.int (0 : Int32))]) (rest := []) (by rw [hml]; rfl) (lenOf pd_oLjava_lang_Object_ALjava_lang_Object_IcV rfl) rfl (Nat.le_of_eq rfl) (hb hby d6_20) (by decide) (by decide)
  replace H6 : OHere p l e _ s m _ below meth c Z n0 0 T6 1 10 ([(eA bl5 (.object "java/lang/Object") [(.ref x), .null, .null, .null, .null, .null, .null, .null, .null, .null]), (eO u0 "java/util/ArrayList" [("java/util/AbstractList", "modCount", "I", (.int (1 : Int32))), ("java/util/ArrayList", "elementData", "[Ljava/lang/Object;", (.ref bl5)), ("java/util/ArrayList", "size", "I", (.int (1 : Int32)))])] ++ F) := H6
  refine OEnds.pre (fun t_ k_ => st6 _ k_) ?_
  show OEnds p e below s _ _ _ (T6.setTop (mkF m 23 #[vR u0, vR x] []))
  refine OEnds.pre (fun t_ k_ => XT.iconstV H6.here hx rfl (1 : Int32) (hb hby d6_23) rfl k_) ?_
  show OEnds p e below s _ _ _ (T6.setTop (mkF m 24 #[vR u0, vR x] [(.int (1 : Int32))]))
  exact H6.nrw hx Bd.notSynchronized Bd.returns (by simp) (hb hby d6_24) (by decide) (by decide) (fun h L W N => ⟨N, _, ⟨bl5, rfl, rfl⟩, W⟩)
set_option maxRecDepth 65536 in
set_option maxHeartbeats 40000000 in
theorem conA7_1 (l : Launch) (Z : State) (a0 : Array Value) (hw : ∀ d ∈ tables_1, d.before a0 Z = true) (n0 : Nat) (ws : List Jvm.Cond) (u0 : Addr) (F : List OEnt) (x : Addr) (fx : List OFEnt) (hxF : eO x "com/example/deadletter/deadletter/job/Job" fx ∈ F) (dc : Addr) (y0 : Addr) (dd : Addr) (hSt : Sta Z Z.heap "java/util/ArrayList" "DEFAULTCAPACITY_EMPTY_ELEMENTDATA" "[Ljava/lang/Object;" (.ref dd)) (hDd : OOldArr Z dd "java/lang/Object" 0) :
    OCon l Z n0 (⟨"java/util/ArrayList", "add", "(Ljava/lang/Object;[Ljava/lang/Object;I)V"⟩ : MethodName) jdk_38_method_24_code 4 none ws ({ frames := 0, cells := 0, slots := 0, locals := 0 } : Room) #[(.ref u0), (.ref x), (.ref dc), (.int (1 : Int32))] ([(eO u0 "java/util/ArrayList" [("java/util/AbstractList", "modCount", "I", (.int (2 : Int32))), ("java/util/ArrayList", "elementData", "[Ljava/lang/Object;", (.ref dc)), ("java/util/ArrayList", "size", "I", (.int (1 : Int32)))]), (eA dc (.object "java/lang/Object") [(.ref y0), .null, .null, .null, .null, .null, .null, .null, .null, .null])] ++ F) (fun v' es' => v' = none ∧ es' = ([(eO u0 "java/util/ArrayList" [("java/util/AbstractList", "modCount", "I", (.int (2 : Int32))), ("java/util/ArrayList", "elementData", "[Ljava/lang/Object;", (.ref dc)), ("java/util/ArrayList", "size", "I", (.int (2 : Int32)))]), (eA dc (.object "java/lang/Object") [(.ref y0), (.ref x), .null, .null, .null, .null, .null, .null, .null, .null])] ++ F)) := by
  intro h0 hW0
  refine MetFree.of_bodySF pn_7 hisR ?_
  intro p e s m args below meth c s₁ Bd hml0 hP hK
  obtain ⟨rfl, hZ, hh⟩ := hP
  have hx := Bd.exec
  have hby := Bd.bytes
  have hml : c.maxLocals = 4 := hml0
  have hown : s.vm.findClass "java/util/ArrayList" = some m.cls := findClass_of_methodNamed Bd.named
  have hnm := (name_of_methodNamed Bd.named Bd.method).1
  have H0 : OHere p l e ({ frames := 0, cells := 0, slots := 0, locals := 0 } : Room) s m #[(.ref u0), (.ref x), (.ref dc), (.int (1 : Int32))] below meth c Z n0 0 s₁ 0 0 ([(eO u0 "java/util/ArrayList" [("java/util/AbstractList", "modCount", "I", (.int (2 : Int32))), ("java/util/ArrayList", "elementData", "[Ljava/lang/Object;", (.ref dc)), ("java/util/ArrayList", "size", "I", (.int (1 : Int32)))]), (eA dc (.object "java/lang/Object") [(.ref y0), .null, .null, .null, .null, .null, .null, .null, .null, .null])] ++ F) := ⟨[], Stand.of_body Bd, by rw [show s₁.heap = h0 from by rw [← hh, Bd.state]; rfl]; exact hW0, Fr.nil _, Nat.zero_le _⟩
  show OEnds p e below s _ _ (fun v' h' L => Fr n0 L ∧ ∃ es', (fun v' es' => v' = none ∧ es' = ([(eO u0 "java/util/ArrayList" [("java/util/AbstractList", "modCount", "I", (.int (2 : Int32))), ("java/util/ArrayList", "elementData", "[Ljava/lang/Object;", (.ref dc)), ("java/util/ArrayList", "size", "I", (.int (2 : Int32)))]), (eA dc (.object "java/lang/Object") [(.ref y0), (.ref x), .null, .null, .null, .null, .null, .null, .null, .null])] ++ F)) v' es' ∧ OWorld Z n0 h' es') _
  refine OEnds.pre (fun t k => castTop (ef_7 m u0 x dc (1 : Int32)) k) ?_
  show OEnds p e below s _ _ _ (s₁.setTop (mkF m 0 #[vR u0, vR x, vR dc, vI (1 : Int32)] []))
  refine OEnds.pre (fun t_ k_ => XS.iloadN H0.here hx rfl (hb hby d7_0) rfl k_) ?_
  show OEnds p e below s _ _ _ (s₁.setTop (mkF m 1 #[vR u0, vR x, vR dc, vI (1 : Int32)] [(.int (1 : Int32))]))
  refine OEnds.pre (fun t_ k_ => XS.aloadN H0.here hx rfl (hb hby d7_1) rfl rfl k_) ?_
  show OEnds p e below s _ _ _ (s₁.setTop (mkF m 2 #[vR u0, vR x, vR dc, vI (1 : Int32)] [(.ref dc), (.int (1 : Int32))]))
  refine OEnds.pre (fun t_ k_ => OHere.len H0 hx hZ (q := 1) (vs := [(.ref y0), .null, .null, .null, .null, .null, .null, .null, .null, .null]) (z := (10 : Int32)) rfl rfl (hb hby d7_2) k_) ?_
  show OEnds p e below s _ _ _ (s₁.setTop (mkF m 3 #[vR u0, vR x, vR dc, vI (1 : Int32)] [(.int (10 : Int32)), (.int (1 : Int32))]))
  refine OEnds.pre (fun t_ k_ => XS.icmpYes H0.here hx rfl (pc0 := 3) (pc' := 11) rfl (hb hby d7_3) rfl (XT.ii_ne_t (by decide)) (by decide) (by decide) k_) ?_
  show OEnds p e below s _ _ _ (s₁.setTop (mkF m 11 #[vR u0, vR x, vR dc, vI (1 : Int32)] []))
  refine OEnds.pre (fun t_ k_ => XS.aloadN H0.here hx rfl (hb hby d7_11) rfl rfl k_) ?_
  show OEnds p e below s _ _ _ (s₁.setTop (mkF m 12 #[vR u0, vR x, vR dc, vI (1 : Int32)] [(.ref dc)]))
  refine OEnds.pre (fun t_ k_ => XS.iloadN H0.here hx rfl (hb hby d7_12) rfl k_) ?_
  show OEnds p e below s _ _ _ (s₁.setTop (mkF m 13 #[vR u0, vR x, vR dc, vI (1 : Int32)] [(.int (1 : Int32)), (.ref dc)]))
  refine OEnds.pre (fun t_ k_ => XS.aloadN H0.here hx rfl (hb hby d7_13) rfl rfl k_) ?_
  show OEnds p e below s _ _ _ (s₁.setTop (mkF m 14 #[vR u0, vR x, vR dc, vI (1 : Int32)] [(.ref x), (.int (1 : Int32)), (.ref dc)]))
  obtain ⟨T1, H1, st1⟩ := OHere.aastore H0 hx hZ (q := 1) (i := 1) (vs := [(.ref y0), .null, .null, .null, .null, .null, .null, .null, .null, .null]) (v := (.ref x)) (j := (1 : Int32)) (pc := 14) (Ls := #[vR u0, vR x, vR dc, vI (1 : Int32)]) (rest := []) (C := "java/lang/Object") rfl (by decide) (by decide) (by simp) (Or.inr ⟨_, _, _, _, (memAt hxF).choose_spec, rfl, (tWd hw 86 rfl)⟩) (hb hby d7_14)
  replace H1 : OHere p l e _ s m _ below meth c Z n0 0 T1 0 0 ([(eO u0 "java/util/ArrayList" [("java/util/AbstractList", "modCount", "I", (.int (2 : Int32))), ("java/util/ArrayList", "elementData", "[Ljava/lang/Object;", (.ref dc)), ("java/util/ArrayList", "size", "I", (.int (1 : Int32)))]), (eA dc (.object "java/lang/Object") [(.ref y0), (.ref x), .null, .null, .null, .null, .null, .null, .null, .null])] ++ F) := H1
  refine OEnds.pre (fun t_ k_ => st1 _ k_) ?_
  show OEnds p e below s _ _ _ (T1.setTop (mkF m 15 #[vR u0, vR x, vR dc, vI (1 : Int32)] []))
  refine OEnds.pre (fun t_ k_ => XS.aloadN H1.here hx rfl (hb hby d7_15) rfl rfl k_) ?_
  show OEnds p e below s _ _ _ (T1.setTop (mkF m 16 #[vR u0, vR x, vR dc, vI (1 : Int32)] [(.ref u0)]))
  refine OEnds.pre (fun t_ k_ => XS.iloadN H1.here hx rfl (hb hby d7_16) rfl k_) ?_
  show OEnds p e below s _ _ _ (T1.setTop (mkF m 17 #[vR u0, vR x, vR dc, vI (1 : Int32)] [(.int (1 : Int32)), (.ref u0)]))
  refine OEnds.pre (fun t_ k_ => XT.iconstV H1.here hx rfl (1 : Int32) (hb hby d7_17) rfl k_) ?_
  show OEnds p e below s _ _ _ (T1.setTop (mkF m 18 #[vR u0, vR x, vR dc, vI (1 : Int32)] [(.int (1 : Int32)), (.int (1 : Int32)), (.ref u0)]))
  refine OEnds.pre (fun t_ k_ => XS.iadd H1.here hx rfl (hb hby d7_18) rfl k_) ?_
  show OEnds p e below s _ _ _ (T1.setTop (mkF m 19 #[vR u0, vR x, vR dc, vI (1 : Int32)] [(.int (2 : Int32)), (.ref u0)]))
  obtain ⟨T2, H2, st2⟩ := OHere.putfield H1 hx hZ (O := "java/util/ArrayList") (q := 0) (f := 2) (v := (.int (2 : Int32))) (C := "java/util/ArrayList") (ty := .int) (pc := 19) (Ls := #[vR u0, vR x, vR dc, vI (1 : Int32)]) (rest := []) hown (tWd hw 63 rfl) Via.refl (fs := [("java/util/AbstractList", "modCount", "I", (.int (2 : Int32))), ("java/util/ArrayList", "elementData", "[Ljava/lang/Object;", (.ref dc)), ("java/util/ArrayList", "size", "I", (.int (1 : Int32)))]) rfl rfl (Or.inl (tWd hw 64 rfl)) (tWd hw 33 rfl) (by decide) rfl rfl (hb hby d7_19)
  replace H2 : OHere p l e _ s m _ below meth c Z n0 0 T2 0 0 ([(eO u0 "java/util/ArrayList" [("java/util/AbstractList", "modCount", "I", (.int (2 : Int32))), ("java/util/ArrayList", "elementData", "[Ljava/lang/Object;", (.ref dc)), ("java/util/ArrayList", "size", "I", (.int (2 : Int32)))]), (eA dc (.object "java/lang/Object") [(.ref y0), (.ref x), .null, .null, .null, .null, .null, .null, .null, .null])] ++ F) := H2
  refine OEnds.pre (fun t_ k_ => st2 _ k_) ?_
  show OEnds p e below s _ _ _ (T2.setTop (mkF m 22 #[vR u0, vR x, vR dc, vI (1 : Int32)] []))
  exact H2.ret hx Bd.notSynchronized Bd.returns (hb hby d7_22) (by decide) (by decide) (fun h L W N => ⟨N, _, ⟨rfl, rfl⟩, W⟩)
set_option maxRecDepth 65536 in
set_option maxHeartbeats 40000000 in
theorem conA6_1 (l : Launch) (Z : State) (a0 : Array Value) (hw : ∀ d ∈ tables_1, d.before a0 Z = true) (n0 : Nat) (ws : List Jvm.Cond) (u0 : Addr) (F : List OEnt) (x : Addr) (fx : List OFEnt) (hxF : eO x "com/example/deadletter/deadletter/job/Job" fx ∈ F) (dc : Addr) (y0 : Addr) (dd : Addr) (hSt : Sta Z Z.heap "java/util/ArrayList" "DEFAULTCAPACITY_EMPTY_ELEMENTDATA" "[Ljava/lang/Object;" (.ref dd)) (hDd : OOldArr Z dd "java/lang/Object" 0) :
    OCon l Z n0 (⟨"java/util/ArrayList", "add", "(Ljava/lang/Object;)Z"⟩ : MethodName) jdk_38_method_25_code 2 (some .boolean) ws ({ frames := 1, cells := 0, slots := 0, locals := 15 } : Room) #[(.ref u0), (.ref x)] ([(eO u0 "java/util/ArrayList" [("java/util/AbstractList", "modCount", "I", (.int (1 : Int32))), ("java/util/ArrayList", "elementData", "[Ljava/lang/Object;", (.ref dc)), ("java/util/ArrayList", "size", "I", (.int (1 : Int32)))]), (eA dc (.object "java/lang/Object") [(.ref y0), .null, .null, .null, .null, .null, .null, .null, .null, .null])] ++ F) (fun v' es' => v' = some (.int (1 : Int32)) ∧ es' = ([(eO u0 "java/util/ArrayList" [("java/util/AbstractList", "modCount", "I", (.int (2 : Int32))), ("java/util/ArrayList", "elementData", "[Ljava/lang/Object;", (.ref dc)), ("java/util/ArrayList", "size", "I", (.int (2 : Int32)))]), (eA dc (.object "java/lang/Object") [(.ref y0), (.ref x), .null, .null, .null, .null, .null, .null, .null, .null])] ++ F)) := by
  intro h0 hW0
  refine MetFree.of_bodySF pn_6 hisR ?_
  intro p e s m args below meth c s₁ Bd hml0 hP hK
  obtain ⟨rfl, hZ, hh⟩ := hP
  have hx := Bd.exec
  have hby := Bd.bytes
  have hml : c.maxLocals = 2 := hml0
  have hown : s.vm.findClass "java/util/ArrayList" = some m.cls := findClass_of_methodNamed Bd.named
  have hnm := (name_of_methodNamed Bd.named Bd.method).1
  have H0 : OHere p l e ({ frames := 1, cells := 0, slots := 0, locals := 15 } : Room) s m #[(.ref u0), (.ref x)] below meth c Z n0 0 s₁ 0 0 ([(eO u0 "java/util/ArrayList" [("java/util/AbstractList", "modCount", "I", (.int (1 : Int32))), ("java/util/ArrayList", "elementData", "[Ljava/lang/Object;", (.ref dc)), ("java/util/ArrayList", "size", "I", (.int (1 : Int32)))]), (eA dc (.object "java/lang/Object") [(.ref y0), .null, .null, .null, .null, .null, .null, .null, .null, .null])] ++ F) := ⟨[], Stand.of_body Bd, by rw [show s₁.heap = h0 from by rw [← hh, Bd.state]; rfl]; exact hW0, Fr.nil _, Nat.zero_le _⟩
  show OEnds p e below s _ _ (fun v' h' L => Fr n0 L ∧ ∃ es', (fun v' es' => v' = some (.int (1 : Int32)) ∧ es' = ([(eO u0 "java/util/ArrayList" [("java/util/AbstractList", "modCount", "I", (.int (2 : Int32))), ("java/util/ArrayList", "elementData", "[Ljava/lang/Object;", (.ref dc)), ("java/util/ArrayList", "size", "I", (.int (2 : Int32)))]), (eA dc (.object "java/lang/Object") [(.ref y0), (.ref x), .null, .null, .null, .null, .null, .null, .null, .null])] ++ F)) v' es' ∧ OWorld Z n0 h' es') _
  refine OEnds.pre (fun t k => castTop (ef_6 m u0 x) k) ?_
  show OEnds p e below s _ _ _ (s₁.setTop (mkF m 0 #[vR u0, vR x] []))
  refine OEnds.pre (fun t_ k_ => XS.aloadN H0.here hx rfl (hb hby d6_0) rfl rfl k_) ?_
  show OEnds p e below s _ _ _ (s₁.setTop (mkF m 1 #[vR u0, vR x] [(.ref u0)]))
  refine OEnds.pre (fun t_ k_ => XS.dup H0.here hx rfl (hb hby d6_1) rfl rfl k_) ?_
  show OEnds p e below s _ _ _ (s₁.setTop (mkF m 2 #[vR u0, vR x] [(.ref u0), (.ref u0)]))
  obtain ⟨T1, H1, st1⟩ := OHere.getfield H0 hx hZ (O := "java/util/AbstractList") (q := 0) (f := 0) (v := (.int (1 : Int32))) (fs := [("java/util/AbstractList", "modCount", "I", (.int (1 : Int32))), ("java/util/ArrayList", "elementData", "[Ljava/lang/Object;", (.ref dc)), ("java/util/ArrayList", "size", "I", (.int (1 : Int32)))]) (C := "java/util/ArrayList") (pc := 2) (Ls := #[vR u0, vR x]) (rest := [(.ref u0)]) hown (tWd hw 61 rfl) (Via.of (tWd hw 62 rfl)) rfl rfl (hb hby d6_2)
  replace H1 : OHere p l e _ s m _ below meth c Z n0 0 T1 0 0 ([(eO u0 "java/util/ArrayList" [("java/util/AbstractList", "modCount", "I", (.int (1 : Int32))), ("java/util/ArrayList", "elementData", "[Ljava/lang/Object;", (.ref dc)), ("java/util/ArrayList", "size", "I", (.int (1 : Int32)))]), (eA dc (.object "java/lang/Object") [(.ref y0), .null, .null, .null, .null, .null, .null, .null, .null, .null])] ++ F) := H1
  refine OEnds.pre (fun t_ k_ => st1 _ k_) ?_
  show OEnds p e below s _ _ _ (T1.setTop (mkF m 5 #[vR u0, vR x] [(.int (1 : Int32)), (.ref u0)]))
  refine OEnds.pre (fun t_ k_ => XT.iconstV H1.here hx rfl (1 : Int32) (hb hby d6_5) rfl k_) ?_
  show OEnds p e below s _ _ _ (T1.setTop (mkF m 6 #[vR u0, vR x] [(.int (1 : Int32)), (.int (1 : Int32)), (.ref u0)]))
  refine OEnds.pre (fun t_ k_ => XS.iadd H1.here hx rfl (hb hby d6_6) rfl k_) ?_
  show OEnds p e below s _ _ _ (T1.setTop (mkF m 7 #[vR u0, vR x] [(.int (2 : Int32)), (.ref u0)]))
  obtain ⟨T2, H2, st2⟩ := OHere.putfield H1 hx hZ (O := "java/util/AbstractList") (q := 0) (f := 0) (v := (.int (2 : Int32))) (C := "java/util/ArrayList") (ty := .int) (pc := 7) (Ls := #[vR u0, vR x]) (rest := []) hown (tWd hw 61 rfl) (Via.of (tWd hw 62 rfl)) (fs := [("java/util/AbstractList", "modCount", "I", (.int (1 : Int32))), ("java/util/ArrayList", "elementData", "[Ljava/lang/Object;", (.ref dc)), ("java/util/ArrayList", "size", "I", (.int (1 : Int32)))]) rfl rfl (Or.inl (tWd hw 52 rfl)) (tWd hw 33 rfl) (by decide) rfl rfl (hb hby d6_7)
  replace H2 : OHere p l e _ s m _ below meth c Z n0 0 T2 0 0 ([(eO u0 "java/util/ArrayList" [("java/util/AbstractList", "modCount", "I", (.int (2 : Int32))), ("java/util/ArrayList", "elementData", "[Ljava/lang/Object;", (.ref dc)), ("java/util/ArrayList", "size", "I", (.int (1 : Int32)))]), (eA dc (.object "java/lang/Object") [(.ref y0), .null, .null, .null, .null, .null, .null, .null, .null, .null])] ++ F) := H2
  refine OEnds.pre (fun t_ k_ => st2 _ k_) ?_
  show OEnds p e below s _ _ _ (T2.setTop (mkF m 10 #[vR u0, vR x] []))
  refine OEnds.pre (fun t_ k_ => XS.aloadN H2.here hx rfl (hb hby d6_10) rfl rfl k_) ?_
  show OEnds p e below s _ _ _ (T2.setTop (mkF m 11 #[vR u0, vR x] [(.ref u0)]))
  refine OEnds.pre (fun t_ k_ => XS.aloadN H2.here hx rfl (hb hby d6_11) rfl rfl k_) ?_
  show OEnds p e below s _ _ _ (T2.setTop (mkF m 12 #[vR u0, vR x] [(.ref x), (.ref u0)]))
  refine OEnds.pre (fun t_ k_ => XS.aloadN H2.here hx rfl (hb hby d6_12) rfl rfl k_) ?_
  show OEnds p e below s _ _ _ (T2.setTop (mkF m 13 #[vR u0, vR x] [(.ref u0), (.ref x), (.ref u0)]))
  obtain ⟨T3, H3, st3⟩ := OHere.getfield H2 hx hZ (O := "java/util/ArrayList") (q := 0) (f := 1) (v := (.ref dc)) (fs := [("java/util/AbstractList", "modCount", "I", (.int (2 : Int32))), ("java/util/ArrayList", "elementData", "[Ljava/lang/Object;", (.ref dc)), ("java/util/ArrayList", "size", "I", (.int (1 : Int32)))]) (C := "java/util/ArrayList") (pc := 13) (Ls := #[vR u0, vR x]) (rest := [(.ref x), (.ref u0)]) hown (tWd hw 54 rfl) Via.refl rfl rfl (hb hby d6_13)
  replace H3 : OHere p l e _ s m _ below meth c Z n0 0 T3 0 0 ([(eO u0 "java/util/ArrayList" [("java/util/AbstractList", "modCount", "I", (.int (2 : Int32))), ("java/util/ArrayList", "elementData", "[Ljava/lang/Object;", (.ref dc)), ("java/util/ArrayList", "size", "I", (.int (1 : Int32)))]), (eA dc (.object "java/lang/Object") [(.ref y0), .null, .null, .null, .null, .null, .null, .null, .null, .null])] ++ F) := H3
  refine OEnds.pre (fun t_ k_ => st3 _ k_) ?_
  show OEnds p e below s _ _ _ (T3.setTop (mkF m 16 #[vR u0, vR x] [(.ref dc), (.ref x), (.ref u0)]))
  refine OEnds.pre (fun t_ k_ => XS.aloadN H3.here hx rfl (hb hby d6_16) rfl rfl k_) ?_
  show OEnds p e below s _ _ _ (T3.setTop (mkF m 17 #[vR u0, vR x] [(.ref u0), (.ref dc), (.ref x), (.ref u0)]))
  obtain ⟨T4, H4, st4⟩ := OHere.getfield H3 hx hZ (O := "java/util/ArrayList") (q := 0) (f := 2) (v := (.int (1 : Int32))) (fs := [("java/util/AbstractList", "modCount", "I", (.int (2 : Int32))), ("java/util/ArrayList", "elementData", "[Ljava/lang/Object;", (.ref dc)), ("java/util/ArrayList", "size", "I", (.int (1 : Int32)))]) (C := "java/util/ArrayList") (pc := 17) (Ls := #[vR u0, vR x]) (rest := [(.ref dc), (.ref x), (.ref u0)]) hown (tWd hw 63 rfl) Via.refl rfl rfl (hb hby d6_17)
  replace H4 : OHere p l e _ s m _ below meth c Z n0 0 T4 0 0 ([(eO u0 "java/util/ArrayList" [("java/util/AbstractList", "modCount", "I", (.int (2 : Int32))), ("java/util/ArrayList", "elementData", "[Ljava/lang/Object;", (.ref dc)), ("java/util/ArrayList", "size", "I", (.int (1 : Int32)))]), (eA dc (.object "java/lang/Object") [(.ref y0), .null, .null, .null, .null, .null, .null, .null, .null, .null])] ++ F) := H4
  refine OEnds.pre (fun t_ k_ => st4 _ k_) ?_
  show OEnds p e below s _ _ _ (T4.setTop (mkF m 20 #[vR u0, vR x] [(.int (1 : Int32)), (.ref dc), (.ref x), (.ref u0)]))
  obtain ⟨T6, _, _, ⟨rfl, rfl⟩, H6, st6⟩ := OHere.priv H4 hx hZ (y := (⟨"java/util/ArrayList", "add", "(Ljava/lang/Object;[Ljava/lang/Object;I)V"⟩ : MethodName)) (W := 0) (a := u0) (q := 0) (fs := [("java/util/AbstractList", "modCount", "I", (.int (2 : Int32))), ("java/util/ArrayList", "elementData", "[Ljava/lang/Object;", (.ref dc)), ("java/util/ArrayList", "size", "I", (.int (1 : Int32)))]) (C := "java/util/ArrayList") hown (tWd hw 65 rfl) (tWd hw 66 rfl) (nf_sel (tWd hw 59 rfl) rfl) (tWd hw 67 rfl) (tWd hw 34 rfl) (tWd hw 69 rfl) (by decide) rfl (conA7_1 l Z a0 hw n0 [] u0 ([] ++ F) x fx (List.mem_append_right _ hxF) dc y0 dd hSt hDd) (by decide) (by decide) (pc := 20) (Ls := #[vR u0, vR x]) (argsL := [(.ref x), (.ref dc), (.int (1 : Int32))]) (rest := []) (by rw [hml]; rfl) (lenOf pd_oLjava_lang_Object_ALjava_lang_Object_IcV rfl) rfl (Nat.le_of_eq rfl) (hb hby d6_20) (by decide) (by decide)
  replace H6 : OHere p l e _ s m _ below meth c Z n0 0 T6 0 0 ([(eO u0 "java/util/ArrayList" [("java/util/AbstractList", "modCount", "I", (.int (2 : Int32))), ("java/util/ArrayList", "elementData", "[Ljava/lang/Object;", (.ref dc)), ("java/util/ArrayList", "size", "I", (.int (2 : Int32)))]), (eA dc (.object "java/lang/Object") [(.ref y0), (.ref x), .null, .null, .null, .null, .null, .null, .null, .null])] ++ F) := H6
  refine OEnds.pre (fun t_ k_ => st6 _ k_) ?_
  show OEnds p e below s _ _ _ (T6.setTop (mkF m 23 #[vR u0, vR x] []))
  refine OEnds.pre (fun t_ k_ => XT.iconstV H6.here hx rfl (1 : Int32) (hb hby d6_23) rfl k_) ?_
  show OEnds p e below s _ _ _ (T6.setTop (mkF m 24 #[vR u0, vR x] [(.int (1 : Int32))]))
  exact H6.nrw hx Bd.notSynchronized Bd.returns (by simp) (hb hby d6_24) (by decide) (by decide) (fun h L W N => ⟨N, _, ⟨rfl, rfl⟩, W⟩)
set_option maxRecDepth 65536 in
set_option maxHeartbeats 40000000 in
theorem conA7_2 (l : Launch) (Z : State) (a0 : Array Value) (hw : ∀ d ∈ tables_1, d.before a0 Z = true) (n0 : Nat) (ws : List Jvm.Cond) (u0 : Addr) (F : List OEnt) (x : Addr) (fx : List OFEnt) (hxF : eO x "com/example/deadletter/deadletter/job/Job" fx ∈ F) (dc : Addr) (y0 : Addr) (y1 : Addr) (dd : Addr) (hSt : Sta Z Z.heap "java/util/ArrayList" "DEFAULTCAPACITY_EMPTY_ELEMENTDATA" "[Ljava/lang/Object;" (.ref dd)) (hDd : OOldArr Z dd "java/lang/Object" 0) :
    OCon l Z n0 (⟨"java/util/ArrayList", "add", "(Ljava/lang/Object;[Ljava/lang/Object;I)V"⟩ : MethodName) jdk_38_method_24_code 4 none ws ({ frames := 0, cells := 0, slots := 0, locals := 0 } : Room) #[(.ref u0), (.ref x), (.ref dc), (.int (2 : Int32))] ([(eO u0 "java/util/ArrayList" [("java/util/AbstractList", "modCount", "I", (.int (3 : Int32))), ("java/util/ArrayList", "elementData", "[Ljava/lang/Object;", (.ref dc)), ("java/util/ArrayList", "size", "I", (.int (2 : Int32)))]), (eA dc (.object "java/lang/Object") [(.ref y0), (.ref y1), .null, .null, .null, .null, .null, .null, .null, .null])] ++ F) (fun v' es' => v' = none ∧ es' = ([(eO u0 "java/util/ArrayList" [("java/util/AbstractList", "modCount", "I", (.int (3 : Int32))), ("java/util/ArrayList", "elementData", "[Ljava/lang/Object;", (.ref dc)), ("java/util/ArrayList", "size", "I", (.int (3 : Int32)))]), (eA dc (.object "java/lang/Object") [(.ref y0), (.ref y1), (.ref x), .null, .null, .null, .null, .null, .null, .null])] ++ F)) := by
  intro h0 hW0
  refine MetFree.of_bodySF pn_7 hisR ?_
  intro p e s m args below meth c s₁ Bd hml0 hP hK
  obtain ⟨rfl, hZ, hh⟩ := hP
  have hx := Bd.exec
  have hby := Bd.bytes
  have hml : c.maxLocals = 4 := hml0
  have hown : s.vm.findClass "java/util/ArrayList" = some m.cls := findClass_of_methodNamed Bd.named
  have hnm := (name_of_methodNamed Bd.named Bd.method).1
  have H0 : OHere p l e ({ frames := 0, cells := 0, slots := 0, locals := 0 } : Room) s m #[(.ref u0), (.ref x), (.ref dc), (.int (2 : Int32))] below meth c Z n0 0 s₁ 0 0 ([(eO u0 "java/util/ArrayList" [("java/util/AbstractList", "modCount", "I", (.int (3 : Int32))), ("java/util/ArrayList", "elementData", "[Ljava/lang/Object;", (.ref dc)), ("java/util/ArrayList", "size", "I", (.int (2 : Int32)))]), (eA dc (.object "java/lang/Object") [(.ref y0), (.ref y1), .null, .null, .null, .null, .null, .null, .null, .null])] ++ F) := ⟨[], Stand.of_body Bd, by rw [show s₁.heap = h0 from by rw [← hh, Bd.state]; rfl]; exact hW0, Fr.nil _, Nat.zero_le _⟩
  show OEnds p e below s _ _ (fun v' h' L => Fr n0 L ∧ ∃ es', (fun v' es' => v' = none ∧ es' = ([(eO u0 "java/util/ArrayList" [("java/util/AbstractList", "modCount", "I", (.int (3 : Int32))), ("java/util/ArrayList", "elementData", "[Ljava/lang/Object;", (.ref dc)), ("java/util/ArrayList", "size", "I", (.int (3 : Int32)))]), (eA dc (.object "java/lang/Object") [(.ref y0), (.ref y1), (.ref x), .null, .null, .null, .null, .null, .null, .null])] ++ F)) v' es' ∧ OWorld Z n0 h' es') _
  refine OEnds.pre (fun t k => castTop (ef_7 m u0 x dc (2 : Int32)) k) ?_
  show OEnds p e below s _ _ _ (s₁.setTop (mkF m 0 #[vR u0, vR x, vR dc, vI (2 : Int32)] []))
  refine OEnds.pre (fun t_ k_ => XS.iloadN H0.here hx rfl (hb hby d7_0) rfl k_) ?_
  show OEnds p e below s _ _ _ (s₁.setTop (mkF m 1 #[vR u0, vR x, vR dc, vI (2 : Int32)] [(.int (2 : Int32))]))
  refine OEnds.pre (fun t_ k_ => XS.aloadN H0.here hx rfl (hb hby d7_1) rfl rfl k_) ?_
  show OEnds p e below s _ _ _ (s₁.setTop (mkF m 2 #[vR u0, vR x, vR dc, vI (2 : Int32)] [(.ref dc), (.int (2 : Int32))]))
  refine OEnds.pre (fun t_ k_ => OHere.len H0 hx hZ (q := 1) (vs := [(.ref y0), (.ref y1), .null, .null, .null, .null, .null, .null, .null, .null]) (z := (10 : Int32)) rfl rfl (hb hby d7_2) k_) ?_
  show OEnds p e below s _ _ _ (s₁.setTop (mkF m 3 #[vR u0, vR x, vR dc, vI (2 : Int32)] [(.int (10 : Int32)), (.int (2 : Int32))]))
  refine OEnds.pre (fun t_ k_ => XS.icmpYes H0.here hx rfl (pc0 := 3) (pc' := 11) rfl (hb hby d7_3) rfl (XT.ii_ne_t (by decide)) (by decide) (by decide) k_) ?_
  show OEnds p e below s _ _ _ (s₁.setTop (mkF m 11 #[vR u0, vR x, vR dc, vI (2 : Int32)] []))
  refine OEnds.pre (fun t_ k_ => XS.aloadN H0.here hx rfl (hb hby d7_11) rfl rfl k_) ?_
  show OEnds p e below s _ _ _ (s₁.setTop (mkF m 12 #[vR u0, vR x, vR dc, vI (2 : Int32)] [(.ref dc)]))
  refine OEnds.pre (fun t_ k_ => XS.iloadN H0.here hx rfl (hb hby d7_12) rfl k_) ?_
  show OEnds p e below s _ _ _ (s₁.setTop (mkF m 13 #[vR u0, vR x, vR dc, vI (2 : Int32)] [(.int (2 : Int32)), (.ref dc)]))
  refine OEnds.pre (fun t_ k_ => XS.aloadN H0.here hx rfl (hb hby d7_13) rfl rfl k_) ?_
  show OEnds p e below s _ _ _ (s₁.setTop (mkF m 14 #[vR u0, vR x, vR dc, vI (2 : Int32)] [(.ref x), (.int (2 : Int32)), (.ref dc)]))
  obtain ⟨T1, H1, st1⟩ := OHere.aastore H0 hx hZ (q := 1) (i := 2) (vs := [(.ref y0), (.ref y1), .null, .null, .null, .null, .null, .null, .null, .null]) (v := (.ref x)) (j := (2 : Int32)) (pc := 14) (Ls := #[vR u0, vR x, vR dc, vI (2 : Int32)]) (rest := []) (C := "java/lang/Object") rfl (by decide) (by decide) (by simp) (Or.inr ⟨_, _, _, _, (memAt hxF).choose_spec, rfl, (tWd hw 86 rfl)⟩) (hb hby d7_14)
  replace H1 : OHere p l e _ s m _ below meth c Z n0 0 T1 0 0 ([(eO u0 "java/util/ArrayList" [("java/util/AbstractList", "modCount", "I", (.int (3 : Int32))), ("java/util/ArrayList", "elementData", "[Ljava/lang/Object;", (.ref dc)), ("java/util/ArrayList", "size", "I", (.int (2 : Int32)))]), (eA dc (.object "java/lang/Object") [(.ref y0), (.ref y1), (.ref x), .null, .null, .null, .null, .null, .null, .null])] ++ F) := H1
  refine OEnds.pre (fun t_ k_ => st1 _ k_) ?_
  show OEnds p e below s _ _ _ (T1.setTop (mkF m 15 #[vR u0, vR x, vR dc, vI (2 : Int32)] []))
  refine OEnds.pre (fun t_ k_ => XS.aloadN H1.here hx rfl (hb hby d7_15) rfl rfl k_) ?_
  show OEnds p e below s _ _ _ (T1.setTop (mkF m 16 #[vR u0, vR x, vR dc, vI (2 : Int32)] [(.ref u0)]))
  refine OEnds.pre (fun t_ k_ => XS.iloadN H1.here hx rfl (hb hby d7_16) rfl k_) ?_
  show OEnds p e below s _ _ _ (T1.setTop (mkF m 17 #[vR u0, vR x, vR dc, vI (2 : Int32)] [(.int (2 : Int32)), (.ref u0)]))
  refine OEnds.pre (fun t_ k_ => XT.iconstV H1.here hx rfl (1 : Int32) (hb hby d7_17) rfl k_) ?_
  show OEnds p e below s _ _ _ (T1.setTop (mkF m 18 #[vR u0, vR x, vR dc, vI (2 : Int32)] [(.int (1 : Int32)), (.int (2 : Int32)), (.ref u0)]))
  refine OEnds.pre (fun t_ k_ => XS.iadd H1.here hx rfl (hb hby d7_18) rfl k_) ?_
  show OEnds p e below s _ _ _ (T1.setTop (mkF m 19 #[vR u0, vR x, vR dc, vI (2 : Int32)] [(.int (3 : Int32)), (.ref u0)]))
  obtain ⟨T2, H2, st2⟩ := OHere.putfield H1 hx hZ (O := "java/util/ArrayList") (q := 0) (f := 2) (v := (.int (3 : Int32))) (C := "java/util/ArrayList") (ty := .int) (pc := 19) (Ls := #[vR u0, vR x, vR dc, vI (2 : Int32)]) (rest := []) hown (tWd hw 63 rfl) Via.refl (fs := [("java/util/AbstractList", "modCount", "I", (.int (3 : Int32))), ("java/util/ArrayList", "elementData", "[Ljava/lang/Object;", (.ref dc)), ("java/util/ArrayList", "size", "I", (.int (2 : Int32)))]) rfl rfl (Or.inl (tWd hw 64 rfl)) (tWd hw 33 rfl) (by decide) rfl rfl (hb hby d7_19)
  replace H2 : OHere p l e _ s m _ below meth c Z n0 0 T2 0 0 ([(eO u0 "java/util/ArrayList" [("java/util/AbstractList", "modCount", "I", (.int (3 : Int32))), ("java/util/ArrayList", "elementData", "[Ljava/lang/Object;", (.ref dc)), ("java/util/ArrayList", "size", "I", (.int (3 : Int32)))]), (eA dc (.object "java/lang/Object") [(.ref y0), (.ref y1), (.ref x), .null, .null, .null, .null, .null, .null, .null])] ++ F) := H2
  refine OEnds.pre (fun t_ k_ => st2 _ k_) ?_
  show OEnds p e below s _ _ _ (T2.setTop (mkF m 22 #[vR u0, vR x, vR dc, vI (2 : Int32)] []))
  exact H2.ret hx Bd.notSynchronized Bd.returns (hb hby d7_22) (by decide) (by decide) (fun h L W N => ⟨N, _, ⟨rfl, rfl⟩, W⟩)
set_option maxRecDepth 65536 in
set_option maxHeartbeats 40000000 in
theorem conA6_2 (l : Launch) (Z : State) (a0 : Array Value) (hw : ∀ d ∈ tables_1, d.before a0 Z = true) (n0 : Nat) (ws : List Jvm.Cond) (u0 : Addr) (F : List OEnt) (x : Addr) (fx : List OFEnt) (hxF : eO x "com/example/deadletter/deadletter/job/Job" fx ∈ F) (dc : Addr) (y0 : Addr) (y1 : Addr) (dd : Addr) (hSt : Sta Z Z.heap "java/util/ArrayList" "DEFAULTCAPACITY_EMPTY_ELEMENTDATA" "[Ljava/lang/Object;" (.ref dd)) (hDd : OOldArr Z dd "java/lang/Object" 0) :
    OCon l Z n0 (⟨"java/util/ArrayList", "add", "(Ljava/lang/Object;)Z"⟩ : MethodName) jdk_38_method_25_code 2 (some .boolean) ws ({ frames := 1, cells := 0, slots := 0, locals := 15 } : Room) #[(.ref u0), (.ref x)] ([(eO u0 "java/util/ArrayList" [("java/util/AbstractList", "modCount", "I", (.int (2 : Int32))), ("java/util/ArrayList", "elementData", "[Ljava/lang/Object;", (.ref dc)), ("java/util/ArrayList", "size", "I", (.int (2 : Int32)))]), (eA dc (.object "java/lang/Object") [(.ref y0), (.ref y1), .null, .null, .null, .null, .null, .null, .null, .null])] ++ F) (fun v' es' => v' = some (.int (1 : Int32)) ∧ es' = ([(eO u0 "java/util/ArrayList" [("java/util/AbstractList", "modCount", "I", (.int (3 : Int32))), ("java/util/ArrayList", "elementData", "[Ljava/lang/Object;", (.ref dc)), ("java/util/ArrayList", "size", "I", (.int (3 : Int32)))]), (eA dc (.object "java/lang/Object") [(.ref y0), (.ref y1), (.ref x), .null, .null, .null, .null, .null, .null, .null])] ++ F)) := by
  intro h0 hW0
  refine MetFree.of_bodySF pn_6 hisR ?_
  intro p e s m args below meth c s₁ Bd hml0 hP hK
  obtain ⟨rfl, hZ, hh⟩ := hP
  have hx := Bd.exec
  have hby := Bd.bytes
  have hml : c.maxLocals = 2 := hml0
  have hown : s.vm.findClass "java/util/ArrayList" = some m.cls := findClass_of_methodNamed Bd.named
  have hnm := (name_of_methodNamed Bd.named Bd.method).1
  have H0 : OHere p l e ({ frames := 1, cells := 0, slots := 0, locals := 15 } : Room) s m #[(.ref u0), (.ref x)] below meth c Z n0 0 s₁ 0 0 ([(eO u0 "java/util/ArrayList" [("java/util/AbstractList", "modCount", "I", (.int (2 : Int32))), ("java/util/ArrayList", "elementData", "[Ljava/lang/Object;", (.ref dc)), ("java/util/ArrayList", "size", "I", (.int (2 : Int32)))]), (eA dc (.object "java/lang/Object") [(.ref y0), (.ref y1), .null, .null, .null, .null, .null, .null, .null, .null])] ++ F) := ⟨[], Stand.of_body Bd, by rw [show s₁.heap = h0 from by rw [← hh, Bd.state]; rfl]; exact hW0, Fr.nil _, Nat.zero_le _⟩
  show OEnds p e below s _ _ (fun v' h' L => Fr n0 L ∧ ∃ es', (fun v' es' => v' = some (.int (1 : Int32)) ∧ es' = ([(eO u0 "java/util/ArrayList" [("java/util/AbstractList", "modCount", "I", (.int (3 : Int32))), ("java/util/ArrayList", "elementData", "[Ljava/lang/Object;", (.ref dc)), ("java/util/ArrayList", "size", "I", (.int (3 : Int32)))]), (eA dc (.object "java/lang/Object") [(.ref y0), (.ref y1), (.ref x), .null, .null, .null, .null, .null, .null, .null])] ++ F)) v' es' ∧ OWorld Z n0 h' es') _
  refine OEnds.pre (fun t k => castTop (ef_6 m u0 x) k) ?_
  show OEnds p e below s _ _ _ (s₁.setTop (mkF m 0 #[vR u0, vR x] []))
  refine OEnds.pre (fun t_ k_ => XS.aloadN H0.here hx rfl (hb hby d6_0) rfl rfl k_) ?_
  show OEnds p e below s _ _ _ (s₁.setTop (mkF m 1 #[vR u0, vR x] [(.ref u0)]))
  refine OEnds.pre (fun t_ k_ => XS.dup H0.here hx rfl (hb hby d6_1) rfl rfl k_) ?_
  show OEnds p e below s _ _ _ (s₁.setTop (mkF m 2 #[vR u0, vR x] [(.ref u0), (.ref u0)]))
  obtain ⟨T1, H1, st1⟩ := OHere.getfield H0 hx hZ (O := "java/util/AbstractList") (q := 0) (f := 0) (v := (.int (2 : Int32))) (fs := [("java/util/AbstractList", "modCount", "I", (.int (2 : Int32))), ("java/util/ArrayList", "elementData", "[Ljava/lang/Object;", (.ref dc)), ("java/util/ArrayList", "size", "I", (.int (2 : Int32)))]) (C := "java/util/ArrayList") (pc := 2) (Ls := #[vR u0, vR x]) (rest := [(.ref u0)]) hown (tWd hw 61 rfl) (Via.of (tWd hw 62 rfl)) rfl rfl (hb hby d6_2)
  replace H1 : OHere p l e _ s m _ below meth c Z n0 0 T1 0 0 ([(eO u0 "java/util/ArrayList" [("java/util/AbstractList", "modCount", "I", (.int (2 : Int32))), ("java/util/ArrayList", "elementData", "[Ljava/lang/Object;", (.ref dc)), ("java/util/ArrayList", "size", "I", (.int (2 : Int32)))]), (eA dc (.object "java/lang/Object") [(.ref y0), (.ref y1), .null, .null, .null, .null, .null, .null, .null, .null])] ++ F) := H1
  refine OEnds.pre (fun t_ k_ => st1 _ k_) ?_
  show OEnds p e below s _ _ _ (T1.setTop (mkF m 5 #[vR u0, vR x] [(.int (2 : Int32)), (.ref u0)]))
  refine OEnds.pre (fun t_ k_ => XT.iconstV H1.here hx rfl (1 : Int32) (hb hby d6_5) rfl k_) ?_
  show OEnds p e below s _ _ _ (T1.setTop (mkF m 6 #[vR u0, vR x] [(.int (1 : Int32)), (.int (2 : Int32)), (.ref u0)]))
  refine OEnds.pre (fun t_ k_ => XS.iadd H1.here hx rfl (hb hby d6_6) rfl k_) ?_
  show OEnds p e below s _ _ _ (T1.setTop (mkF m 7 #[vR u0, vR x] [(.int (3 : Int32)), (.ref u0)]))
  obtain ⟨T2, H2, st2⟩ := OHere.putfield H1 hx hZ (O := "java/util/AbstractList") (q := 0) (f := 0) (v := (.int (3 : Int32))) (C := "java/util/ArrayList") (ty := .int) (pc := 7) (Ls := #[vR u0, vR x]) (rest := []) hown (tWd hw 61 rfl) (Via.of (tWd hw 62 rfl)) (fs := [("java/util/AbstractList", "modCount", "I", (.int (2 : Int32))), ("java/util/ArrayList", "elementData", "[Ljava/lang/Object;", (.ref dc)), ("java/util/ArrayList", "size", "I", (.int (2 : Int32)))]) rfl rfl (Or.inl (tWd hw 52 rfl)) (tWd hw 33 rfl) (by decide) rfl rfl (hb hby d6_7)
  replace H2 : OHere p l e _ s m _ below meth c Z n0 0 T2 0 0 ([(eO u0 "java/util/ArrayList" [("java/util/AbstractList", "modCount", "I", (.int (3 : Int32))), ("java/util/ArrayList", "elementData", "[Ljava/lang/Object;", (.ref dc)), ("java/util/ArrayList", "size", "I", (.int (2 : Int32)))]), (eA dc (.object "java/lang/Object") [(.ref y0), (.ref y1), .null, .null, .null, .null, .null, .null, .null, .null])] ++ F) := H2
  refine OEnds.pre (fun t_ k_ => st2 _ k_) ?_
  show OEnds p e below s _ _ _ (T2.setTop (mkF m 10 #[vR u0, vR x] []))
  refine OEnds.pre (fun t_ k_ => XS.aloadN H2.here hx rfl (hb hby d6_10) rfl rfl k_) ?_
  show OEnds p e below s _ _ _ (T2.setTop (mkF m 11 #[vR u0, vR x] [(.ref u0)]))
  refine OEnds.pre (fun t_ k_ => XS.aloadN H2.here hx rfl (hb hby d6_11) rfl rfl k_) ?_
  show OEnds p e below s _ _ _ (T2.setTop (mkF m 12 #[vR u0, vR x] [(.ref x), (.ref u0)]))
  refine OEnds.pre (fun t_ k_ => XS.aloadN H2.here hx rfl (hb hby d6_12) rfl rfl k_) ?_
  show OEnds p e below s _ _ _ (T2.setTop (mkF m 13 #[vR u0, vR x] [(.ref u0), (.ref x), (.ref u0)]))
  obtain ⟨T3, H3, st3⟩ := OHere.getfield H2 hx hZ (O := "java/util/ArrayList") (q := 0) (f := 1) (v := (.ref dc)) (fs := [("java/util/AbstractList", "modCount", "I", (.int (3 : Int32))), ("java/util/ArrayList", "elementData", "[Ljava/lang/Object;", (.ref dc)), ("java/util/ArrayList", "size", "I", (.int (2 : Int32)))]) (C := "java/util/ArrayList") (pc := 13) (Ls := #[vR u0, vR x]) (rest := [(.ref x), (.ref u0)]) hown (tWd hw 54 rfl) Via.refl rfl rfl (hb hby d6_13)
  replace H3 : OHere p l e _ s m _ below meth c Z n0 0 T3 0 0 ([(eO u0 "java/util/ArrayList" [("java/util/AbstractList", "modCount", "I", (.int (3 : Int32))), ("java/util/ArrayList", "elementData", "[Ljava/lang/Object;", (.ref dc)), ("java/util/ArrayList", "size", "I", (.int (2 : Int32)))]), (eA dc (.object "java/lang/Object") [(.ref y0), (.ref y1), .null, .null, .null, .null, .null, .null, .null, .null])] ++ F) := H3
  refine OEnds.pre (fun t_ k_ => st3 _ k_) ?_
  show OEnds p e below s _ _ _ (T3.setTop (mkF m 16 #[vR u0, vR x] [(.ref dc), (.ref x), (.ref u0)]))
  refine OEnds.pre (fun t_ k_ => XS.aloadN H3.here hx rfl (hb hby d6_16) rfl rfl k_) ?_
  show OEnds p e below s _ _ _ (T3.setTop (mkF m 17 #[vR u0, vR x] [(.ref u0), (.ref dc), (.ref x), (.ref u0)]))
  obtain ⟨T4, H4, st4⟩ := OHere.getfield H3 hx hZ (O := "java/util/ArrayList") (q := 0) (f := 2) (v := (.int (2 : Int32))) (fs := [("java/util/AbstractList", "modCount", "I", (.int (3 : Int32))), ("java/util/ArrayList", "elementData", "[Ljava/lang/Object;", (.ref dc)), ("java/util/ArrayList", "size", "I", (.int (2 : Int32)))]) (C := "java/util/ArrayList") (pc := 17) (Ls := #[vR u0, vR x]) (rest := [(.ref dc), (.ref x), (.ref u0)]) hown (tWd hw 63 rfl) Via.refl rfl rfl (hb hby d6_17)
  replace H4 : OHere p l e _ s m _ below meth c Z n0 0 T4 0 0 ([(eO u0 "java/util/ArrayList" [("java/util/AbstractList", "modCount", "I", (.int (3 : Int32))), ("java/util/ArrayList", "elementData", "[Ljava/lang/Object;", (.ref dc)), ("java/util/ArrayList", "size", "I", (.int (2 : Int32)))]), (eA dc (.object "java/lang/Object") [(.ref y0), (.ref y1), .null, .null, .null, .null, .null, .null, .null, .null])] ++ F) := H4
  refine OEnds.pre (fun t_ k_ => st4 _ k_) ?_
  show OEnds p e below s _ _ _ (T4.setTop (mkF m 20 #[vR u0, vR x] [(.int (2 : Int32)), (.ref dc), (.ref x), (.ref u0)]))
  obtain ⟨T6, _, _, ⟨rfl, rfl⟩, H6, st6⟩ := OHere.priv H4 hx hZ (y := (⟨"java/util/ArrayList", "add", "(Ljava/lang/Object;[Ljava/lang/Object;I)V"⟩ : MethodName)) (W := 0) (a := u0) (q := 0) (fs := [("java/util/AbstractList", "modCount", "I", (.int (3 : Int32))), ("java/util/ArrayList", "elementData", "[Ljava/lang/Object;", (.ref dc)), ("java/util/ArrayList", "size", "I", (.int (2 : Int32)))]) (C := "java/util/ArrayList") hown (tWd hw 65 rfl) (tWd hw 66 rfl) (nf_sel (tWd hw 59 rfl) rfl) (tWd hw 67 rfl) (tWd hw 34 rfl) (tWd hw 69 rfl) (by decide) rfl (conA7_2 l Z a0 hw n0 [] u0 ([] ++ F) x fx (List.mem_append_right _ hxF) dc y0 y1 dd hSt hDd) (by decide) (by decide) (pc := 20) (Ls := #[vR u0, vR x]) (argsL := [(.ref x), (.ref dc), (.int (2 : Int32))]) (rest := []) (by rw [hml]; rfl) (lenOf pd_oLjava_lang_Object_ALjava_lang_Object_IcV rfl) rfl (Nat.le_of_eq rfl) (hb hby d6_20) (by decide) (by decide)
  replace H6 : OHere p l e _ s m _ below meth c Z n0 0 T6 0 0 ([(eO u0 "java/util/ArrayList" [("java/util/AbstractList", "modCount", "I", (.int (3 : Int32))), ("java/util/ArrayList", "elementData", "[Ljava/lang/Object;", (.ref dc)), ("java/util/ArrayList", "size", "I", (.int (3 : Int32)))]), (eA dc (.object "java/lang/Object") [(.ref y0), (.ref y1), (.ref x), .null, .null, .null, .null, .null, .null, .null])] ++ F) := H6
  refine OEnds.pre (fun t_ k_ => st6 _ k_) ?_
  show OEnds p e below s _ _ _ (T6.setTop (mkF m 23 #[vR u0, vR x] []))
  refine OEnds.pre (fun t_ k_ => XT.iconstV H6.here hx rfl (1 : Int32) (hb hby d6_23) rfl k_) ?_
  show OEnds p e below s _ _ _ (T6.setTop (mkF m 24 #[vR u0, vR x] [(.int (1 : Int32))]))
  exact H6.nrw hx Bd.notSynchronized Bd.returns (by simp) (hb hby d6_24) (by decide) (by decide) (fun h L W N => ⟨N, _, ⟨rfl, rfl⟩, W⟩)
theorem pd_ocI : parseMethodDescriptor "()I" = some ⟨[], some .int⟩ := by decide +kernel
theorem pd_oIIIcI : parseMethodDescriptor "(III)I" = some ⟨[.int, .int, .int], some .int⟩ := by decide +kernel
theorem d12_0 : decode jdk_21_method_3_code 0 = .ok (.aload_n 0, 1) := by decide +kernel
theorem d12_1 : decode jdk_21_method_3_code 1 = .ok (.invokespecial 42, 3) := by decide +kernel
theorem d12_4 : decode jdk_21_method_3_code 4 = .ok (.aload_n 0, 1) := by decide +kernel
theorem d12_5 : decode jdk_21_method_3_code 5 = .ok (.bipush 17, 2) := by decide +kernel
theorem d12_7 : decode jdk_21_method_3_code 7 = .ok (.anewarray 47, 3) := by decide +kernel
theorem d12_10 : decode jdk_21_method_3_code 10 = .ok (.putfield 3, 3) := by decide +kernel
theorem d12_13 : decode jdk_21_method_3_code 13 = .ok (.return_, 1) := by decide +kernel
theorem pn_12 : plainFor (⟨"java/util/ArrayDeque", "<init>", "()V"⟩ : MethodName) = true := by first | exact plainFor_of_name (by first | (simp [plainName, overriddenIn]; done) | decide +kernel) | decide +kernel
theorem ef_12 (m : MethodId) (x0 : Addr) : entryFrame m #[(.ref x0)] 1 = mkF m 0 #[.val (.ref x0)] [] := by first | (simp [entryFrame, mkF, argsToLocals, Value.category]; done) | rfl
set_option maxRecDepth 65536 in
set_option maxHeartbeats 40000000 in
theorem conADi (l : Launch) (Z : State) (a0 : Array Value) (hw : ∀ d ∈ tables_1, d.before a0 Z = true) (n0 : Nat) (ws : List Jvm.Cond) (u0 : Addr) (F : List OEnt) :
    OCon l Z n0 (⟨"java/util/ArrayDeque", "<init>", "()V"⟩ : MethodName) jdk_21_method_3_code 1 none ws ({ frames := 2, cells := 1, slots := 17, locals := 24 } : Room) #[(.ref u0)] ([(eO u0 "java/util/ArrayDeque" [("java/util/ArrayDeque", "elements", "[Ljava/lang/Object;", .null), ("java/util/ArrayDeque", "tail", "I", (.int 0)), ("java/util/ArrayDeque", "head", "I", (.int 0))])] ++ F) (fun v' es' => ∃ b : Addr, v' = none ∧ es' = ([(eA b (.object "java/lang/Object") [.null, .null, .null, .null, .null, .null, .null, .null, .null, .null, .null, .null, .null, .null, .null, .null, .null]), (eO u0 "java/util/ArrayDeque" [("java/util/ArrayDeque", "elements", "[Ljava/lang/Object;", (.ref b)), ("java/util/ArrayDeque", "tail", "I", (.int (0 : Int32))), ("java/util/ArrayDeque", "head", "I", (.int (0 : Int32)))])] ++ F)) := by
  intro h0 hW0
  refine MetFree.of_bodySF pn_12 hisR ?_
  intro p e s m args below meth c s₁ Bd hml0 hP hK
  obtain ⟨rfl, hZ, hh⟩ := hP
  have hx := Bd.exec
  have hby := Bd.bytes
  have hml : c.maxLocals = 1 := hml0
  have hown : s.vm.findClass "java/util/ArrayDeque" = some m.cls := findClass_of_methodNamed Bd.named
  have hnm := (name_of_methodNamed Bd.named Bd.method).1
  have H0 : OHere p l e ({ frames := 2, cells := 1, slots := 17, locals := 24 } : Room) s m #[(.ref u0)] below meth c Z n0 0 s₁ 0 0 ([(eO u0 "java/util/ArrayDeque" [("java/util/ArrayDeque", "elements", "[Ljava/lang/Object;", .null), ("java/util/ArrayDeque", "tail", "I", (.int 0)), ("java/util/ArrayDeque", "head", "I", (.int 0))])] ++ F) := ⟨[], Stand.of_body Bd, by rw [show s₁.heap = h0 from by rw [← hh, Bd.state]; rfl]; exact hW0, Fr.nil _, Nat.zero_le _⟩
  show OEnds p e below s _ _ (fun v' h' L => Fr n0 L ∧ ∃ es', (fun v' es' => ∃ b : Addr, v' = none ∧ es' = ([(eA b (.object "java/lang/Object") [.null, .null, .null, .null, .null, .null, .null, .null, .null, .null, .null, .null, .null, .null, .null, .null, .null]), (eO u0 "java/util/ArrayDeque" [("java/util/ArrayDeque", "elements", "[Ljava/lang/Object;", (.ref b)), ("java/util/ArrayDeque", "tail", "I", (.int (0 : Int32))), ("java/util/ArrayDeque", "head", "I", (.int (0 : Int32)))])] ++ F)) v' es' ∧ OWorld Z n0 h' es') _
  refine OEnds.pre (fun t k => castTop (ef_12 m u0) k) ?_
  show OEnds p e below s _ _ _ (s₁.setTop (mkF m 0 #[vR u0] []))
  refine OEnds.pre (fun t_ k_ => XS.aloadN H0.here hx rfl (hb hby d12_0) rfl rfl k_) ?_
  show OEnds p e below s _ _ _ (s₁.setTop (mkF m 1 #[vR u0] [(.ref u0)]))
  obtain ⟨T1, _, _, ⟨rfl, rfl⟩, H1, st1⟩ := OHere.special H0 hx hZ (y := (⟨"java/util/AbstractCollection", "<init>", "()V"⟩ : MethodName)) rfl (W := 0) (a := u0) hown (tWd hw 100 rfl) (tWd hw 45 rfl) (tWd hw 48 rfl) (tWd hw 49 rfl) (by decide) (conAC l Z a0 hw n0 [] u0 ([(eO u0 "java/util/ArrayDeque" [("java/util/ArrayDeque", "elements", "[Ljava/lang/Object;", .null), ("java/util/ArrayDeque", "tail", "I", (.int 0)), ("java/util/ArrayDeque", "head", "I", (.int 0))])] ++ F)) (by decide) (by decide) (pc := 1) (Ls := #[vR u0]) (argsL := []) (rest := []) (by rw [hml]; rfl) (lenOf pd_ocV rfl) rfl (Nat.le_of_eq rfl) (hb hby d12_1) (by decide) (by decide)
  replace H1 : OHere p l e _ s m _ below meth c Z n0 0 T1 0 0 ([(eO u0 "java/util/ArrayDeque" [("java/util/ArrayDeque", "elements", "[Ljava/lang/Object;", .null), ("java/util/ArrayDeque", "tail", "I", (.int 0)), ("java/util/ArrayDeque", "head", "I", (.int 0))])] ++ F) := H1
  refine OEnds.pre (fun t_ k_ => st1 _ k_) ?_
  show OEnds p e below s _ _ _ (T1.setTop (mkF m 4 #[vR u0] []))
  refine OEnds.pre (fun t_ k_ => XS.aloadN H1.here hx rfl (hb hby d12_4) rfl rfl k_) ?_
  show OEnds p e below s _ _ _ (T1.setTop (mkF m 5 #[vR u0] [(.ref u0)]))
  refine OEnds.pre (fun t_ k_ => XT.bipushV H1.here hx rfl (17 : Int32) (hb hby d12_5) rfl k_) ?_
  show OEnds p e below s _ _ _ (T1.setTop (mkF m 7 #[vR u0] [(.int (17 : Int32)), (.ref u0)]))
  obtain ⟨T3, b2, H3, st3⟩ := OHere.anewarray H1 hx hZ (cap := 17) (pc := 7) (Ls := #[vR u0]) (rest := [(.ref u0)]) (z := (17 : Int32)) hown (tWd hw 102 rfl) (tWd hw 85 rfl) (hb hby d12_7) (by decide) (by decide) (by decide) (by decide) (by decide)
  replace H3 : OHere p l e _ s m _ below meth c Z n0 0 T3 1 17 ([(eA b2 (.object "java/lang/Object") [.null, .null, .null, .null, .null, .null, .null, .null, .null, .null, .null, .null, .null, .null, .null, .null, .null]), (eO u0 "java/util/ArrayDeque" [("java/util/ArrayDeque", "elements", "[Ljava/lang/Object;", .null), ("java/util/ArrayDeque", "tail", "I", (.int 0)), ("java/util/ArrayDeque", "head", "I", (.int 0))])] ++ F) := H3
  refine OEnds.pre (fun t_ k_ => st3 _ k_) ?_
  show OEnds p e below s _ _ _ (T3.setTop (mkF m 10 #[vR u0] [(.ref b2), (.ref u0)]))
  obtain ⟨T4, H4, st4⟩ := OHere.putfield H3 hx hZ (O := "java/util/ArrayDeque") (q := 1) (f := 0) (v := (.ref b2)) (C := "java/util/ArrayDeque") (ty := (.array (.object "java/lang/Object"))) (pc := 10) (Ls := #[vR u0]) (rest := []) hown (tWd hw 103 rfl) Via.refl (fs := [("java/util/ArrayDeque", "elements", "[Ljava/lang/Object;", .null), ("java/util/ArrayDeque", "tail", "I", (.int 0)), ("java/util/ArrayDeque", "head", "I", (.int 0))]) rfl rfl (Or.inl (tWd hw 104 rfl)) (tWd hw 95 rfl) (by decide) rfl rfl (hb hby d12_10)
  replace H4 : OHere p l e _ s m _ below meth c Z n0 0 T4 1 17 ([(eA b2 (.object "java/lang/Object") [.null, .null, .null, .null, .null, .null, .null, .null, .null, .null, .null, .null, .null, .null, .null, .null, .null]), (eO u0 "java/util/ArrayDeque" [("java/util/ArrayDeque", "elements", "[Ljava/lang/Object;", (.ref b2)), ("java/util/ArrayDeque", "tail", "I", (.int 0)), ("java/util/ArrayDeque", "head", "I", (.int 0))])] ++ F) := H4
  refine OEnds.pre (fun t_ k_ => st4 _ k_) ?_
  show OEnds p e below s _ _ _ (T4.setTop (mkF m 13 #[vR u0] []))
  exact H4.ret hx Bd.notSynchronized Bd.returns (hb hby d12_13) (by decide) (by decide) (fun h L W N => ⟨N, _, ⟨b2, rfl, rfl⟩, W⟩)
theorem d11_0 : decode prog_45_method_1_code 0 = .ok (.aload_n 0, 1) := by decide +kernel
theorem d11_1 : decode prog_45_method_1_code 1 = .ok (.invokespecial 1, 3) := by decide +kernel
theorem d11_4 : decode prog_45_method_1_code 4 = .ok (.aload_n 0, 1) := by decide +kernel
theorem d11_5 : decode prog_45_method_1_code 5 = .ok (.new 7, 3) := by decide +kernel
theorem d11_8 : decode prog_45_method_1_code 8 = .ok (.dup, 1) := by decide +kernel
theorem d11_9 : decode prog_45_method_1_code 9 = .ok (.invokespecial 9, 3) := by decide +kernel
theorem d11_12 : decode prog_45_method_1_code 12 = .ok (.putfield 10, 3) := by decide +kernel
theorem d11_15 : decode prog_45_method_1_code 15 = .ok (.aload_n 0, 1) := by decide +kernel
theorem d11_16 : decode prog_45_method_1_code 16 = .ok (.new 7, 3) := by decide +kernel
theorem d11_19 : decode prog_45_method_1_code 19 = .ok (.dup, 1) := by decide +kernel
theorem d11_20 : decode prog_45_method_1_code 20 = .ok (.invokespecial 9, 3) := by decide +kernel
theorem d11_23 : decode prog_45_method_1_code 23 = .ok (.putfield 16, 3) := by decide +kernel
theorem d11_26 : decode prog_45_method_1_code 26 = .ok (.return_, 1) := by decide +kernel
theorem pn_11 : plainFor (⟨"com/example/deadletter/deadletter/worker/WaitingJobs", "<init>", "()V"⟩ : MethodName) = true := by first | exact plainFor_of_name (by first | (simp [plainName, overriddenIn]; done) | decide +kernel) | decide +kernel
theorem ef_11 (m : MethodId) (x0 : Addr) : entryFrame m #[(.ref x0)] 1 = mkF m 0 #[.val (.ref x0)] [] := by first | (simp [entryFrame, mkF, argsToLocals, Value.category]; done) | rfl
set_option maxRecDepth 65536 in
set_option maxHeartbeats 40000000 in
theorem conWJi (l : Launch) (Z : State) (a0 : Array Value) (hw : ∀ d ∈ tables_1, d.before a0 Z = true) (n0 : Nat) (ws : List Jvm.Cond) (u0 : Addr) (F : List OEnt) :
    OCon l Z n0 (⟨"com/example/deadletter/deadletter/worker/WaitingJobs", "<init>", "()V"⟩ : MethodName) prog_45_method_1_code 1 none ws ({ frames := 3, cells := 4, slots := 40, locals := 38 } : Room) #[(.ref u0)] ([(eO u0 "com/example/deadletter/deadletter/worker/WaitingJobs" [("com/example/deadletter/deadletter/worker/WaitingJobs", "ready", "Ljava/util/Deque;", .null), ("com/example/deadletter/deadletter/worker/WaitingJobs", "toCount", "Ljava/util/Deque;", .null), ("com/example/deadletter/deadletter/worker/WaitingJobs", "takenOver", "Lcom/example/deadletter/deadletter/job/Job;", .null)])] ++ F) (fun v' es' => ∃ r dr k dk : Addr, v' = none ∧ es' = ([(eA dk (.object "java/lang/Object") [.null, .null, .null, .null, .null, .null, .null, .null, .null, .null, .null, .null, .null, .null, .null, .null, .null]), (eO k "java/util/ArrayDeque" [("java/util/ArrayDeque", "elements", "[Ljava/lang/Object;", (.ref dk)), ("java/util/ArrayDeque", "tail", "I", (.int (0 : Int32))), ("java/util/ArrayDeque", "head", "I", (.int (0 : Int32)))]), (eA dr (.object "java/lang/Object") [.null, .null, .null, .null, .null, .null, .null, .null, .null, .null, .null, .null, .null, .null, .null, .null, .null]), (eO r "java/util/ArrayDeque" [("java/util/ArrayDeque", "elements", "[Ljava/lang/Object;", (.ref dr)), ("java/util/ArrayDeque", "tail", "I", (.int (0 : Int32))), ("java/util/ArrayDeque", "head", "I", (.int (0 : Int32)))]), (eO u0 "com/example/deadletter/deadletter/worker/WaitingJobs" [("com/example/deadletter/deadletter/worker/WaitingJobs", "ready", "Ljava/util/Deque;", (.ref r)), ("com/example/deadletter/deadletter/worker/WaitingJobs", "toCount", "Ljava/util/Deque;", (.ref k)), ("com/example/deadletter/deadletter/worker/WaitingJobs", "takenOver", "Lcom/example/deadletter/deadletter/job/Job;", .null)])] ++ F)) := by
  intro h0 hW0
  refine MetFree.of_bodySF pn_11 hisR ?_
  intro p e s m args below meth c s₁ Bd hml0 hP hK
  obtain ⟨rfl, hZ, hh⟩ := hP
  have hx := Bd.exec
  have hby := Bd.bytes
  have hml : c.maxLocals = 1 := hml0
  have hown : s.vm.findClass "com/example/deadletter/deadletter/worker/WaitingJobs" = some m.cls := findClass_of_methodNamed Bd.named
  have hnm := (name_of_methodNamed Bd.named Bd.method).1
  have H0 : OHere p l e ({ frames := 3, cells := 4, slots := 40, locals := 38 } : Room) s m #[(.ref u0)] below meth c Z n0 0 s₁ 0 0 ([(eO u0 "com/example/deadletter/deadletter/worker/WaitingJobs" [("com/example/deadletter/deadletter/worker/WaitingJobs", "ready", "Ljava/util/Deque;", .null), ("com/example/deadletter/deadletter/worker/WaitingJobs", "toCount", "Ljava/util/Deque;", .null), ("com/example/deadletter/deadletter/worker/WaitingJobs", "takenOver", "Lcom/example/deadletter/deadletter/job/Job;", .null)])] ++ F) := ⟨[], Stand.of_body Bd, by rw [show s₁.heap = h0 from by rw [← hh, Bd.state]; rfl]; exact hW0, Fr.nil _, Nat.zero_le _⟩
  show OEnds p e below s _ _ (fun v' h' L => Fr n0 L ∧ ∃ es', (fun v' es' => ∃ r dr k dk : Addr, v' = none ∧ es' = ([(eA dk (.object "java/lang/Object") [.null, .null, .null, .null, .null, .null, .null, .null, .null, .null, .null, .null, .null, .null, .null, .null, .null]), (eO k "java/util/ArrayDeque" [("java/util/ArrayDeque", "elements", "[Ljava/lang/Object;", (.ref dk)), ("java/util/ArrayDeque", "tail", "I", (.int (0 : Int32))), ("java/util/ArrayDeque", "head", "I", (.int (0 : Int32)))]), (eA dr (.object "java/lang/Object") [.null, .null, .null, .null, .null, .null, .null, .null, .null, .null, .null, .null, .null, .null, .null, .null, .null]), (eO r "java/util/ArrayDeque" [("java/util/ArrayDeque", "elements", "[Ljava/lang/Object;", (.ref dr)), ("java/util/ArrayDeque", "tail", "I", (.int (0 : Int32))), ("java/util/ArrayDeque", "head", "I", (.int (0 : Int32)))]), (eO u0 "com/example/deadletter/deadletter/worker/WaitingJobs" [("com/example/deadletter/deadletter/worker/WaitingJobs", "ready", "Ljava/util/Deque;", (.ref r)), ("com/example/deadletter/deadletter/worker/WaitingJobs", "toCount", "Ljava/util/Deque;", (.ref k)), ("com/example/deadletter/deadletter/worker/WaitingJobs", "takenOver", "Lcom/example/deadletter/deadletter/job/Job;", .null)])] ++ F)) v' es' ∧ OWorld Z n0 h' es') _
  refine OEnds.pre (fun t k => castTop (ef_11 m u0) k) ?_
  show OEnds p e below s _ _ _ (s₁.setTop (mkF m 0 #[vR u0] []))
  refine OEnds.pre (fun t_ k_ => XS.aloadN H0.here hx rfl (hb hby d11_0) rfl rfl k_) ?_
  show OEnds p e below s _ _ _ (s₁.setTop (mkF m 1 #[vR u0] [(.ref u0)]))
  obtain ⟨T1, H1, st1⟩ := OHere.initO H0 hx hZ (pc := 1) (Ls := #[vR u0]) (rest := []) (a := u0) hown (tWd hw 93 rfl) (tWd hw 16 rfl) (tWd hw 17 rfl) (by rw [hml]; rfl) (hb hby d11_1) (by decide) (W := 0) (Nat.le_of_eq rfl) (by decide)
  replace H1 : OHere p l e _ s m _ below meth c Z n0 0 T1 0 0 ([(eO u0 "com/example/deadletter/deadletter/worker/WaitingJobs" [("com/example/deadletter/deadletter/worker/WaitingJobs", "ready", "Ljava/util/Deque;", .null), ("com/example/deadletter/deadletter/worker/WaitingJobs", "toCount", "Ljava/util/Deque;", .null), ("com/example/deadletter/deadletter/worker/WaitingJobs", "takenOver", "Lcom/example/deadletter/deadletter/job/Job;", .null)])] ++ F) := H1
  refine OEnds.pre (fun t_ k_ => st1 _ k_) ?_
  show OEnds p e below s _ _ _ (T1.setTop (mkF m 4 #[vR u0] []))
  refine OEnds.pre (fun t_ k_ => XS.aloadN H1.here hx rfl (hb hby d11_4) rfl rfl k_) ?_
  show OEnds p e below s _ _ _ (T1.setTop (mkF m 5 #[vR u0] [(.ref u0)]))
  obtain ⟨T3, b2, H3, st3⟩ := OHere.new H1 hx hZ (pc := 5) (Ls := #[vR u0]) (rest := [(.ref u0)]) hown (tWd hw 94 rfl) (tWd hw 95 rfl) (tWd hw 96 rfl) [("java/util/ArrayDeque", "elements", "[Ljava/lang/Object;", .null), ("java/util/ArrayDeque", "tail", "I", (.int 0)), ("java/util/ArrayDeque", "head", "I", (.int 0))] ⟨⟨Or.inl (tWd hw 104 rfl), (.array (.object "java/lang/Object")), by decide, rfl⟩, ⟨Or.inl (tWd hw 124 rfl), .int, by decide, rfl⟩, ⟨Or.inl (tWd hw 126 rfl), .int, by decide, rfl⟩, trivial⟩ (by first | decide | simp) (hb hby d11_5) (by decide) (by decide)
  replace H3 : OHere p l e _ s m _ below meth c Z n0 0 T3 1 3 ([(eO b2 "java/util/ArrayDeque" [("java/util/ArrayDeque", "elements", "[Ljava/lang/Object;", .null), ("java/util/ArrayDeque", "tail", "I", (.int 0)), ("java/util/ArrayDeque", "head", "I", (.int 0))]), (eO u0 "com/example/deadletter/deadletter/worker/WaitingJobs" [("com/example/deadletter/deadletter/worker/WaitingJobs", "ready", "Ljava/util/Deque;", .null), ("com/example/deadletter/deadletter/worker/WaitingJobs", "toCount", "Ljava/util/Deque;", .null), ("com/example/deadletter/deadletter/worker/WaitingJobs", "takenOver", "Lcom/example/deadletter/deadletter/job/Job;", .null)])] ++ F) := H3
  refine OEnds.pre (fun t_ k_ => st3 _ k_) ?_
  show OEnds p e below s _ _ _ (T3.setTop (mkF m 8 #[vR u0] [(.ref b2), (.ref u0)]))
  refine OEnds.pre (fun t_ k_ => XS.dup H3.here hx rfl (hb hby d11_8) rfl rfl k_) ?_
  show OEnds p e below s _ _ _ (T3.setTop (mkF m 9 #[vR u0] [(.ref b2), (.ref b2), (.ref u0)]))
  obtain ⟨T5, _, _, ⟨bd4, rfl, rfl⟩, H5, st5⟩ := OHere.special H3 hx hZ (y := (⟨"java/util/ArrayDeque", "<init>", "()V"⟩ : MethodName)) rfl (W := 2) (a := b2) hown (tWd hw 97 rfl) (tWd hw 98 rfl) (tWd hw 96 rfl) (tWd hw 99 rfl) (by decide) (conADi l Z a0 hw n0 [] b2 ([(eO u0 "com/example/deadletter/deadletter/worker/WaitingJobs" [("com/example/deadletter/deadletter/worker/WaitingJobs", "ready", "Ljava/util/Deque;", .null), ("com/example/deadletter/deadletter/worker/WaitingJobs", "toCount", "Ljava/util/Deque;", .null), ("com/example/deadletter/deadletter/worker/WaitingJobs", "takenOver", "Lcom/example/deadletter/deadletter/job/Job;", .null)])] ++ F)) (by decide) (by decide) (pc := 9) (Ls := #[vR u0]) (argsL := []) (rest := [(.ref b2), (.ref u0)]) (by rw [hml]; rfl) (lenOf pd_ocV rfl) rfl (Nat.le_of_eq rfl) (hb hby d11_9) (by decide) (by decide)
  replace H5 : OHere p l e _ s m _ below meth c Z n0 0 T5 2 20 ([(eA bd4 (.object "java/lang/Object") [.null, .null, .null, .null, .null, .null, .null, .null, .null, .null, .null, .null, .null, .null, .null, .null, .null]), (eO b2 "java/util/ArrayDeque" [("java/util/ArrayDeque", "elements", "[Ljava/lang/Object;", (.ref bd4)), ("java/util/ArrayDeque", "tail", "I", (.int (0 : Int32))), ("java/util/ArrayDeque", "head", "I", (.int (0 : Int32)))]), (eO u0 "com/example/deadletter/deadletter/worker/WaitingJobs" [("com/example/deadletter/deadletter/worker/WaitingJobs", "ready", "Ljava/util/Deque;", .null), ("com/example/deadletter/deadletter/worker/WaitingJobs", "toCount", "Ljava/util/Deque;", .null), ("com/example/deadletter/deadletter/worker/WaitingJobs", "takenOver", "Lcom/example/deadletter/deadletter/job/Job;", .null)])] ++ F) := H5
  refine OEnds.pre (fun t_ k_ => st5 _ k_) ?_
  show OEnds p e below s _ _ _ (T5.setTop (mkF m 12 #[vR u0] [(.ref b2), (.ref u0)]))
  obtain ⟨T6, H6, st6⟩ := OHere.putfield H5 hx hZ (O := "com/example/deadletter/deadletter/worker/WaitingJobs") (q := 2) (f := 0) (v := (.ref b2)) (C := "com/example/deadletter/deadletter/worker/WaitingJobs") (ty := (.object "java/util/Deque")) (pc := 12) (Ls := #[vR u0]) (rest := []) hown (tWd hw 105 rfl) Via.refl (fs := [("com/example/deadletter/deadletter/worker/WaitingJobs", "ready", "Ljava/util/Deque;", .null), ("com/example/deadletter/deadletter/worker/WaitingJobs", "toCount", "Ljava/util/Deque;", .null), ("com/example/deadletter/deadletter/worker/WaitingJobs", "takenOver", "Lcom/example/deadletter/deadletter/job/Job;", .null)]) rfl rfl (Or.inr ⟨(tWd hw 106 rfl), rfl, hnm⟩) (tWd hw 88 rfl) (by decide) rfl rfl (hb hby d11_12)
  replace H6 : OHere p l e _ s m _ below meth c Z n0 0 T6 2 20 ([(eA bd4 (.object "java/lang/Object") [.null, .null, .null, .null, .null, .null, .null, .null, .null, .null, .null, .null, .null, .null, .null, .null, .null]), (eO b2 "java/util/ArrayDeque" [("java/util/ArrayDeque", "elements", "[Ljava/lang/Object;", (.ref bd4)), ("java/util/ArrayDeque", "tail", "I", (.int (0 : Int32))), ("java/util/ArrayDeque", "head", "I", (.int (0 : Int32)))]), (eO u0 "com/example/deadletter/deadletter/worker/WaitingJobs" [("com/example/deadletter/deadletter/worker/WaitingJobs", "ready", "Ljava/util/Deque;", (.ref b2)), ("com/example/deadletter/deadletter/worker/WaitingJobs", "toCount", "Ljava/util/Deque;", .null), ("com/example/deadletter/deadletter/worker/WaitingJobs", "takenOver", "Lcom/example/deadletter/deadletter/job/Job;", .null)])] ++ F) := H6
  refine OEnds.pre (fun t_ k_ => st6 _ k_) ?_
  show OEnds p e below s _ _ _ (T6.setTop (mkF m 15 #[vR u0] []))
  refine OEnds.pre (fun t_ k_ => XS.aloadN H6.here hx rfl (hb hby d11_15) rfl rfl k_) ?_
  show OEnds p e below s _ _ _ (T6.setTop (mkF m 16 #[vR u0] [(.ref u0)]))
  obtain ⟨T8, b7, H8, st8⟩ := OHere.new H6 hx hZ (pc := 16) (Ls := #[vR u0]) (rest := [(.ref u0)]) hown (tWd hw 94 rfl) (tWd hw 95 rfl) (tWd hw 96 rfl) [("java/util/ArrayDeque", "elements", "[Ljava/lang/Object;", .null), ("java/util/ArrayDeque", "tail", "I", (.int 0)), ("java/util/ArrayDeque", "head", "I", (.int 0))] ⟨⟨Or.inl (tWd hw 104 rfl), (.array (.object "java/lang/Object")), by decide, rfl⟩, ⟨Or.inl (tWd hw 124 rfl), .int, by decide, rfl⟩, ⟨Or.inl (tWd hw 126 rfl), .int, by decide, rfl⟩, trivial⟩ (by first | decide | simp) (hb hby d11_16) (by decide) (by decide)
  replace H8 : OHere p l e _ s m _ below meth c Z n0 0 T8 3 23 ([(eO b7 "java/util/ArrayDeque" [("java/util/ArrayDeque", "elements", "[Ljava/lang/Object;", .null), ("java/util/ArrayDeque", "tail", "I", (.int 0)), ("java/util/ArrayDeque", "head", "I", (.int 0))]), (eA bd4 (.object "java/lang/Object") [.null, .null, .null, .null, .null, .null, .null, .null, .null, .null, .null, .null, .null, .null, .null, .null, .null]), (eO b2 "java/util/ArrayDeque" [("java/util/ArrayDeque", "elements", "[Ljava/lang/Object;", (.ref bd4)), ("java/util/ArrayDeque", "tail", "I", (.int (0 : Int32))), ("java/util/ArrayDeque", "head", "I", (.int (0 : Int32)))]), (eO u0 "com/example/deadletter/deadletter/worker/WaitingJobs" [("com/example/deadletter/deadletter/worker/WaitingJobs", "ready", "Ljava/util/Deque;", (.ref b2)), ("com/example/deadletter/deadletter/worker/WaitingJobs", "toCount", "Ljava/util/Deque;", .null), ("com/example/deadletter/deadletter/worker/WaitingJobs", "takenOver", "Lcom/example/deadletter/deadletter/job/Job;", .null)])] ++ F) := H8
  refine OEnds.pre (fun t_ k_ => st8 _ k_) ?_
  show OEnds p e below s _ _ _ (T8.setTop (mkF m 19 #[vR u0] [(.ref b7), (.ref u0)]))
  refine OEnds.pre (fun t_ k_ => XS.dup H8.here hx rfl (hb hby d11_19) rfl rfl k_) ?_
  show OEnds p e below s _ _ _ (T8.setTop (mkF m 20 #[vR u0] [(.ref b7), (.ref b7), (.ref u0)]))
  obtain ⟨T10, _, _, ⟨bd9, rfl, rfl⟩, H10, st10⟩ := OHere.special H8 hx hZ (y := (⟨"java/util/ArrayDeque", "<init>", "()V"⟩ : MethodName)) rfl (W := 2) (a := b7) hown (tWd hw 97 rfl) (tWd hw 98 rfl) (tWd hw 96 rfl) (tWd hw 99 rfl) (by decide) (conADi l Z a0 hw n0 [] b7 ([(eA bd4 (.object "java/lang/Object") [.null, .null, .null, .null, .null, .null, .null, .null, .null, .null, .null, .null, .null, .null, .null, .null, .null]), (eO b2 "java/util/ArrayDeque" [("java/util/ArrayDeque", "elements", "[Ljava/lang/Object;", (.ref bd4)), ("java/util/ArrayDeque", "tail", "I", (.int (0 : Int32))), ("java/util/ArrayDeque", "head", "I", (.int (0 : Int32)))]), (eO u0 "com/example/deadletter/deadletter/worker/WaitingJobs" [("com/example/deadletter/deadletter/worker/WaitingJobs", "ready", "Ljava/util/Deque;", (.ref b2)), ("com/example/deadletter/deadletter/worker/WaitingJobs", "toCount", "Ljava/util/Deque;", .null), ("com/example/deadletter/deadletter/worker/WaitingJobs", "takenOver", "Lcom/example/deadletter/deadletter/job/Job;", .null)])] ++ F)) (by decide) (by decide) (pc := 20) (Ls := #[vR u0]) (argsL := []) (rest := [(.ref b7), (.ref u0)]) (by rw [hml]; rfl) (lenOf pd_ocV rfl) rfl (Nat.le_of_eq rfl) (hb hby d11_20) (by decide) (by decide)
  replace H10 : OHere p l e _ s m _ below meth c Z n0 0 T10 4 40 ([(eA bd9 (.object "java/lang/Object") [.null, .null, .null, .null, .null, .null, .null, .null, .null, .null, .null, .null, .null, .null, .null, .null, .null]), (eO b7 "java/util/ArrayDeque" [("java/util/ArrayDeque", "elements", "[Ljava/lang/Object;", (.ref bd9)), ("java/util/ArrayDeque", "tail", "I", (.int (0 : Int32))), ("java/util/ArrayDeque", "head", "I", (.int (0 : Int32)))]), (eA bd4 (.object "java/lang/Object") [.null, .null, .null, .null, .null, .null, .null, .null, .null, .null, .null, .null, .null, .null, .null, .null, .null]), (eO b2 "java/util/ArrayDeque" [("java/util/ArrayDeque", "elements", "[Ljava/lang/Object;", (.ref bd4)), ("java/util/ArrayDeque", "tail", "I", (.int (0 : Int32))), ("java/util/ArrayDeque", "head", "I", (.int (0 : Int32)))]), (eO u0 "com/example/deadletter/deadletter/worker/WaitingJobs" [("com/example/deadletter/deadletter/worker/WaitingJobs", "ready", "Ljava/util/Deque;", (.ref b2)), ("com/example/deadletter/deadletter/worker/WaitingJobs", "toCount", "Ljava/util/Deque;", .null), ("com/example/deadletter/deadletter/worker/WaitingJobs", "takenOver", "Lcom/example/deadletter/deadletter/job/Job;", .null)])] ++ F) := H10
  refine OEnds.pre (fun t_ k_ => st10 _ k_) ?_
  show OEnds p e below s _ _ _ (T10.setTop (mkF m 23 #[vR u0] [(.ref b7), (.ref u0)]))
  obtain ⟨T11, H11, st11⟩ := OHere.putfield H10 hx hZ (O := "com/example/deadletter/deadletter/worker/WaitingJobs") (q := 4) (f := 1) (v := (.ref b7)) (C := "com/example/deadletter/deadletter/worker/WaitingJobs") (ty := (.object "java/util/Deque")) (pc := 23) (Ls := #[vR u0]) (rest := []) hown (tWd hw 107 rfl) Via.refl (fs := [("com/example/deadletter/deadletter/worker/WaitingJobs", "ready", "Ljava/util/Deque;", (.ref b2)), ("com/example/deadletter/deadletter/worker/WaitingJobs", "toCount", "Ljava/util/Deque;", .null), ("com/example/deadletter/deadletter/worker/WaitingJobs", "takenOver", "Lcom/example/deadletter/deadletter/job/Job;", .null)]) rfl rfl (Or.inr ⟨(tWd hw 108 rfl), rfl, hnm⟩) (tWd hw 88 rfl) (by decide) rfl rfl (hb hby d11_23)
  replace H11 : OHere p l e _ s m _ below meth c Z n0 0 T11 4 40 ([(eA bd9 (.object "java/lang/Object") [.null, .null, .null, .null, .null, .null, .null, .null, .null, .null, .null, .null, .null, .null, .null, .null, .null]), (eO b7 "java/util/ArrayDeque" [("java/util/ArrayDeque", "elements", "[Ljava/lang/Object;", (.ref bd9)), ("java/util/ArrayDeque", "tail", "I", (.int (0 : Int32))), ("java/util/ArrayDeque", "head", "I", (.int (0 : Int32)))]), (eA bd4 (.object "java/lang/Object") [.null, .null, .null, .null, .null, .null, .null, .null, .null, .null, .null, .null, .null, .null, .null, .null, .null]), (eO b2 "java/util/ArrayDeque" [("java/util/ArrayDeque", "elements", "[Ljava/lang/Object;", (.ref bd4)), ("java/util/ArrayDeque", "tail", "I", (.int (0 : Int32))), ("java/util/ArrayDeque", "head", "I", (.int (0 : Int32)))]), (eO u0 "com/example/deadletter/deadletter/worker/WaitingJobs" [("com/example/deadletter/deadletter/worker/WaitingJobs", "ready", "Ljava/util/Deque;", (.ref b2)), ("com/example/deadletter/deadletter/worker/WaitingJobs", "toCount", "Ljava/util/Deque;", (.ref b7)), ("com/example/deadletter/deadletter/worker/WaitingJobs", "takenOver", "Lcom/example/deadletter/deadletter/job/Job;", .null)])] ++ F) := H11
  refine OEnds.pre (fun t_ k_ => st11 _ k_) ?_
  show OEnds p e below s _ _ _ (T11.setTop (mkF m 26 #[vR u0] []))
  exact H11.ret hx Bd.notSynchronized Bd.returns (hb hby d11_26) (by decide) (by decide) (fun h L W N => ⟨N, _, ⟨b2, bd4, b7, bd9, rfl, rfl⟩, W⟩)
theorem d15_0 : decode jdk_21_method_9_code 0 = .ok (.iload_n 0, 1) := by decide +kernel
theorem d15_1 : decode jdk_21_method_9_code 1 = .ok (.iload_n 1, 1) := by decide +kernel
theorem d15_2 : decode jdk_21_method_9_code 2 = .ok (.isub, 1) := by decide +kernel
theorem d15_3 : decode jdk_21_method_9_code 3 = .ok (.dup, 1) := by decide +kernel
theorem d15_4 : decode jdk_21_method_9_code 4 = .ok (.istore_n 0, 1) := by decide +kernel
theorem d15_5 : decode jdk_21_method_9_code 5 = .ok (.ifCond .ge 7, 3) := by decide +kernel
theorem d15_8 : decode jdk_21_method_9_code 8 = .ok (.iload_n 0, 1) := by decide +kernel
theorem d15_9 : decode jdk_21_method_9_code 9 = .ok (.iload_n 2, 1) := by decide +kernel
theorem d15_10 : decode jdk_21_method_9_code 10 = .ok (.iadd, 1) := by decide +kernel
theorem d15_11 : decode jdk_21_method_9_code 11 = .ok (.istore_n 0, 1) := by decide +kernel
theorem d15_12 : decode jdk_21_method_9_code 12 = .ok (.iload_n 0, 1) := by decide +kernel
theorem d15_13 : decode jdk_21_method_9_code 13 = .ok (.ireturn, 1) := by decide +kernel
theorem pn_15 : plainFor (⟨"java/util/ArrayDeque", "sub", "(III)I"⟩ : MethodName) = true := by first | exact plainFor_of_name (by first | (simp [plainName, overriddenIn]; done) | decide +kernel) | decide +kernel
theorem pd_15 : parseMethodDescriptor "(III)I" = some ⟨[.int, .int, .int], some .int⟩ := by decide +kernel
theorem ef_15 (m : MethodId) (u0 : Int32) (u1 : Int32) (u2 : Int32) : entryFrame m #[(.int u0), (.int u1), (.int u2)] 3 = mkF m 0 #[.val (.int u0), .val (.int u1), .val (.int u2)] [] := by first | (simp [entryFrame, mkF, argsToLocals, Value.category]; done) | rfl
def f15 (u0 : Int32) (u1 : Int32) (u2 : Int32) : Int32 := (if (u0 - u1) < (0 : Int32) then ((u0 - u1) + u2) else (u0 - u1))
set_option maxRecDepth 65536 in
set_option maxHeartbeats 40000000 in
theorem met15 (l : Launch) (Z : State) (a0 : Array Value) (hw : ∀ d ∈ tables_1, d.before a0 Z = true) (ws : List Jvm.Cond) (u0 : Int32) (u1 : Int32) (u2 : Int32) (h0 : Heap) :
    MetFree l (⟨"java/util/ArrayDeque", "sub", "(III)I"⟩ : MethodName) (head1 (Jvm.Cond.code (⟨"java/util/ArrayDeque", "sub", "(III)I"⟩ : MethodName) jdk_21_method_9_code 3 (some .int) :: ws) ({ frames := 0, cells := 0, slots := 0, locals := 0 } : Room)) (fun a U => a = #[(.int u0), (.int u1), (.int u2)] ∧ Z.Warmed39 U.vm ∧ U.heap = h0) (fun _ _ _ _ _ => True) (fun _ U o U' => ∃ v L, o = .returned v ∧ (v = some (.int (f15 u0 u1 u2)) ∧ L = [] ∧ U'.heap = h0) ∧ FrameEnd U o U' L ({ frames := 0, cells := 0, slots := 0, locals := 0 } : Room).cells ({ frames := 0, cells := 0, slots := 0, locals := 0 } : Room).slots) := by
  refine MetFree.of_bodySF pn_15 hisR ?_
  intro p e s m args below meth c s₁ Bd hml0 hP hK
  obtain ⟨rfl, hZ, hh⟩ := hP
  have hx := Bd.exec
  have hby := Bd.bytes
  have hml : c.maxLocals = 3 := hml0
  have hown : s.vm.findClass "java/util/ArrayDeque" = some m.cls := findClass_of_methodNamed Bd.named
  have X0 : Stand p l e ({ frames := 0, cells := 0, slots := 0, locals := 0 } : Room) s m #[(.int u0), (.int u1), (.int u2)] below meth c s₁ [] 0 0 := Stand.of_body Bd
  have e0 : s₁.heap = h0 := by rw [← hh, Bd.state]; rfl
  show OEnds p e below s _ _ (fun v h L => v = some (.int (f15 u0 u1 u2)) ∧ L = [] ∧ h = h0) _
  refine OEnds.pre (fun t k => castTop (ef_15 m u0 u1 u2) k) ?_
  show OEnds p e below s _ _ _ (s₁.setTop (mkF m 0 #[.val (.int u0), .val (.int u1), .val (.int u2)] []))
  refine OEnds.pre (fun t k => XS.iloadN X0.here hx rfl (hb hby d15_0) rfl k) ?_
  show OEnds p e below s _ _ _ (s₁.setTop (mkF m 1 #[.val (.int u0), .val (.int u1), .val (.int u2)] [(.int u0)]))
  refine OEnds.pre (fun t k => XS.iloadN X0.here hx rfl (hb hby d15_1) rfl k) ?_
  show OEnds p e below s _ _ _ (s₁.setTop (mkF m 2 #[.val (.int u0), .val (.int u1), .val (.int u2)] [(.int u1), (.int u0)]))
  refine OEnds.pre (fun t k => XS.isub X0.here hx rfl (hb hby d15_2) rfl k) ?_
  show OEnds p e below s _ _ _ (s₁.setTop (mkF m 3 #[.val (.int u0), .val (.int u1), .val (.int u2)] [(.int (u0 - u1))]))
  refine OEnds.pre (fun t k => XS.dup X0.here hx rfl (hb hby d15_3) rfl rfl k) ?_
  show OEnds p e below s _ _ _ (s₁.setTop (mkF m 4 #[.val (.int u0), .val (.int u1), .val (.int u2)] [(.int (u0 - u1)), (.int (u0 - u1))]))
  refine OEnds.pre (fun t k => XS.istoreN X0.here hx rfl (hb hby d15_4) rfl (l' := #[.val (.int (u0 - u1)), .val (.int u1), .val (.int u2)]) rfl k) ?_
  show OEnds p e below s _ _ _ (s₁.setTop (mkF m 5 #[.val (.int (u0 - u1)), .val (.int u1), .val (.int u2)] [(.int (u0 - u1))]))
  by_cases c1 : (u0 - u1) < (0 : Int32)
  · refine OEnds.pre (fun t k => XS.ifNo X0.here hx rfl (hb hby d15_5) rfl (XT.i0_ge_f c1) k) ?_
    show OEnds p e below s _ _ _ (s₁.setTop (mkF m 8 #[.val (.int (u0 - u1)), .val (.int u1), .val (.int u2)] []))
    refine OEnds.pre (fun t k => XS.iloadN X0.here hx rfl (hb hby d15_8) rfl k) ?_
    show OEnds p e below s _ _ _ (s₁.setTop (mkF m 9 #[.val (.int (u0 - u1)), .val (.int u1), .val (.int u2)] [(.int (u0 - u1))]))
    refine OEnds.pre (fun t k => XS.iloadN X0.here hx rfl (hb hby d15_9) rfl k) ?_
    show OEnds p e below s _ _ _ (s₁.setTop (mkF m 10 #[.val (.int (u0 - u1)), .val (.int u1), .val (.int u2)] [(.int u2), (.int (u0 - u1))]))
    refine OEnds.pre (fun t k => XS.iadd X0.here hx rfl (hb hby d15_10) rfl k) ?_
    show OEnds p e below s _ _ _ (s₁.setTop (mkF m 11 #[.val (.int (u0 - u1)), .val (.int u1), .val (.int u2)] [(.int ((u0 - u1) + u2))]))
    refine OEnds.pre (fun t k => XS.istoreN X0.here hx rfl (hb hby d15_11) rfl (l' := #[.val (.int ((u0 - u1) + u2)), .val (.int u1), .val (.int u2)]) rfl k) ?_
    show OEnds p e below s _ _ _ (s₁.setTop (mkF m 12 #[.val (.int ((u0 - u1) + u2)), .val (.int u1), .val (.int u2)] []))
    refine OEnds.pre (fun t k => XS.iloadN X0.here hx rfl (hb hby d15_12) rfl k) ?_
    show OEnds p e below s _ _ _ (s₁.setTop (mkF m 13 #[.val (.int ((u0 - u1) + u2)), .val (.int u1), .val (.int u2)] [(.int ((u0 - u1) + u2))]))
    exact OEnds.int X0 hx Bd.notSynchronized Bd.returns (hb hby d15_13) (Nat.zero_le _) (Nat.zero_le _) ⟨congrArg (fun q => some (Value.int q)) (by unfold f15; rw [if_pos c1]), rfl, e0⟩
  · refine OEnds.pre (fun t k => XS.ifYes X0.here hx rfl (pc0 := 5) (pc' := 12) rfl (hb hby d15_5) rfl (XT.i0_ge_t c1) (by decide) (by decide) k) ?_
    show OEnds p e below s _ _ _ (s₁.setTop (mkF m 12 #[.val (.int (u0 - u1)), .val (.int u1), .val (.int u2)] []))
    refine OEnds.pre (fun t k => XS.iloadN X0.here hx rfl (hb hby d15_12) rfl k) ?_
    show OEnds p e below s _ _ _ (s₁.setTop (mkF m 13 #[.val (.int (u0 - u1)), .val (.int u1), .val (.int u2)] [(.int (u0 - u1))]))
    exact OEnds.int X0 hx Bd.notSynchronized Bd.returns (hb hby d15_13) (Nat.zero_le _) (Nat.zero_le _) ⟨congrArg (fun q => some (Value.int q)) (by unfold f15; rw [if_neg c1]), rfl, e0⟩
theorem conSub (l : Launch) (Z : State) (a0 : Array Value) (hw : ∀ d ∈ tables_1, d.before a0 Z = true) (n0 : Nat) (ws : List Jvm.Cond) (u0 u1 u2 r : Int32) (hr : f15 u0 u1 u2 = r) (es : List OEnt) :
    OCon l Z n0 (⟨"java/util/ArrayDeque", "sub", "(III)I"⟩ : MethodName) jdk_21_method_9_code 3 (some .int) ws ({ frames := 0, cells := 0, slots := 0, locals := 0 } : Room) #[(.int u0), (.int u1), (.int u2)] es (fun v' es' => v' = some (.int r) ∧ es' = es) := by
  subst hr; exact OCon.of_pure fun h => met15 l Z a0 hw ws u0 u1 u2 h
theorem d32_0 : decode jdk_21_method_6_code 0 = .ok (.iinc 0 1, 3) := by decide +kernel
theorem d32_3 : decode jdk_21_method_6_code 3 = .ok (.iload_n 0, 1) := by decide +kernel
theorem d32_4 : decode jdk_21_method_6_code 4 = .ok (.iload_n 1, 1) := by decide +kernel
theorem d32_5 : decode jdk_21_method_6_code 5 = .ok (.if_icmp .lt 5, 3) := by decide +kernel
theorem d32_8 : decode jdk_21_method_6_code 8 = .ok (.iconst 0, 1) := by decide +kernel
theorem d32_9 : decode jdk_21_method_6_code 9 = .ok (.istore_n 0, 1) := by decide +kernel
theorem d32_10 : decode jdk_21_method_6_code 10 = .ok (.iload_n 0, 1) := by decide +kernel
theorem d32_11 : decode jdk_21_method_6_code 11 = .ok (.ireturn, 1) := by decide +kernel
theorem pn_32 : plainFor (⟨"java/util/ArrayDeque", "inc", "(II)I"⟩ : MethodName) = true := by first | exact plainFor_of_name (by first | (simp [plainName, overriddenIn]; done) | decide +kernel) | decide +kernel
theorem pd_32 : parseMethodDescriptor "(II)I" = some ⟨[.int, .int], some .int⟩ := by decide +kernel
theorem ef_32 (m : MethodId) (u0 : Int32) (u1 : Int32) : entryFrame m #[(.int u0), (.int u1)] 2 = mkF m 0 #[.val (.int u0), .val (.int u1)] [] := by first | (simp [entryFrame, mkF, argsToLocals, Value.category]; done) | rfl
def f32 (u0 : Int32) (u1 : Int32) : Int32 := (if (u0 + (1 : Int32)) < u1 then (u0 + (1 : Int32)) else (0 : Int32))
set_option maxRecDepth 65536 in
set_option maxHeartbeats 40000000 in
theorem met32 (l : Launch) (Z : State) (a0 : Array Value) (hw : ∀ d ∈ tables_1, d.before a0 Z = true) (ws : List Jvm.Cond) (u0 : Int32) (u1 : Int32) (h0 : Heap) :
    MetFree l (⟨"java/util/ArrayDeque", "inc", "(II)I"⟩ : MethodName) (head1 (Jvm.Cond.code (⟨"java/util/ArrayDeque", "inc", "(II)I"⟩ : MethodName) jdk_21_method_6_code 2 (some .int) :: ws) ({ frames := 0, cells := 0, slots := 0, locals := 0 } : Room)) (fun a U => a = #[(.int u0), (.int u1)] ∧ Z.Warmed39 U.vm ∧ U.heap = h0) (fun _ _ _ _ _ => True) (fun _ U o U' => ∃ v L, o = .returned v ∧ (v = some (.int (f32 u0 u1)) ∧ L = [] ∧ U'.heap = h0) ∧ FrameEnd U o U' L ({ frames := 0, cells := 0, slots := 0, locals := 0 } : Room).cells ({ frames := 0, cells := 0, slots := 0, locals := 0 } : Room).slots) := by
  refine MetFree.of_bodySF pn_32 hisR ?_
  intro p e s m args below meth c s₁ Bd hml0 hP hK
  obtain ⟨rfl, hZ, hh⟩ := hP
  have hx := Bd.exec
  have hby := Bd.bytes
  have hml : c.maxLocals = 2 := hml0
  have hown : s.vm.findClass "java/util/ArrayDeque" = some m.cls := findClass_of_methodNamed Bd.named
  have X0 : Stand p l e ({ frames := 0, cells := 0, slots := 0, locals := 0 } : Room) s m #[(.int u0), (.int u1)] below meth c s₁ [] 0 0 := Stand.of_body Bd
  have e0 : s₁.heap = h0 := by rw [← hh, Bd.state]; rfl
  show OEnds p e below s _ _ (fun v h L => v = some (.int (f32 u0 u1)) ∧ L = [] ∧ h = h0) _
  refine OEnds.pre (fun t k => castTop (ef_32 m u0 u1) k) ?_
  show OEnds p e below s _ _ _ (s₁.setTop (mkF m 0 #[.val (.int u0), .val (.int u1)] []))
  refine OEnds.pre (fun t k => XT.iincV X0.here hx rfl (l' := #[.val (.int (u0 + (1 : Int32))), .val (.int u1)]) (1 : Int32) (hb hby d32_0) rfl rfl rfl k) ?_
  show OEnds p e below s _ _ _ (s₁.setTop (mkF m 3 #[.val (.int (u0 + (1 : Int32))), .val (.int u1)] []))
  refine OEnds.pre (fun t k => XS.iloadN X0.here hx rfl (hb hby d32_3) rfl k) ?_
  show OEnds p e below s _ _ _ (s₁.setTop (mkF m 4 #[.val (.int (u0 + (1 : Int32))), .val (.int u1)] [(.int (u0 + (1 : Int32)))]))
  refine OEnds.pre (fun t k => XS.iloadN X0.here hx rfl (hb hby d32_4) rfl k) ?_
  show OEnds p e below s _ _ _ (s₁.setTop (mkF m 5 #[.val (.int (u0 + (1 : Int32))), .val (.int u1)] [(.int u1), (.int (u0 + (1 : Int32)))]))
  by_cases c1 : (u0 + (1 : Int32)) < u1
  · refine OEnds.pre (fun t k => XS.icmpYes X0.here hx rfl (pc0 := 5) (pc' := 10) rfl (hb hby d32_5) rfl (XT.ii_lt_t c1) (by decide) (by decide) k) ?_
    show OEnds p e below s _ _ _ (s₁.setTop (mkF m 10 #[.val (.int (u0 + (1 : Int32))), .val (.int u1)] []))
    refine OEnds.pre (fun t k => XS.iloadN X0.here hx rfl (hb hby d32_10) rfl k) ?_
    show OEnds p e below s _ _ _ (s₁.setTop (mkF m 11 #[.val (.int (u0 + (1 : Int32))), .val (.int u1)] [(.int (u0 + (1 : Int32)))]))
    exact OEnds.int X0 hx Bd.notSynchronized Bd.returns (hb hby d32_11) (Nat.zero_le _) (Nat.zero_le _) ⟨congrArg (fun q => some (Value.int q)) (by unfold f32; rw [if_pos c1]), rfl, e0⟩
  · refine OEnds.pre (fun t k => XS.icmpNo X0.here hx rfl (hb hby d32_5) rfl (XT.ii_lt_f c1) k) ?_
    show OEnds p e below s _ _ _ (s₁.setTop (mkF m 8 #[.val (.int (u0 + (1 : Int32))), .val (.int u1)] []))
    refine OEnds.pre (fun t k => XT.iconstV X0.here hx rfl (0 : Int32) (hb hby d32_8) rfl k) ?_
    show OEnds p e below s _ _ _ (s₁.setTop (mkF m 9 #[.val (.int (u0 + (1 : Int32))), .val (.int u1)] [(.int (0 : Int32))]))
    refine OEnds.pre (fun t k => XS.istoreN X0.here hx rfl (hb hby d32_9) rfl (l' := #[.val (.int (0 : Int32)), .val (.int u1)]) rfl k) ?_
    show OEnds p e below s _ _ _ (s₁.setTop (mkF m 10 #[.val (.int (0 : Int32)), .val (.int u1)] []))
    refine OEnds.pre (fun t k => XS.iloadN X0.here hx rfl (hb hby d32_10) rfl k) ?_
    show OEnds p e below s _ _ _ (s₁.setTop (mkF m 11 #[.val (.int (0 : Int32)), .val (.int u1)] [(.int (0 : Int32))]))
    exact OEnds.int X0 hx Bd.notSynchronized Bd.returns (hb hby d32_11) (Nat.zero_le _) (Nat.zero_le _) ⟨congrArg (fun q => some (Value.int q)) (by unfold f32; rw [if_neg c1]), rfl, e0⟩
theorem conInc (l : Launch) (Z : State) (a0 : Array Value) (hw : ∀ d ∈ tables_1, d.before a0 Z = true) (n0 : Nat) (ws : List Jvm.Cond) (u0 u1 r : Int32) (hr : f32 u0 u1 = r) (es : List OEnt) :
    OCon l Z n0 (⟨"java/util/ArrayDeque", "inc", "(II)I"⟩ : MethodName) jdk_21_method_6_code 2 (some .int) ws ({ frames := 0, cells := 0, slots := 0, locals := 0 } : Room) #[(.int u0), (.int u1)] es (fun v' es' => v' = some (.int r) ∧ es' = es) := by
  subst hr; exact OCon.of_pure fun h => met32 l Z a0 hw ws u0 u1 h
theorem d14_0 : decode jdk_21_method_37_code 0 = .ok (.aload_n 0, 1) := by decide +kernel
theorem d14_1 : decode jdk_21_method_37_code 1 = .ok (.getfield 20, 3) := by decide +kernel
theorem d14_4 : decode jdk_21_method_37_code 4 = .ok (.aload_n 0, 1) := by decide +kernel
theorem d14_5 : decode jdk_21_method_37_code 5 = .ok (.getfield 24, 3) := by decide +kernel
theorem d14_8 : decode jdk_21_method_37_code 8 = .ok (.aload_n 0, 1) := by decide +kernel
theorem d14_9 : decode jdk_21_method_37_code 9 = .ok (.getfield 3, 3) := by decide +kernel
theorem d14_12 : decode jdk_21_method_37_code 12 = .ok (.arraylength, 1) := by decide +kernel
theorem d14_13 : decode jdk_21_method_37_code 13 = .ok (.invokestatic 127, 3) := by decide +kernel
theorem d14_16 : decode jdk_21_method_37_code 16 = .ok (.ireturn, 1) := by decide +kernel
theorem pn_14 : plainFor (⟨"java/util/ArrayDeque", "size", "()I"⟩ : MethodName) = true := by first | exact plainFor_of_name (by first | (simp [plainName, overriddenIn]; done) | decide +kernel) | decide +kernel
theorem ef_14 (m : MethodId) (x0 : Addr) : entryFrame m #[(.ref x0)] 1 = mkF m 0 #[.val (.ref x0)] [] := by first | (simp [entryFrame, mkF, argsToLocals, Value.category]; done) | rfl
set_option maxRecDepth 65536 in
set_option maxHeartbeats 40000000 in
theorem conADs (l : Launch) (Z : State) (a0 : Array Value) (hw : ∀ d ∈ tables_1, d.before a0 Z = true) (n0 : Nat) (ws : List Jvm.Cond) (u0 : Addr) (F : List OEnt) (d : Addr) (vs : List Value) (tl hd r : Int32) (hv : vs.length = 17) (hr : f15 tl hd 17 = r) :
    OCon l Z n0 (⟨"java/util/ArrayDeque", "size", "()I"⟩ : MethodName) jdk_21_method_37_code 1 (some .int) ws ({ frames := 1, cells := 0, slots := 0, locals := 14 } : Room) #[(.ref u0)] ([(eO u0 "java/util/ArrayDeque" [("java/util/ArrayDeque", "elements", "[Ljava/lang/Object;", (.ref d)), ("java/util/ArrayDeque", "tail", "I", (.int tl)), ("java/util/ArrayDeque", "head", "I", (.int hd))]), (eA d (.object "java/lang/Object") vs)] ++ F) (fun v' es' => v' = some (.int r) ∧ es' = ([(eO u0 "java/util/ArrayDeque" [("java/util/ArrayDeque", "elements", "[Ljava/lang/Object;", (.ref d)), ("java/util/ArrayDeque", "tail", "I", (.int tl)), ("java/util/ArrayDeque", "head", "I", (.int hd))]), (eA d (.object "java/lang/Object") vs)] ++ F)) := by
  intro h0 hW0
  refine MetFree.of_bodySF pn_14 hisR ?_
  intro p e s m args below meth c s₁ Bd hml0 hP hK
  obtain ⟨rfl, hZ, hh⟩ := hP
  have hx := Bd.exec
  have hby := Bd.bytes
  have hml : c.maxLocals = 1 := hml0
  have hown : s.vm.findClass "java/util/ArrayDeque" = some m.cls := findClass_of_methodNamed Bd.named
  have hnm := (name_of_methodNamed Bd.named Bd.method).1
  have H0 : OHere p l e ({ frames := 1, cells := 0, slots := 0, locals := 14 } : Room) s m #[(.ref u0)] below meth c Z n0 0 s₁ 0 0 ([(eO u0 "java/util/ArrayDeque" [("java/util/ArrayDeque", "elements", "[Ljava/lang/Object;", (.ref d)), ("java/util/ArrayDeque", "tail", "I", (.int tl)), ("java/util/ArrayDeque", "head", "I", (.int hd))]), (eA d (.object "java/lang/Object") vs)] ++ F) := ⟨[], Stand.of_body Bd, by rw [show s₁.heap = h0 from by rw [← hh, Bd.state]; rfl]; exact hW0, Fr.nil _, Nat.zero_le _⟩
  show OEnds p e below s _ _ (fun v' h' L => Fr n0 L ∧ ∃ es', (fun v' es' => v' = some (.int r) ∧ es' = ([(eO u0 "java/util/ArrayDeque" [("java/util/ArrayDeque", "elements", "[Ljava/lang/Object;", (.ref d)), ("java/util/ArrayDeque", "tail", "I", (.int tl)), ("java/util/ArrayDeque", "head", "I", (.int hd))]), (eA d (.object "java/lang/Object") vs)] ++ F)) v' es' ∧ OWorld Z n0 h' es') _
  refine OEnds.pre (fun t k => castTop (ef_14 m u0) k) ?_
  show OEnds p e below s _ _ _ (s₁.setTop (mkF m 0 #[vR u0] []))
  refine OEnds.pre (fun t_ k_ => XS.aloadN H0.here hx rfl (hb hby d14_0) rfl rfl k_) ?_
  show OEnds p e below s _ _ _ (s₁.setTop (mkF m 1 #[vR u0] [(.ref u0)]))
  obtain ⟨T1, H1, st1⟩ := OHere.getfield H0 hx hZ (O := "java/util/ArrayDeque") (q := 0) (f := 1) (v := (.int tl)) (fs := [("java/util/ArrayDeque", "elements", "[Ljava/lang/Object;", (.ref d)), ("java/util/ArrayDeque", "tail", "I", (.int tl)), ("java/util/ArrayDeque", "head", "I", (.int hd))]) (C := "java/util/ArrayDeque") (pc := 1) (Ls := #[vR u0]) (rest := []) hown (tWd hw 123 rfl) Via.refl rfl rfl (hb hby d14_1)
  replace H1 : OHere p l e _ s m _ below meth c Z n0 0 T1 0 0 ([(eO u0 "java/util/ArrayDeque" [("java/util/ArrayDeque", "elements", "[Ljava/lang/Object;", (.ref d)), ("java/util/ArrayDeque", "tail", "I", (.int tl)), ("java/util/ArrayDeque", "head", "I", (.int hd))]), (eA d (.object "java/lang/Object") vs)] ++ F) := H1
  refine OEnds.pre (fun t_ k_ => st1 _ k_) ?_
  show OEnds p e below s _ _ _ (T1.setTop (mkF m 4 #[vR u0] [(.int tl)]))
  refine OEnds.pre (fun t_ k_ => XS.aloadN H1.here hx rfl (hb hby d14_4) rfl rfl k_) ?_
  show OEnds p e below s _ _ _ (T1.setTop (mkF m 5 #[vR u0] [(.ref u0), (.int tl)]))
  obtain ⟨T2, H2, st2⟩ := OHere.getfield H1 hx hZ (O := "java/util/ArrayDeque") (q := 0) (f := 2) (v := (.int hd)) (fs := [("java/util/ArrayDeque", "elements", "[Ljava/lang/Object;", (.ref d)), ("java/util/ArrayDeque", "tail", "I", (.int tl)), ("java/util/ArrayDeque", "head", "I", (.int hd))]) (C := "java/util/ArrayDeque") (pc := 5) (Ls := #[vR u0]) (rest := [(.int tl)]) hown (tWd hw 125 rfl) Via.refl rfl rfl (hb hby d14_5)
  replace H2 : OHere p l e _ s m _ below meth c Z n0 0 T2 0 0 ([(eO u0 "java/util/ArrayDeque" [("java/util/ArrayDeque", "elements", "[Ljava/lang/Object;", (.ref d)), ("java/util/ArrayDeque", "tail", "I", (.int tl)), ("java/util/ArrayDeque", "head", "I", (.int hd))]), (eA d (.object "java/lang/Object") vs)] ++ F) := H2
  refine OEnds.pre (fun t_ k_ => st2 _ k_) ?_
  show OEnds p e below s _ _ _ (T2.setTop (mkF m 8 #[vR u0] [(.int hd), (.int tl)]))
  refine OEnds.pre (fun t_ k_ => XS.aloadN H2.here hx rfl (hb hby d14_8) rfl rfl k_) ?_
  show OEnds p e below s _ _ _ (T2.setTop (mkF m 9 #[vR u0] [(.ref u0), (.int hd), (.int tl)]))
  obtain ⟨T3, H3, st3⟩ := OHere.getfield H2 hx hZ (O := "java/util/ArrayDeque") (q := 0) (f := 0) (v := (.ref d)) (fs := [("java/util/ArrayDeque", "elements", "[Ljava/lang/Object;", (.ref d)), ("java/util/ArrayDeque", "tail", "I", (.int tl)), ("java/util/ArrayDeque", "head", "I", (.int hd))]) (C := "java/util/ArrayDeque") (pc := 9) (Ls := #[vR u0]) (rest := [(.int hd), (.int tl)]) hown (tWd hw 103 rfl) Via.refl rfl rfl (hb hby d14_9)
  replace H3 : OHere p l e _ s m _ below meth c Z n0 0 T3 0 0 ([(eO u0 "java/util/ArrayDeque" [("java/util/ArrayDeque", "elements", "[Ljava/lang/Object;", (.ref d)), ("java/util/ArrayDeque", "tail", "I", (.int tl)), ("java/util/ArrayDeque", "head", "I", (.int hd))]), (eA d (.object "java/lang/Object") vs)] ++ F) := H3
  refine OEnds.pre (fun t_ k_ => st3 _ k_) ?_
  show OEnds p e below s _ _ _ (T3.setTop (mkF m 12 #[vR u0] [(.ref d), (.int hd), (.int tl)]))
  refine OEnds.pre (fun t_ k_ => OHere.len H3 hx hZ (q := 1) (vs := vs) (z := (17 : Int32)) rfl (by rw [hv]; rfl) (hb hby d14_12) k_) ?_
  show OEnds p e below s _ _ _ (T3.setTop (mkF m 13 #[vR u0] [(.int (17 : Int32)), (.int hd), (.int tl)]))
  obtain ⟨T4, _, _, ⟨rfl, rfl⟩, H4, st4⟩ := OHere.static H3 hx hZ (y := (⟨"java/util/ArrayDeque", "sub", "(III)I"⟩ : MethodName)) (W := 0) hown (tWd hw 127 rfl) (tWd hw 128 rfl) (tWd hw 96 rfl) (tWd hw 129 rfl) (by decide) (conSub l Z a0 hw n0 [] tl hd (17 : Int32) r hr ([] ++ ([(eO u0 "java/util/ArrayDeque" [("java/util/ArrayDeque", "elements", "[Ljava/lang/Object;", (.ref d)), ("java/util/ArrayDeque", "tail", "I", (.int tl)), ("java/util/ArrayDeque", "head", "I", (.int hd))]), (eA d (.object "java/lang/Object") vs)] ++ F))) (by decide) (by decide) (pc := 13) (Ls := #[vR u0]) (argsL := [(.int tl), (.int hd), (.int (17 : Int32))]) (rest := []) (by rw [hml]; rfl) (lenOf pd_oIIIcI rfl) rfl (Nat.le_of_eq rfl) (hb hby d14_13) (by decide) (by decide)
  replace H4 : OHere p l e _ s m _ below meth c Z n0 0 T4 0 0 ([(eO u0 "java/util/ArrayDeque" [("java/util/ArrayDeque", "elements", "[Ljava/lang/Object;", (.ref d)), ("java/util/ArrayDeque", "tail", "I", (.int tl)), ("java/util/ArrayDeque", "head", "I", (.int hd))]), (eA d (.object "java/lang/Object") vs)] ++ F) := H4
  refine OEnds.pre (fun t_ k_ => st4 _ k_) ?_
  show OEnds p e below s _ _ _ (T4.setTop (mkF m 16 #[vR u0] [(.int r)]))
  exact H4.int hx Bd.notSynchronized Bd.returns (hb hby d14_16) (by decide) (by decide) (fun h L W N => ⟨N, _, ⟨rfl, rfl⟩, W⟩)
def nb : Value → Int32
  | .null => 0
  | _ => 1
theorem d13_0 : decode prog_45_method_7_code 0 = .ok (.aload_n 0, 1) := by decide +kernel
theorem d13_1 : decode prog_45_method_7_code 1 = .ok (.getfield 10, 3) := by decide +kernel
theorem d13_4 : decode prog_45_method_7_code 4 = .ok (.invokeinterface 55 1, 5) := by decide +kernel
theorem d13_9 : decode prog_45_method_7_code 9 = .ok (.aload_n 0, 1) := by decide +kernel
theorem d13_10 : decode prog_45_method_7_code 10 = .ok (.getfield 16, 3) := by decide +kernel
theorem d13_13 : decode prog_45_method_7_code 13 = .ok (.invokeinterface 55 1, 5) := by decide +kernel
theorem d13_18 : decode prog_45_method_7_code 18 = .ok (.iadd, 1) := by decide +kernel
theorem d13_19 : decode prog_45_method_7_code 19 = .ok (.aload_n 0, 1) := by decide +kernel
theorem d13_20 : decode prog_45_method_7_code 20 = .ok (.getfield 37, 3) := by decide +kernel
theorem d13_23 : decode prog_45_method_7_code 23 = .ok (.ifnonnull 7, 3) := by decide +kernel
theorem d13_26 : decode prog_45_method_7_code 26 = .ok (.iconst 0, 1) := by decide +kernel
theorem d13_27 : decode prog_45_method_7_code 27 = .ok (.goto 4, 3) := by decide +kernel
theorem d13_30 : decode prog_45_method_7_code 30 = .ok (.iconst 1, 1) := by decide +kernel
theorem d13_31 : decode prog_45_method_7_code 31 = .ok (.iadd, 1) := by decide +kernel
theorem d13_32 : decode prog_45_method_7_code 32 = .ok (.ireturn, 1) := by decide +kernel
theorem pn_13 : plainFor (⟨"com/example/deadletter/deadletter/worker/WaitingJobs", "size", "()I"⟩ : MethodName) = true := by first | exact plainFor_of_name (by first | (simp [plainName, overriddenIn]; done) | decide +kernel) | decide +kernel
theorem ef_13 (m : MethodId) (x0 : Addr) : entryFrame m #[(.ref x0)] 1 = mkF m 0 #[.val (.ref x0)] [] := by first | (simp [entryFrame, mkF, argsToLocals, Value.category]; done) | rfl
set_option maxRecDepth 65536 in
set_option maxHeartbeats 40000000 in
theorem conWJs (l : Launch) (Z : State) (a0 : Array Value) (hw : ∀ d ∈ tables_1, d.before a0 Z = true) (n0 : Nat) (ws : List Jvm.Cond) (u0 : Addr) (F : List OEnt) (tv : Value) (htv : tv.isRef = true) (r dr k dk : Addr) (v1 v2 : List Value) (t1 h1 r1 t2 h2 r2 : Int32) (hv1 : v1.length = 17) (hr1 : f15 t1 h1 17 = r1) (hv2 : v2.length = 17) (hr2 : f15 t2 h2 17 = r2) :
    OCon l Z n0 (⟨"com/example/deadletter/deadletter/worker/WaitingJobs", "size", "()I"⟩ : MethodName) prog_45_method_7_code 1 (some .int) ws ({ frames := 2, cells := 0, slots := 0, locals := 27 } : Room) #[(.ref u0)] ([(eO u0 "com/example/deadletter/deadletter/worker/WaitingJobs" [("com/example/deadletter/deadletter/worker/WaitingJobs", "ready", "Ljava/util/Deque;", (.ref r)), ("com/example/deadletter/deadletter/worker/WaitingJobs", "toCount", "Ljava/util/Deque;", (.ref k)), ("com/example/deadletter/deadletter/worker/WaitingJobs", "takenOver", "Lcom/example/deadletter/deadletter/job/Job;", tv)]), (eO r "java/util/ArrayDeque" [("java/util/ArrayDeque", "elements", "[Ljava/lang/Object;", (.ref dr)), ("java/util/ArrayDeque", "tail", "I", (.int t1)), ("java/util/ArrayDeque", "head", "I", (.int h1))]), (eA dr (.object "java/lang/Object") v1), (eO k "java/util/ArrayDeque" [("java/util/ArrayDeque", "elements", "[Ljava/lang/Object;", (.ref dk)), ("java/util/ArrayDeque", "tail", "I", (.int t2)), ("java/util/ArrayDeque", "head", "I", (.int h2))]), (eA dk (.object "java/lang/Object") v2)] ++ F) (fun v' es' => v' = some (.int (r1 + r2 + nb tv)) ∧ es' = ([(eO u0 "com/example/deadletter/deadletter/worker/WaitingJobs" [("com/example/deadletter/deadletter/worker/WaitingJobs", "ready", "Ljava/util/Deque;", (.ref r)), ("com/example/deadletter/deadletter/worker/WaitingJobs", "toCount", "Ljava/util/Deque;", (.ref k)), ("com/example/deadletter/deadletter/worker/WaitingJobs", "takenOver", "Lcom/example/deadletter/deadletter/job/Job;", tv)]), (eO r "java/util/ArrayDeque" [("java/util/ArrayDeque", "elements", "[Ljava/lang/Object;", (.ref dr)), ("java/util/ArrayDeque", "tail", "I", (.int t1)), ("java/util/ArrayDeque", "head", "I", (.int h1))]), (eA dr (.object "java/lang/Object") v1), (eO k "java/util/ArrayDeque" [("java/util/ArrayDeque", "elements", "[Ljava/lang/Object;", (.ref dk)), ("java/util/ArrayDeque", "tail", "I", (.int t2)), ("java/util/ArrayDeque", "head", "I", (.int h2))]), (eA dk (.object "java/lang/Object") v2)] ++ F)) := by
  intro h0 hW0
  refine MetFree.of_bodySF pn_13 hisR ?_
  intro p e s m args below meth c s₁ Bd hml0 hP hK
  obtain ⟨rfl, hZ, hh⟩ := hP
  have hx := Bd.exec
  have hby := Bd.bytes
  have hml : c.maxLocals = 1 := hml0
  have hown : s.vm.findClass "com/example/deadletter/deadletter/worker/WaitingJobs" = some m.cls := findClass_of_methodNamed Bd.named
  have hnm := (name_of_methodNamed Bd.named Bd.method).1
  have H0 : OHere p l e ({ frames := 2, cells := 0, slots := 0, locals := 27 } : Room) s m #[(.ref u0)] below meth c Z n0 0 s₁ 0 0 ([(eO u0 "com/example/deadletter/deadletter/worker/WaitingJobs" [("com/example/deadletter/deadletter/worker/WaitingJobs", "ready", "Ljava/util/Deque;", (.ref r)), ("com/example/deadletter/deadletter/worker/WaitingJobs", "toCount", "Ljava/util/Deque;", (.ref k)), ("com/example/deadletter/deadletter/worker/WaitingJobs", "takenOver", "Lcom/example/deadletter/deadletter/job/Job;", tv)]), (eO r "java/util/ArrayDeque" [("java/util/ArrayDeque", "elements", "[Ljava/lang/Object;", (.ref dr)), ("java/util/ArrayDeque", "tail", "I", (.int t1)), ("java/util/ArrayDeque", "head", "I", (.int h1))]), (eA dr (.object "java/lang/Object") v1), (eO k "java/util/ArrayDeque" [("java/util/ArrayDeque", "elements", "[Ljava/lang/Object;", (.ref dk)), ("java/util/ArrayDeque", "tail", "I", (.int t2)), ("java/util/ArrayDeque", "head", "I", (.int h2))]), (eA dk (.object "java/lang/Object") v2)] ++ F) := ⟨[], Stand.of_body Bd, by rw [show s₁.heap = h0 from by rw [← hh, Bd.state]; rfl]; exact hW0, Fr.nil _, Nat.zero_le _⟩
  show OEnds p e below s _ _ (fun v' h' L => Fr n0 L ∧ ∃ es', (fun v' es' => v' = some (.int (r1 + r2 + nb tv)) ∧ es' = ([(eO u0 "com/example/deadletter/deadletter/worker/WaitingJobs" [("com/example/deadletter/deadletter/worker/WaitingJobs", "ready", "Ljava/util/Deque;", (.ref r)), ("com/example/deadletter/deadletter/worker/WaitingJobs", "toCount", "Ljava/util/Deque;", (.ref k)), ("com/example/deadletter/deadletter/worker/WaitingJobs", "takenOver", "Lcom/example/deadletter/deadletter/job/Job;", tv)]), (eO r "java/util/ArrayDeque" [("java/util/ArrayDeque", "elements", "[Ljava/lang/Object;", (.ref dr)), ("java/util/ArrayDeque", "tail", "I", (.int t1)), ("java/util/ArrayDeque", "head", "I", (.int h1))]), (eA dr (.object "java/lang/Object") v1), (eO k "java/util/ArrayDeque" [("java/util/ArrayDeque", "elements", "[Ljava/lang/Object;", (.ref dk)), ("java/util/ArrayDeque", "tail", "I", (.int t2)), ("java/util/ArrayDeque", "head", "I", (.int h2))]), (eA dk (.object "java/lang/Object") v2)] ++ F)) v' es' ∧ OWorld Z n0 h' es') _
  refine OEnds.pre (fun t k => castTop (ef_13 m u0) k) ?_
  show OEnds p e below s _ _ _ (s₁.setTop (mkF m 0 #[vR u0] []))
  refine OEnds.pre (fun t_ k_ => XS.aloadN H0.here hx rfl (hb hby d13_0) rfl rfl k_) ?_
  show OEnds p e below s _ _ _ (s₁.setTop (mkF m 1 #[vR u0] [(.ref u0)]))
  obtain ⟨T1, H1, st1⟩ := OHere.getfield H0 hx hZ (O := "com/example/deadletter/deadletter/worker/WaitingJobs") (q := 0) (f := 0) (v := (.ref r)) (fs := [("com/example/deadletter/deadletter/worker/WaitingJobs", "ready", "Ljava/util/Deque;", (.ref r)), ("com/example/deadletter/deadletter/worker/WaitingJobs", "toCount", "Ljava/util/Deque;", (.ref k)), ("com/example/deadletter/deadletter/worker/WaitingJobs", "takenOver", "Lcom/example/deadletter/deadletter/job/Job;", tv)]) (C := "com/example/deadletter/deadletter/worker/WaitingJobs") (pc := 1) (Ls := #[vR u0]) (rest := []) hown (tWd hw 105 rfl) Via.refl rfl rfl (hb hby d13_1)
  replace H1 : OHere p l e _ s m _ below meth c Z n0 0 T1 0 0 ([(eO u0 "com/example/deadletter/deadletter/worker/WaitingJobs" [("com/example/deadletter/deadletter/worker/WaitingJobs", "ready", "Ljava/util/Deque;", (.ref r)), ("com/example/deadletter/deadletter/worker/WaitingJobs", "toCount", "Ljava/util/Deque;", (.ref k)), ("com/example/deadletter/deadletter/worker/WaitingJobs", "takenOver", "Lcom/example/deadletter/deadletter/job/Job;", tv)]), (eO r "java/util/ArrayDeque" [("java/util/ArrayDeque", "elements", "[Ljava/lang/Object;", (.ref dr)), ("java/util/ArrayDeque", "tail", "I", (.int t1)), ("java/util/ArrayDeque", "head", "I", (.int h1))]), (eA dr (.object "java/lang/Object") v1), (eO k "java/util/ArrayDeque" [("java/util/ArrayDeque", "elements", "[Ljava/lang/Object;", (.ref dk)), ("java/util/ArrayDeque", "tail", "I", (.int t2)), ("java/util/ArrayDeque", "head", "I", (.int h2))]), (eA dk (.object "java/lang/Object") v2)] ++ F) := H1
  refine OEnds.pre (fun t_ k_ => st1 _ k_) ?_
  show OEnds p e below s _ _ _ (T1.setTop (mkF m 4 #[vR u0] [(.ref r)]))
  have Hp2 : OHere p l e _ s m _ below meth c Z n0 0 T1 0 0 ([(eO r "java/util/ArrayDeque" [("java/util/ArrayDeque", "elements", "[Ljava/lang/Object;", (.ref dr)), ("java/util/ArrayDeque", "tail", "I", (.int t1)), ("java/util/ArrayDeque", "head", "I", (.int h1))]), (eA dr (.object "java/lang/Object") v1), (eO u0 "com/example/deadletter/deadletter/worker/WaitingJobs" [("com/example/deadletter/deadletter/worker/WaitingJobs", "ready", "Ljava/util/Deque;", (.ref r)), ("com/example/deadletter/deadletter/worker/WaitingJobs", "toCount", "Ljava/util/Deque;", (.ref k)), ("com/example/deadletter/deadletter/worker/WaitingJobs", "takenOver", "Lcom/example/deadletter/deadletter/job/Job;", tv)]), (eO k "java/util/ArrayDeque" [("java/util/ArrayDeque", "elements", "[Ljava/lang/Object;", (.ref dk)), ("java/util/ArrayDeque", "tail", "I", (.int t2)), ("java/util/ArrayDeque", "head", "I", (.int h2))]), (eA dk (.object "java/lang/Object") v2)] ++ F) := OHere.pick H1 [1, 2, 0, 3, 4] (by decide) rfl
  obtain ⟨T3, _, _, ⟨rfl, rfl⟩, H3, st3⟩ := OHere.face Hp2 hx hZ (y := (⟨"java/util/Deque", "size", "()I"⟩ : MethodName)) (z := (⟨"java/util/ArrayDeque", "size", "()I"⟩ : MethodName)) (W := 0) (a := r) (q := 0) (fs := [("java/util/ArrayDeque", "elements", "[Ljava/lang/Object;", (.ref dr)), ("java/util/ArrayDeque", "tail", "I", (.int t1)), ("java/util/ArrayDeque", "head", "I", (.int h1))]) hown (tWd hw 114 rfl) (tWd hw 115 rfl) (tWd hw 116 rfl) rfl (tWd hw 117 rfl) (tWd hw 118 rfl) (tWd hw 119 rfl) (tWd hw 120 rfl) (tWd hw 121 rfl) (tWd hw 96 rfl) (tWd hw 122 rfl) (by decide) rfl (conADs l Z a0 hw n0 [] r ([(eO u0 "com/example/deadletter/deadletter/worker/WaitingJobs" [("com/example/deadletter/deadletter/worker/WaitingJobs", "ready", "Ljava/util/Deque;", (.ref r)), ("com/example/deadletter/deadletter/worker/WaitingJobs", "toCount", "Ljava/util/Deque;", (.ref k)), ("com/example/deadletter/deadletter/worker/WaitingJobs", "takenOver", "Lcom/example/deadletter/deadletter/job/Job;", tv)]), (eO k "java/util/ArrayDeque" [("java/util/ArrayDeque", "elements", "[Ljava/lang/Object;", (.ref dk)), ("java/util/ArrayDeque", "tail", "I", (.int t2)), ("java/util/ArrayDeque", "head", "I", (.int h2))]), (eA dk (.object "java/lang/Object") v2)] ++ F) dr v1 t1 h1 r1 hv1 hr1) (by decide) (by decide) (pc := 4) (Ls := #[vR u0]) (argsL := []) (rest := []) (by rw [hml]; rfl) (lenOf pd_ocI rfl) rfl (Nat.le_of_eq rfl) (hb hby d13_4) (by decide) (by decide)
  replace H3 : OHere p l e _ s m _ below meth c Z n0 0 T3 0 0 ([(eO r "java/util/ArrayDeque" [("java/util/ArrayDeque", "elements", "[Ljava/lang/Object;", (.ref dr)), ("java/util/ArrayDeque", "tail", "I", (.int t1)), ("java/util/ArrayDeque", "head", "I", (.int h1))]), (eA dr (.object "java/lang/Object") v1), (eO u0 "com/example/deadletter/deadletter/worker/WaitingJobs" [("com/example/deadletter/deadletter/worker/WaitingJobs", "ready", "Ljava/util/Deque;", (.ref r)), ("com/example/deadletter/deadletter/worker/WaitingJobs", "toCount", "Ljava/util/Deque;", (.ref k)), ("com/example/deadletter/deadletter/worker/WaitingJobs", "takenOver", "Lcom/example/deadletter/deadletter/job/Job;", tv)]), (eO k "java/util/ArrayDeque" [("java/util/ArrayDeque", "elements", "[Ljava/lang/Object;", (.ref dk)), ("java/util/ArrayDeque", "tail", "I", (.int t2)), ("java/util/ArrayDeque", "head", "I", (.int h2))]), (eA dk (.object "java/lang/Object") v2)] ++ F) := H3
  refine OEnds.pre (fun t_ k_ => st3 _ k_) ?_
  show OEnds p e below s _ _ _ (T3.setTop (mkF m 9 #[vR u0] [(.int r1)]))
  refine OEnds.pre (fun t_ k_ => XS.aloadN H3.here hx rfl (hb hby d13_9) rfl rfl k_) ?_
  show OEnds p e below s _ _ _ (T3.setTop (mkF m 10 #[vR u0] [(.ref u0), (.int r1)]))
  obtain ⟨T4, H4, st4⟩ := OHere.getfield H3 hx hZ (O := "com/example/deadletter/deadletter/worker/WaitingJobs") (q := 2) (f := 1) (v := (.ref k)) (fs := [("com/example/deadletter/deadletter/worker/WaitingJobs", "ready", "Ljava/util/Deque;", (.ref r)), ("com/example/deadletter/deadletter/worker/WaitingJobs", "toCount", "Ljava/util/Deque;", (.ref k)), ("com/example/deadletter/deadletter/worker/WaitingJobs", "takenOver", "Lcom/example/deadletter/deadletter/job/Job;", tv)]) (C := "com/example/deadletter/deadletter/worker/WaitingJobs") (pc := 10) (Ls := #[vR u0]) (rest := [(.int r1)]) hown (tWd hw 107 rfl) Via.refl rfl rfl (hb hby d13_10)
  replace H4 : OHere p l e _ s m _ below meth c Z n0 0 T4 0 0 ([(eO r "java/util/ArrayDeque" [("java/util/ArrayDeque", "elements", "[Ljava/lang/Object;", (.ref dr)), ("java/util/ArrayDeque", "tail", "I", (.int t1)), ("java/util/ArrayDeque", "head", "I", (.int h1))]), (eA dr (.object "java/lang/Object") v1), (eO u0 "com/example/deadletter/deadletter/worker/WaitingJobs" [("com/example/deadletter/deadletter/worker/WaitingJobs", "ready", "Ljava/util/Deque;", (.ref r)), ("com/example/deadletter/deadletter/worker/WaitingJobs", "toCount", "Ljava/util/Deque;", (.ref k)), ("com/example/deadletter/deadletter/worker/WaitingJobs", "takenOver", "Lcom/example/deadletter/deadletter/job/Job;", tv)]), (eO k "java/util/ArrayDeque" [("java/util/ArrayDeque", "elements", "[Ljava/lang/Object;", (.ref dk)), ("java/util/ArrayDeque", "tail", "I", (.int t2)), ("java/util/ArrayDeque", "head", "I", (.int h2))]), (eA dk (.object "java/lang/Object") v2)] ++ F) := H4
  refine OEnds.pre (fun t_ k_ => st4 _ k_) ?_
  show OEnds p e below s _ _ _ (T4.setTop (mkF m 13 #[vR u0] [(.ref k), (.int r1)]))
  have Hp5 : OHere p l e _ s m _ below meth c Z n0 0 T4 0 0 ([(eO k "java/util/ArrayDeque" [("java/util/ArrayDeque", "elements", "[Ljava/lang/Object;", (.ref dk)), ("java/util/ArrayDeque", "tail", "I", (.int t2)), ("java/util/ArrayDeque", "head", "I", (.int h2))]), (eA dk (.object "java/lang/Object") v2), (eO r "java/util/ArrayDeque" [("java/util/ArrayDeque", "elements", "[Ljava/lang/Object;", (.ref dr)), ("java/util/ArrayDeque", "tail", "I", (.int t1)), ("java/util/ArrayDeque", "head", "I", (.int h1))]), (eA dr (.object "java/lang/Object") v1), (eO u0 "com/example/deadletter/deadletter/worker/WaitingJobs" [("com/example/deadletter/deadletter/worker/WaitingJobs", "ready", "Ljava/util/Deque;", (.ref r)), ("com/example/deadletter/deadletter/worker/WaitingJobs", "toCount", "Ljava/util/Deque;", (.ref k)), ("com/example/deadletter/deadletter/worker/WaitingJobs", "takenOver", "Lcom/example/deadletter/deadletter/job/Job;", tv)])] ++ F) := OHere.pick H4 [3, 4, 0, 1, 2] (by decide) rfl
  obtain ⟨T6, _, _, ⟨rfl, rfl⟩, H6, st6⟩ := OHere.face Hp5 hx hZ (y := (⟨"java/util/Deque", "size", "()I"⟩ : MethodName)) (z := (⟨"java/util/ArrayDeque", "size", "()I"⟩ : MethodName)) (W := 1) (a := k) (q := 0) (fs := [("java/util/ArrayDeque", "elements", "[Ljava/lang/Object;", (.ref dk)), ("java/util/ArrayDeque", "tail", "I", (.int t2)), ("java/util/ArrayDeque", "head", "I", (.int h2))]) hown (tWd hw 114 rfl) (tWd hw 115 rfl) (tWd hw 116 rfl) rfl (tWd hw 117 rfl) (tWd hw 118 rfl) (tWd hw 119 rfl) (tWd hw 120 rfl) (tWd hw 121 rfl) (tWd hw 96 rfl) (tWd hw 122 rfl) (by decide) rfl (conADs l Z a0 hw n0 [] k ([(eO r "java/util/ArrayDeque" [("java/util/ArrayDeque", "elements", "[Ljava/lang/Object;", (.ref dr)), ("java/util/ArrayDeque", "tail", "I", (.int t1)), ("java/util/ArrayDeque", "head", "I", (.int h1))]), (eA dr (.object "java/lang/Object") v1), (eO u0 "com/example/deadletter/deadletter/worker/WaitingJobs" [("com/example/deadletter/deadletter/worker/WaitingJobs", "ready", "Ljava/util/Deque;", (.ref r)), ("com/example/deadletter/deadletter/worker/WaitingJobs", "toCount", "Ljava/util/Deque;", (.ref k)), ("com/example/deadletter/deadletter/worker/WaitingJobs", "takenOver", "Lcom/example/deadletter/deadletter/job/Job;", tv)])] ++ F) dk v2 t2 h2 r2 hv2 hr2) (by decide) (by decide) (pc := 13) (Ls := #[vR u0]) (argsL := []) (rest := [(.int r1)]) (by rw [hml]; rfl) (lenOf pd_ocI rfl) rfl (Nat.le_of_eq rfl) (hb hby d13_13) (by decide) (by decide)
  replace H6 : OHere p l e _ s m _ below meth c Z n0 0 T6 0 0 ([(eO k "java/util/ArrayDeque" [("java/util/ArrayDeque", "elements", "[Ljava/lang/Object;", (.ref dk)), ("java/util/ArrayDeque", "tail", "I", (.int t2)), ("java/util/ArrayDeque", "head", "I", (.int h2))]), (eA dk (.object "java/lang/Object") v2), (eO r "java/util/ArrayDeque" [("java/util/ArrayDeque", "elements", "[Ljava/lang/Object;", (.ref dr)), ("java/util/ArrayDeque", "tail", "I", (.int t1)), ("java/util/ArrayDeque", "head", "I", (.int h1))]), (eA dr (.object "java/lang/Object") v1), (eO u0 "com/example/deadletter/deadletter/worker/WaitingJobs" [("com/example/deadletter/deadletter/worker/WaitingJobs", "ready", "Ljava/util/Deque;", (.ref r)), ("com/example/deadletter/deadletter/worker/WaitingJobs", "toCount", "Ljava/util/Deque;", (.ref k)), ("com/example/deadletter/deadletter/worker/WaitingJobs", "takenOver", "Lcom/example/deadletter/deadletter/job/Job;", tv)])] ++ F) := H6
  refine OEnds.pre (fun t_ k_ => st6 _ k_) ?_
  show OEnds p e below s _ _ _ (T6.setTop (mkF m 18 #[vR u0] [(.int r2), (.int r1)]))
  refine OEnds.pre (fun t_ k_ => XS.iadd H6.here hx rfl (hb hby d13_18) rfl k_) ?_
  show OEnds p e below s _ _ _ (T6.setTop (mkF m 19 #[vR u0] [(.int (r1 + r2))]))
  refine OEnds.pre (fun t_ k_ => XS.aloadN H6.here hx rfl (hb hby d13_19) rfl rfl k_) ?_
  show OEnds p e below s _ _ _ (T6.setTop (mkF m 20 #[vR u0] [(.ref u0), (.int (r1 + r2))]))
  obtain ⟨T7, H7, st7⟩ := OHere.getfield H6 hx hZ (O := "com/example/deadletter/deadletter/worker/WaitingJobs") (q := 4) (f := 2) (v := tv) (fs := [("com/example/deadletter/deadletter/worker/WaitingJobs", "ready", "Ljava/util/Deque;", (.ref r)), ("com/example/deadletter/deadletter/worker/WaitingJobs", "toCount", "Ljava/util/Deque;", (.ref k)), ("com/example/deadletter/deadletter/worker/WaitingJobs", "takenOver", "Lcom/example/deadletter/deadletter/job/Job;", tv)]) (C := "com/example/deadletter/deadletter/worker/WaitingJobs") (pc := 20) (Ls := #[vR u0]) (rest := [(.int (r1 + r2))]) hown (tWd hw 130 rfl) Via.refl rfl rfl (hb hby d13_20)
  replace H7 : OHere p l e _ s m _ below meth c Z n0 0 T7 0 0 ([(eO k "java/util/ArrayDeque" [("java/util/ArrayDeque", "elements", "[Ljava/lang/Object;", (.ref dk)), ("java/util/ArrayDeque", "tail", "I", (.int t2)), ("java/util/ArrayDeque", "head", "I", (.int h2))]), (eA dk (.object "java/lang/Object") v2), (eO r "java/util/ArrayDeque" [("java/util/ArrayDeque", "elements", "[Ljava/lang/Object;", (.ref dr)), ("java/util/ArrayDeque", "tail", "I", (.int t1)), ("java/util/ArrayDeque", "head", "I", (.int h1))]), (eA dr (.object "java/lang/Object") v1), (eO u0 "com/example/deadletter/deadletter/worker/WaitingJobs" [("com/example/deadletter/deadletter/worker/WaitingJobs", "ready", "Ljava/util/Deque;", (.ref r)), ("com/example/deadletter/deadletter/worker/WaitingJobs", "toCount", "Ljava/util/Deque;", (.ref k)), ("com/example/deadletter/deadletter/worker/WaitingJobs", "takenOver", "Lcom/example/deadletter/deadletter/job/Job;", tv)])] ++ F) := H7
  refine OEnds.pre (fun t_ k_ => st7 _ k_) ?_
  show OEnds p e below s _ _ _ (T7.setTop (mkF m 23 #[vR u0] [tv, (.int (r1 + r2))]))
  rcases ref_cases htv with rfl | ⟨y, rfl⟩
  · refine OEnds.pre (fun t_ k_ => XT.ifnonnullNo H7.here hx rfl (hb hby d13_23) rfl k_) ?_
    show OEnds p e below s _ _ _ (T7.setTop (mkF m 26 #[vR u0] [(.int (r1 + r2))]))
    refine OEnds.pre (fun t_ k_ => XT.iconstV H7.here hx rfl (0 : Int32) (hb hby d13_26) rfl k_) ?_
    show OEnds p e below s _ _ _ (T7.setTop (mkF m 27 #[vR u0] [(.int (0 : Int32)), (.int (r1 + r2))]))
    refine OEnds.pre (fun t_ k_ => XS.goto H7.here hx rfl (pc0 := 27) (pc' := 31) rfl (hb hby d13_27) (by decide) (by decide) k_) ?_
    show OEnds p e below s _ _ _ (T7.setTop (mkF m 31 #[vR u0] [(.int (0 : Int32)), (.int (r1 + r2))]))
    refine OEnds.pre (fun t_ k_ => XS.iadd H7.here hx rfl (hb hby d13_31) rfl k_) ?_
    show OEnds p e below s _ _ _ (T7.setTop (mkF m 32 #[vR u0] [(.int ((r1 + r2) + (0 : Int32)))]))
    have Hq8 : OHere p l e _ s m _ below meth c Z n0 0 T7 0 0 ([(eO u0 "com/example/deadletter/deadletter/worker/WaitingJobs" [("com/example/deadletter/deadletter/worker/WaitingJobs", "ready", "Ljava/util/Deque;", (.ref r)), ("com/example/deadletter/deadletter/worker/WaitingJobs", "toCount", "Ljava/util/Deque;", (.ref k)), ("com/example/deadletter/deadletter/worker/WaitingJobs", "takenOver", "Lcom/example/deadletter/deadletter/job/Job;", .null)]), (eO r "java/util/ArrayDeque" [("java/util/ArrayDeque", "elements", "[Ljava/lang/Object;", (.ref dr)), ("java/util/ArrayDeque", "tail", "I", (.int t1)), ("java/util/ArrayDeque", "head", "I", (.int h1))]), (eA dr (.object "java/lang/Object") v1), (eO k "java/util/ArrayDeque" [("java/util/ArrayDeque", "elements", "[Ljava/lang/Object;", (.ref dk)), ("java/util/ArrayDeque", "tail", "I", (.int t2)), ("java/util/ArrayDeque", "head", "I", (.int h2))]), (eA dk (.object "java/lang/Object") v2)] ++ F) := OHere.pick H7 [4, 2, 3, 0, 1] (by decide) rfl
    exact Hq8.int hx Bd.notSynchronized Bd.returns (hb hby d13_32) (by decide) (by decide) (fun h L W N => ⟨N, _, ⟨rfl, rfl⟩, W⟩)
  · refine OEnds.pre (fun t_ k_ => XT.ifnonnullYes H7.here hx rfl (pc0 := 23) (pc' := 30) rfl (hb hby d13_23) rfl (by decide) (by decide) k_) ?_
    show OEnds p e below s _ _ _ (T7.setTop (mkF m 30 #[vR u0] [(.int (r1 + r2))]))
    refine OEnds.pre (fun t_ k_ => XT.iconstV H7.here hx rfl (1 : Int32) (hb hby d13_30) rfl k_) ?_
    show OEnds p e below s _ _ _ (T7.setTop (mkF m 31 #[vR u0] [(.int (1 : Int32)), (.int (r1 + r2))]))
    refine OEnds.pre (fun t_ k_ => XS.iadd H7.here hx rfl (hb hby d13_31) rfl k_) ?_
    show OEnds p e below s _ _ _ (T7.setTop (mkF m 32 #[vR u0] [(.int ((r1 + r2) + (1 : Int32)))]))
    have Hq9 : OHere p l e _ s m _ below meth c Z n0 0 T7 0 0 ([(eO u0 "com/example/deadletter/deadletter/worker/WaitingJobs" [("com/example/deadletter/deadletter/worker/WaitingJobs", "ready", "Ljava/util/Deque;", (.ref r)), ("com/example/deadletter/deadletter/worker/WaitingJobs", "toCount", "Ljava/util/Deque;", (.ref k)), ("com/example/deadletter/deadletter/worker/WaitingJobs", "takenOver", "Lcom/example/deadletter/deadletter/job/Job;", (.ref y))]), (eO r "java/util/ArrayDeque" [("java/util/ArrayDeque", "elements", "[Ljava/lang/Object;", (.ref dr)), ("java/util/ArrayDeque", "tail", "I", (.int t1)), ("java/util/ArrayDeque", "head", "I", (.int h1))]), (eA dr (.object "java/lang/Object") v1), (eO k "java/util/ArrayDeque" [("java/util/ArrayDeque", "elements", "[Ljava/lang/Object;", (.ref dk)), ("java/util/ArrayDeque", "tail", "I", (.int t2)), ("java/util/ArrayDeque", "head", "I", (.int h2))]), (eA dk (.object "java/lang/Object") v2)] ++ F) := OHere.pick H7 [4, 2, 3, 0, 1] (by decide) rfl
    exact Hq9.int hx Bd.notSynchronized Bd.returns (hb hby d13_32) (by decide) (by decide) (fun h L W N => ⟨N, _, ⟨rfl, rfl⟩, W⟩)
theorem pd_ocLjava_lang_Object_ : parseMethodDescriptor "()Ljava/lang/Object;" = some ⟨[], some (.object "java/lang/Object")⟩ := by decide +kernel
theorem pd_oLjava_lang_Object_cV : parseMethodDescriptor "(Ljava/lang/Object;)V" = some ⟨[(.object "java/lang/Object")], none⟩ := by decide +kernel
theorem pd_oLjava_lang_Object_cZ : parseMethodDescriptor "(Ljava/lang/Object;)Z" = some ⟨[(.object "java/lang/Object")], some .boolean⟩ := by decide +kernel
theorem pd_oALjava_lang_Object_IcLjava_lang_Object_ : parseMethodDescriptor "([Ljava/lang/Object;I)Ljava/lang/Object;" = some ⟨[(.array (.object "java/lang/Object")), .int], some (.object "java/lang/Object")⟩ := by decide +kernel
theorem inc_k : ∀ k < 16, f32 (k : Nat).toInt32 17 = (k + 1).toInt32 := by decide
theorem inc_0 : f32 0 17 = 1 := by decide
theorem k_ne0 : ∀ k < 16, ¬ (0 : Int32) = ((k : Nat) + 1).toInt32 := by decide
theorem d31_0 : decode jdk_21_method_13_code 0 = .ok (.aload_n 1, 1) := by decide +kernel
theorem d31_1 : decode jdk_21_method_13_code 1 = .ok (.ifnonnull 11, 3) := by decide +kernel
theorem d31_4 : decode jdk_21_method_13_code 4 = .ok (.new 65, 3) := by decide +kernel
theorem d31_7 : decode jdk_21_method_13_code 7 = .ok (.dup, 1) := by decide +kernel
theorem d31_8 : decode jdk_21_method_13_code 8 = .ok (.invokespecial 67, 3) := by decide +kernel
theorem d31_11 : decode jdk_21_method_13_code 11 = .ok (.athrow, 1) := by decide +kernel
theorem d31_12 : decode jdk_21_method_13_code 12 = .ok (.aload_n 0, 1) := by decide +kernel
theorem d31_13 : decode jdk_21_method_13_code 13 = .ok (.getfield 3, 3) := by decide +kernel
theorem d31_16 : decode jdk_21_method_13_code 16 = .ok (.astore_n 2, 1) := by decide +kernel
theorem d31_17 : decode jdk_21_method_13_code 17 = .ok (.aload_n 2, 1) := by decide +kernel
theorem d31_18 : decode jdk_21_method_13_code 18 = .ok (.aload_n 0, 1) := by decide +kernel
theorem d31_19 : decode jdk_21_method_13_code 19 = .ok (.getfield 20, 3) := by decide +kernel
theorem d31_22 : decode jdk_21_method_13_code 22 = .ok (.aload_n 1, 1) := by decide +kernel
theorem d31_23 : decode jdk_21_method_13_code 23 = .ok (.aastore, 1) := by decide +kernel
theorem d31_24 : decode jdk_21_method_13_code 24 = .ok (.aload_n 0, 1) := by decide +kernel
theorem d31_25 : decode jdk_21_method_13_code 25 = .ok (.getfield 24, 3) := by decide +kernel
theorem d31_28 : decode jdk_21_method_13_code 28 = .ok (.aload_n 0, 1) := by decide +kernel
theorem d31_29 : decode jdk_21_method_13_code 29 = .ok (.aload_n 0, 1) := by decide +kernel
theorem d31_30 : decode jdk_21_method_13_code 30 = .ok (.getfield 20, 3) := by decide +kernel
theorem d31_33 : decode jdk_21_method_13_code 33 = .ok (.aload_n 2, 1) := by decide +kernel
theorem d31_34 : decode jdk_21_method_13_code 34 = .ok (.arraylength, 1) := by decide +kernel
theorem d31_35 : decode jdk_21_method_13_code 35 = .ok (.invokestatic 74, 3) := by decide +kernel
theorem d31_38 : decode jdk_21_method_13_code 38 = .ok (.dup_x1, 1) := by decide +kernel
theorem d31_39 : decode jdk_21_method_13_code 39 = .ok (.putfield 20, 3) := by decide +kernel
theorem d31_42 : decode jdk_21_method_13_code 42 = .ok (.if_icmp .ne 8, 3) := by decide +kernel
theorem d31_45 : decode jdk_21_method_13_code 45 = .ok (.aload_n 0, 1) := by decide +kernel
theorem d31_46 : decode jdk_21_method_13_code 46 = .ok (.iconst 1, 1) := by decide +kernel
theorem d31_47 : decode jdk_21_method_13_code 47 = .ok (.invokevirtual 71, 3) := by decide +kernel
theorem d31_50 : decode jdk_21_method_13_code 50 = .ok (.return_, 1) := by decide +kernel
theorem pn_31 : plainFor (⟨"java/util/ArrayDeque", "addLast", "(Ljava/lang/Object;)V"⟩ : MethodName) = true := by first | exact plainFor_of_name (by first | (simp [plainName, overriddenIn]; done) | decide +kernel) | decide +kernel
theorem ef_31 (m : MethodId) (x0 : Addr) (x1 : Addr) : entryFrame m #[(.ref x0), (.ref x1)] 3 = mkF m 0 #[.val (.ref x0), .val (.ref x1), .unset] [] := by first | (simp [entryFrame, mkF, argsToLocals, Value.category]; done) | rfl
set_option maxRecDepth 65536 in
set_option maxHeartbeats 40000000 in
theorem conAL (l : Launch) (Z : State) (a0 : Array Value) (hw : ∀ d ∈ tables_1, d.before a0 Z = true) (n0 : Nat) (ws : List Jvm.Cond) (u0 : Addr) (F : List OEnt) (x : Addr) (fx : List OFEnt) (hxF : eO x "com/example/deadletter/deadletter/job/Job" fx ∈ F) (d : Addr) (vs : List Value) (k : Nat) (hv : vs.length = 17) (hk : k < 16) :
    OCon l Z n0 (⟨"java/util/ArrayDeque", "addLast", "(Ljava/lang/Object;)V"⟩ : MethodName) jdk_21_method_13_code 3 none ws ({ frames := 1, cells := 0, slots := 0, locals := 15 } : Room) #[(.ref u0), (.ref x)] ([(eO u0 "java/util/ArrayDeque" [("java/util/ArrayDeque", "elements", "[Ljava/lang/Object;", (.ref d)), ("java/util/ArrayDeque", "tail", "I", (.int (k).toInt32)), ("java/util/ArrayDeque", "head", "I", (.int (0 : Int32)))]), (eA d (.object "java/lang/Object") vs)] ++ F) (fun v' es' => v' = none ∧ es' = ([(eO u0 "java/util/ArrayDeque" [("java/util/ArrayDeque", "elements", "[Ljava/lang/Object;", (.ref d)), ("java/util/ArrayDeque", "tail", "I", (.int (k + 1).toInt32)), ("java/util/ArrayDeque", "head", "I", (.int (0 : Int32)))]), (eA d (.object "java/lang/Object") (vs.set k (.ref x)))] ++ F)) := by
  intro h0 hW0
  refine MetFree.of_bodySF pn_31 hisR ?_
  intro p e s m args below meth c s₁ Bd hml0 hP hK
  obtain ⟨rfl, hZ, hh⟩ := hP
  have hx := Bd.exec
  have hby := Bd.bytes
  have hml : c.maxLocals = 3 := hml0
  have hown : s.vm.findClass "java/util/ArrayDeque" = some m.cls := findClass_of_methodNamed Bd.named
  have hnm := (name_of_methodNamed Bd.named Bd.method).1
  have H0 : OHere p l e ({ frames := 1, cells := 0, slots := 0, locals := 15 } : Room) s m #[(.ref u0), (.ref x)] below meth c Z n0 0 s₁ 0 0 ([(eO u0 "java/util/ArrayDeque" [("java/util/ArrayDeque", "elements", "[Ljava/lang/Object;", (.ref d)), ("java/util/ArrayDeque", "tail", "I", (.int (k).toInt32)), ("java/util/ArrayDeque", "head", "I", (.int (0 : Int32)))]), (eA d (.object "java/lang/Object") vs)] ++ F) := ⟨[], Stand.of_body Bd, by rw [show s₁.heap = h0 from by rw [← hh, Bd.state]; rfl]; exact hW0, Fr.nil _, Nat.zero_le _⟩
  show OEnds p e below s _ _ (fun v' h' L => Fr n0 L ∧ ∃ es', (fun v' es' => v' = none ∧ es' = ([(eO u0 "java/util/ArrayDeque" [("java/util/ArrayDeque", "elements", "[Ljava/lang/Object;", (.ref d)), ("java/util/ArrayDeque", "tail", "I", (.int (k + 1).toInt32)), ("java/util/ArrayDeque", "head", "I", (.int (0 : Int32)))]), (eA d (.object "java/lang/Object") (vs.set k (.ref x)))] ++ F)) v' es' ∧ OWorld Z n0 h' es') _
  refine OEnds.pre (fun t k => castTop (ef_31 m u0 x) k) ?_
  show OEnds p e below s _ _ _ (s₁.setTop (mkF m 0 #[vR u0, vR x, uN] []))
  refine OEnds.pre (fun t_ k_ => XS.aloadN H0.here hx rfl (hb hby d31_0) rfl rfl k_) ?_
  show OEnds p e below s _ _ _ (s₁.setTop (mkF m 1 #[vR u0, vR x, uN] [(.ref x)]))
  refine OEnds.pre (fun t_ k_ => XT.ifnonnullYes H0.here hx rfl (pc0 := 1) (pc' := 12) rfl (hb hby d31_1) rfl (by decide) (by decide) k_) ?_
  show OEnds p e below s _ _ _ (s₁.setTop (mkF m 12 #[vR u0, vR x, uN] []))
  refine OEnds.pre (fun t_ k_ => XS.aloadN H0.here hx rfl (hb hby d31_12) rfl rfl k_) ?_
  show OEnds p e below s _ _ _ (s₁.setTop (mkF m 13 #[vR u0, vR x, uN] [(.ref u0)]))
  obtain ⟨T1, H1, st1⟩ := OHere.getfield H0 hx hZ (O := "java/util/ArrayDeque") (q := 0) (f := 0) (v := (.ref d)) (fs := [("java/util/ArrayDeque", "elements", "[Ljava/lang/Object;", (.ref d)), ("java/util/ArrayDeque", "tail", "I", (.int (k).toInt32)), ("java/util/ArrayDeque", "head", "I", (.int (0 : Int32)))]) (C := "java/util/ArrayDeque") (pc := 13) (Ls := #[vR u0, vR x, uN]) (rest := []) hown (tWd hw 103 rfl) Via.refl rfl rfl (hb hby d31_13)
  replace H1 : OHere p l e _ s m _ below meth c Z n0 0 T1 0 0 ([(eO u0 "java/util/ArrayDeque" [("java/util/ArrayDeque", "elements", "[Ljava/lang/Object;", (.ref d)), ("java/util/ArrayDeque", "tail", "I", (.int (k).toInt32)), ("java/util/ArrayDeque", "head", "I", (.int (0 : Int32)))]), (eA d (.object "java/lang/Object") vs)] ++ F) := H1
  refine OEnds.pre (fun t_ k_ => st1 _ k_) ?_
  show OEnds p e below s _ _ _ (T1.setTop (mkF m 16 #[vR u0, vR x, uN] [(.ref d)]))
  refine OEnds.pre (fun t_ k_ => XS.astoreN H1.here hx rfl (hb hby d31_16) rfl rfl (l' := #[vR u0, vR x, vR d]) rfl k_) ?_
  show OEnds p e below s _ _ _ (T1.setTop (mkF m 17 #[vR u0, vR x, vR d] []))
  refine OEnds.pre (fun t_ k_ => XS.aloadN H1.here hx rfl (hb hby d31_17) rfl rfl k_) ?_
  show OEnds p e below s _ _ _ (T1.setTop (mkF m 18 #[vR u0, vR x, vR d] [(.ref d)]))
  refine OEnds.pre (fun t_ k_ => XS.aloadN H1.here hx rfl (hb hby d31_18) rfl rfl k_) ?_
  show OEnds p e below s _ _ _ (T1.setTop (mkF m 19 #[vR u0, vR x, vR d] [(.ref u0), (.ref d)]))
  obtain ⟨T2, H2, st2⟩ := OHere.getfield H1 hx hZ (O := "java/util/ArrayDeque") (q := 0) (f := 1) (v := (.int (k).toInt32)) (fs := [("java/util/ArrayDeque", "elements", "[Ljava/lang/Object;", (.ref d)), ("java/util/ArrayDeque", "tail", "I", (.int (k).toInt32)), ("java/util/ArrayDeque", "head", "I", (.int (0 : Int32)))]) (C := "java/util/ArrayDeque") (pc := 19) (Ls := #[vR u0, vR x, vR d]) (rest := [(.ref d)]) hown (tWd hw 123 rfl) Via.refl rfl rfl (hb hby d31_19)
  replace H2 : OHere p l e _ s m _ below meth c Z n0 0 T2 0 0 ([(eO u0 "java/util/ArrayDeque" [("java/util/ArrayDeque", "elements", "[Ljava/lang/Object;", (.ref d)), ("java/util/ArrayDeque", "tail", "I", (.int (k).toInt32)), ("java/util/ArrayDeque", "head", "I", (.int (0 : Int32)))]), (eA d (.object "java/lang/Object") vs)] ++ F) := H2
  refine OEnds.pre (fun t_ k_ => st2 _ k_) ?_
  show OEnds p e below s _ _ _ (T2.setTop (mkF m 22 #[vR u0, vR x, vR d] [(.int (k).toInt32), (.ref d)]))
  refine OEnds.pre (fun t_ k_ => XS.aloadN H2.here hx rfl (hb hby d31_22) rfl rfl k_) ?_
  show OEnds p e below s _ _ _ (T2.setTop (mkF m 23 #[vR u0, vR x, vR d] [(.ref x), (.int (k).toInt32), (.ref d)]))
  obtain ⟨T3, H3, st3⟩ := OHere.aastore H2 hx hZ (q := 1) (i := k) (vs := vs) (v := (.ref x)) (j := (k).toInt32) (pc := 23) (Ls := #[vR u0, vR x, vR d]) (rest := []) (C := "java/lang/Object") rfl (k_nneg k (by omega)) (k_at k (by omega)) (by omega) (Or.inr ⟨_, _, _, _, (memAt hxF).choose_spec, rfl, (tWd hw 86 rfl)⟩) (hb hby d31_23)
  replace H3 : OHere p l e _ s m _ below meth c Z n0 0 T3 0 0 ([(eO u0 "java/util/ArrayDeque" [("java/util/ArrayDeque", "elements", "[Ljava/lang/Object;", (.ref d)), ("java/util/ArrayDeque", "tail", "I", (.int (k).toInt32)), ("java/util/ArrayDeque", "head", "I", (.int (0 : Int32)))]), (eA d (.object "java/lang/Object") (vs.set k (.ref x)))] ++ F) := H3
  refine OEnds.pre (fun t_ k_ => st3 _ k_) ?_
  show OEnds p e below s _ _ _ (T3.setTop (mkF m 24 #[vR u0, vR x, vR d] []))
  refine OEnds.pre (fun t_ k_ => XS.aloadN H3.here hx rfl (hb hby d31_24) rfl rfl k_) ?_
  show OEnds p e below s _ _ _ (T3.setTop (mkF m 25 #[vR u0, vR x, vR d] [(.ref u0)]))
  obtain ⟨T4, H4, st4⟩ := OHere.getfield H3 hx hZ (O := "java/util/ArrayDeque") (q := 0) (f := 2) (v := (.int (0 : Int32))) (fs := [("java/util/ArrayDeque", "elements", "[Ljava/lang/Object;", (.ref d)), ("java/util/ArrayDeque", "tail", "I", (.int (k).toInt32)), ("java/util/ArrayDeque", "head", "I", (.int (0 : Int32)))]) (C := "java/util/ArrayDeque") (pc := 25) (Ls := #[vR u0, vR x, vR d]) (rest := []) hown (tWd hw 125 rfl) Via.refl rfl rfl (hb hby d31_25)
  replace H4 : OHere p l e _ s m _ below meth c Z n0 0 T4 0 0 ([(eO u0 "java/util/ArrayDeque" [("java/util/ArrayDeque", "elements", "[Ljava/lang/Object;", (.ref d)), ("java/util/ArrayDeque", "tail", "I", (.int (k).toInt32)), ("java/util/ArrayDeque", "head", "I", (.int (0 : Int32)))]), (eA d (.object "java/lang/Object") (vs.set k (.ref x)))] ++ F) := H4
  refine OEnds.pre (fun t_ k_ => st4 _ k_) ?_
  show OEnds p e below s _ _ _ (T4.setTop (mkF m 28 #[vR u0, vR x, vR d] [(.int (0 : Int32))]))
  refine OEnds.pre (fun t_ k_ => XS.aloadN H4.here hx rfl (hb hby d31_28) rfl rfl k_) ?_
  show OEnds p e below s _ _ _ (T4.setTop (mkF m 29 #[vR u0, vR x, vR d] [(.ref u0), (.int (0 : Int32))]))
  refine OEnds.pre (fun t_ k_ => XS.aloadN H4.here hx rfl (hb hby d31_29) rfl rfl k_) ?_
  show OEnds p e below s _ _ _ (T4.setTop (mkF m 30 #[vR u0, vR x, vR d] [(.ref u0), (.ref u0), (.int (0 : Int32))]))
  obtain ⟨T5, H5, st5⟩ := OHere.getfield H4 hx hZ (O := "java/util/ArrayDeque") (q := 0) (f := 1) (v := (.int (k).toInt32)) (fs := [("java/util/ArrayDeque", "elements", "[Ljava/lang/Object;", (.ref d)), ("java/util/ArrayDeque", "tail", "I", (.int (k).toInt32)), ("java/util/ArrayDeque", "head", "I", (.int (0 : Int32)))]) (C := "java/util/ArrayDeque") (pc := 30) (Ls := #[vR u0, vR x, vR d]) (rest := [(.ref u0), (.int (0 : Int32))]) hown (tWd hw 123 rfl) Via.refl rfl rfl (hb hby d31_30)
  replace H5 : OHere p l e _ s m _ below meth c Z n0 0 T5 0 0 ([(eO u0 "java/util/ArrayDeque" [("java/util/ArrayDeque", "elements", "[Ljava/lang/Object;", (.ref d)), ("java/util/ArrayDeque", "tail", "I", (.int (k).toInt32)), ("java/util/ArrayDeque", "head", "I", (.int (0 : Int32)))]), (eA d (.object "java/lang/Object") (vs.set k (.ref x)))] ++ F) := H5
  refine OEnds.pre (fun t_ k_ => st5 _ k_) ?_
  show OEnds p e below s _ _ _ (T5.setTop (mkF m 33 #[vR u0, vR x, vR d] [(.int (k).toInt32), (.ref u0), (.int (0 : Int32))]))
  refine OEnds.pre (fun t_ k_ => XS.aloadN H5.here hx rfl (hb hby d31_33) rfl rfl k_) ?_
  show OEnds p e below s _ _ _ (T5.setTop (mkF m 34 #[vR u0, vR x, vR d] [(.ref d), (.int (k).toInt32), (.ref u0), (.int (0 : Int32))]))
  refine OEnds.pre (fun t_ k_ => OHere.len H5 hx hZ (q := 1) (vs := (vs.set k (.ref x))) (z := (17 : Int32)) rfl (by rw [List.length_set, hv]; rfl) (hb hby d31_34) k_) ?_
  show OEnds p e below s _ _ _ (T5.setTop (mkF m 35 #[vR u0, vR x, vR d] [(.int (17 : Int32)), (.int (k).toInt32), (.ref u0), (.int (0 : Int32))]))
  obtain ⟨T6, _, _, ⟨rfl, rfl⟩, H6, st6⟩ := OHere.static H5 hx hZ (y := (⟨"java/util/ArrayDeque", "inc", "(II)I"⟩ : MethodName)) (W := 2) hown (tWd hw 247 rfl) (tWd hw 248 rfl) (tWd hw 96 rfl) (tWd hw 249 rfl) (by decide) (conInc l Z a0 hw n0 [] (k).toInt32 (17 : Int32) (k + 1).toInt32 (inc_k k hk) ([] ++ ([(eO u0 "java/util/ArrayDeque" [("java/util/ArrayDeque", "elements", "[Ljava/lang/Object;", (.ref d)), ("java/util/ArrayDeque", "tail", "I", (.int (k).toInt32)), ("java/util/ArrayDeque", "head", "I", (.int (0 : Int32)))]), (eA d (.object "java/lang/Object") (vs.set k (.ref x)))] ++ F))) (by decide) (by decide) (pc := 35) (Ls := #[vR u0, vR x, vR d]) (argsL := [(.int (k).toInt32), (.int (17 : Int32))]) (rest := [(.ref u0), (.int (0 : Int32))]) (by rw [hml]; rfl) (lenOf pd_oIIcI rfl) rfl (Nat.le_of_eq rfl) (hb hby d31_35) (by decide) (by decide)
  replace H6 : OHere p l e _ s m _ below meth c Z n0 0 T6 0 0 ([(eO u0 "java/util/ArrayDeque" [("java/util/ArrayDeque", "elements", "[Ljava/lang/Object;", (.ref d)), ("java/util/ArrayDeque", "tail", "I", (.int (k).toInt32)), ("java/util/ArrayDeque", "head", "I", (.int (0 : Int32)))]), (eA d (.object "java/lang/Object") (vs.set k (.ref x)))] ++ F) := H6
  refine OEnds.pre (fun t_ k_ => st6 _ k_) ?_
  show OEnds p e below s _ _ _ (T6.setTop (mkF m 38 #[vR u0, vR x, vR d] [(.int (k + 1).toInt32), (.ref u0), (.int (0 : Int32))]))
  refine OEnds.pre (fun t_ k_ => XT.dupX1 H6.here hx rfl (hb hby d31_38) rfl rfl rfl k_) ?_
  show OEnds p e below s _ _ _ (T6.setTop (mkF m 39 #[vR u0, vR x, vR d] [(.int (k + 1).toInt32), (.ref u0), (.int (k + 1).toInt32), (.int (0 : Int32))]))
  obtain ⟨T7, H7, st7⟩ := OHere.putfield H6 hx hZ (O := "java/util/ArrayDeque") (q := 0) (f := 1) (v := (.int (k + 1).toInt32)) (C := "java/util/ArrayDeque") (ty := .int) (pc := 39) (Ls := #[vR u0, vR x, vR d]) (rest := [(.int (k + 1).toInt32), (.int (0 : Int32))]) hown (tWd hw 123 rfl) Via.refl (fs := [("java/util/ArrayDeque", "elements", "[Ljava/lang/Object;", (.ref d)), ("java/util/ArrayDeque", "tail", "I", (.int (k).toInt32)), ("java/util/ArrayDeque", "head", "I", (.int (0 : Int32)))]) rfl rfl (Or.inl (tWd hw 124 rfl)) (tWd hw 95 rfl) (by decide) rfl rfl (hb hby d31_39)
  replace H7 : OHere p l e _ s m _ below meth c Z n0 0 T7 0 0 ([(eO u0 "java/util/ArrayDeque" [("java/util/ArrayDeque", "elements", "[Ljava/lang/Object;", (.ref d)), ("java/util/ArrayDeque", "tail", "I", (.int (k + 1).toInt32)), ("java/util/ArrayDeque", "head", "I", (.int (0 : Int32)))]), (eA d (.object "java/lang/Object") (vs.set k (.ref x)))] ++ F) := H7
  refine OEnds.pre (fun t_ k_ => st7 _ k_) ?_
  show OEnds p e below s _ _ _ (T7.setTop (mkF m 42 #[vR u0, vR x, vR d] [(.int (k + 1).toInt32), (.int (0 : Int32))]))
  refine OEnds.pre (fun t_ k_ => XS.icmpYes H7.here hx rfl (pc0 := 42) (pc' := 50) rfl (hb hby d31_42) rfl (XT.ii_ne_t (k_ne0 k hk)) (by decide) (by decide) k_) ?_
  show OEnds p e below s _ _ _ (T7.setTop (mkF m 50 #[vR u0, vR x, vR d] []))
  exact H7.ret hx Bd.notSynchronized Bd.returns (hb hby d31_50) (by decide) (by decide) (fun h L W N => ⟨N, _, ⟨rfl, rfl⟩, W⟩)
theorem d30_0 : decode jdk_21_method_28_code 0 = .ok (.aload_n 0, 1) := by decide +kernel
theorem d30_1 : decode jdk_21_method_28_code 1 = .ok (.aload_n 1, 1) := by decide +kernel
theorem d30_2 : decode jdk_21_method_28_code 2 = .ok (.invokevirtual 90, 3) := by decide +kernel
theorem d30_5 : decode jdk_21_method_28_code 5 = .ok (.iconst 1, 1) := by decide +kernel
theorem d30_6 : decode jdk_21_method_28_code 6 = .ok (.ireturn, 1) := by decide +kernel
theorem pn_30 : plainFor (⟨"java/util/ArrayDeque", "add", "(Ljava/lang/Object;)Z"⟩ : MethodName) = true := by first | exact plainFor_of_name (by first | (simp [plainName, overriddenIn]; done) | decide +kernel) | decide +kernel
theorem ef_30 (m : MethodId) (x0 : Addr) (x1 : Addr) : entryFrame m #[(.ref x0), (.ref x1)] 2 = mkF m 0 #[.val (.ref x0), .val (.ref x1)] [] := by first | (simp [entryFrame, mkF, argsToLocals, Value.category]; done) | rfl
set_option maxRecDepth 65536 in
set_option maxHeartbeats 40000000 in
theorem conADa (l : Launch) (Z : State) (a0 : Array Value) (hw : ∀ d ∈ tables_1, d.before a0 Z = true) (n0 : Nat) (ws : List Jvm.Cond) (u0 : Addr) (F : List OEnt) (x : Addr) (fx : List OFEnt) (hxF : eO x "com/example/deadletter/deadletter/job/Job" fx ∈ F) (d : Addr) (vs : List Value) (k : Nat) (hv : vs.length = 17) (hk : k < 16) :
    OCon l Z n0 (⟨"java/util/ArrayDeque", "add", "(Ljava/lang/Object;)Z"⟩ : MethodName) jdk_21_method_28_code 2 (some .boolean) ws ({ frames := 2, cells := 0, slots := 0, locals := 29 } : Room) #[(.ref u0), (.ref x)] ([(eO u0 "java/util/ArrayDeque" [("java/util/ArrayDeque", "elements", "[Ljava/lang/Object;", (.ref d)), ("java/util/ArrayDeque", "tail", "I", (.int (k).toInt32)), ("java/util/ArrayDeque", "head", "I", (.int (0 : Int32)))]), (eA d (.object "java/lang/Object") vs)] ++ F) (fun v' es' => v' = some (.int (1 : Int32)) ∧ es' = ([(eO u0 "java/util/ArrayDeque" [("java/util/ArrayDeque", "elements", "[Ljava/lang/Object;", (.ref d)), ("java/util/ArrayDeque", "tail", "I", (.int (k + 1).toInt32)), ("java/util/ArrayDeque", "head", "I", (.int (0 : Int32)))]), (eA d (.object "java/lang/Object") (vs.set k (.ref x)))] ++ F)) := by
  intro h0 hW0
  refine MetFree.of_bodySF pn_30 hisR ?_
  intro p e s m args below meth c s₁ Bd hml0 hP hK
  obtain ⟨rfl, hZ, hh⟩ := hP
  have hx := Bd.exec
  have hby := Bd.bytes
  have hml : c.maxLocals = 2 := hml0
  have hown : s.vm.findClass "java/util/ArrayDeque" = some m.cls := findClass_of_methodNamed Bd.named
  have hnm := (name_of_methodNamed Bd.named Bd.method).1
  have H0 : OHere p l e ({ frames := 2, cells := 0, slots := 0, locals := 29 } : Room) s m #[(.ref u0), (.ref x)] below meth c Z n0 0 s₁ 0 0 ([(eO u0 "java/util/ArrayDeque" [("java/util/ArrayDeque", "elements", "[Ljava/lang/Object;", (.ref d)), ("java/util/ArrayDeque", "tail", "I", (.int (k).toInt32)), ("java/util/ArrayDeque", "head", "I", (.int (0 : Int32)))]), (eA d (.object "java/lang/Object") vs)] ++ F) := ⟨[], Stand.of_body Bd, by rw [show s₁.heap = h0 from by rw [← hh, Bd.state]; rfl]; exact hW0, Fr.nil _, Nat.zero_le _⟩
  show OEnds p e below s _ _ (fun v' h' L => Fr n0 L ∧ ∃ es', (fun v' es' => v' = some (.int (1 : Int32)) ∧ es' = ([(eO u0 "java/util/ArrayDeque" [("java/util/ArrayDeque", "elements", "[Ljava/lang/Object;", (.ref d)), ("java/util/ArrayDeque", "tail", "I", (.int (k + 1).toInt32)), ("java/util/ArrayDeque", "head", "I", (.int (0 : Int32)))]), (eA d (.object "java/lang/Object") (vs.set k (.ref x)))] ++ F)) v' es' ∧ OWorld Z n0 h' es') _
  refine OEnds.pre (fun t k => castTop (ef_30 m u0 x) k) ?_
  show OEnds p e below s _ _ _ (s₁.setTop (mkF m 0 #[vR u0, vR x] []))
  refine OEnds.pre (fun t_ k_ => XS.aloadN H0.here hx rfl (hb hby d30_0) rfl rfl k_) ?_
  show OEnds p e below s _ _ _ (s₁.setTop (mkF m 1 #[vR u0, vR x] [(.ref u0)]))
  refine OEnds.pre (fun t_ k_ => XS.aloadN H0.here hx rfl (hb hby d30_1) rfl rfl k_) ?_
  show OEnds p e below s _ _ _ (s₁.setTop (mkF m 2 #[vR u0, vR x] [(.ref x), (.ref u0)]))
  obtain ⟨T1, _, _, ⟨rfl, rfl⟩, H1, st1⟩ := OHere.virtual H0 hx hZ (y := (⟨"java/util/ArrayDeque", "addLast", "(Ljava/lang/Object;)V"⟩ : MethodName)) (z := (⟨"java/util/ArrayDeque", "addLast", "(Ljava/lang/Object;)V"⟩ : MethodName)) (W := 0) (a := u0) (q := 0) (fs := [("java/util/ArrayDeque", "elements", "[Ljava/lang/Object;", (.ref d)), ("java/util/ArrayDeque", "tail", "I", (.int (k).toInt32)), ("java/util/ArrayDeque", "head", "I", (.int (0 : Int32)))]) hown (tWd hw 242 rfl) (tWd hw 243 rfl) (nf_sel (tWd hw 117 rfl) rfl) (tWd hw 245 rfl) (tWd hw 244 rfl) (tWd hw 96 rfl) (tWd hw 246 rfl) (by decide) rfl (conAL l Z a0 hw n0 [] u0 ([] ++ F) x fx (List.mem_append_right _ hxF) d vs k hv hk) (by decide) (by decide) (pc := 2) (Ls := #[vR u0, vR x]) (argsL := [(.ref x)]) (rest := []) (by rw [hml]; rfl) (lenOf pd_oLjava_lang_Object_cV rfl) rfl (Nat.le_of_eq rfl) (hb hby d30_2) (by decide) (by decide)
  replace H1 : OHere p l e _ s m _ below meth c Z n0 0 T1 0 0 ([(eO u0 "java/util/ArrayDeque" [("java/util/ArrayDeque", "elements", "[Ljava/lang/Object;", (.ref d)), ("java/util/ArrayDeque", "tail", "I", (.int (k + 1).toInt32)), ("java/util/ArrayDeque", "head", "I", (.int (0 : Int32)))]), (eA d (.object "java/lang/Object") (vs.set k (.ref x)))] ++ F) := H1
  refine OEnds.pre (fun t_ k_ => st1 _ k_) ?_
  show OEnds p e below s _ _ _ (T1.setTop (mkF m 5 #[vR u0, vR x] []))
  refine OEnds.pre (fun t_ k_ => XT.iconstV H1.here hx rfl (1 : Int32) (hb hby d30_5) rfl k_) ?_
  show OEnds p e below s _ _ _ (T1.setTop (mkF m 6 #[vR u0, vR x] [(.int (1 : Int32))]))
  exact H1.nrw hx Bd.notSynchronized Bd.returns (by simp) (hb hby d30_6) (by decide) (by decide) (fun h L W N => ⟨N, _, ⟨rfl, rfl⟩, W⟩)
theorem d23_0 : decode jdk_21_method_10_code 0 = .ok (.aload_n 0, 1) := by decide +kernel
theorem d23_1 : decode jdk_21_method_10_code 1 = .ok (.iload_n 1, 1) := by decide +kernel
theorem d23_2 : decode jdk_21_method_10_code 2 = .ok (.aaload, 1) := by decide +kernel
theorem d23_3 : decode jdk_21_method_10_code 3 = .ok (.areturn, 1) := by decide +kernel
theorem pn_23 : plainFor (⟨"java/util/ArrayDeque", "elementAt", "([Ljava/lang/Object;I)Ljava/lang/Object;"⟩ : MethodName) = true := by first | exact plainFor_of_name (by first | (simp [plainName, overriddenIn]; done) | decide +kernel) | decide +kernel
theorem ef_23 (m : MethodId) (x0 : Addr) (x1 : Int32) : entryFrame m #[(.ref x0), (.int x1)] 2 = mkF m 0 #[.val (.ref x0), .val (.int x1)] [] := by first | (simp [entryFrame, mkF, argsToLocals, Value.category]; done) | rfl
set_option maxRecDepth 65536 in
set_option maxHeartbeats 40000000 in
theorem conEA (l : Launch) (Z : State) (a0 : Array Value) (hw : ∀ d ∈ tables_1, d.before a0 Z = true) (n0 : Nat) (ws : List Jvm.Cond) (u0 : Addr) (F : List OEnt) (vs : List Value) (v : Value) (hi : v.isRef = true) (h0v : vs[0]? = some v) :
    OCon l Z n0 (⟨"java/util/ArrayDeque", "elementAt", "([Ljava/lang/Object;I)Ljava/lang/Object;"⟩ : MethodName) jdk_21_method_10_code 2 (some (.object "java/lang/Object")) ws ({ frames := 0, cells := 0, slots := 0, locals := 0 } : Room) #[(.ref u0), (.int (0 : Int32))] ([(eA u0 (.object "java/lang/Object") vs)] ++ F) (fun v' es' => v' = some v ∧ es' = ([(eA u0 (.object "java/lang/Object") vs)] ++ F)) := by
  intro h0 hW0
  refine MetFree.of_bodySF pn_23 hisR ?_
  intro p e s m args below meth c s₁ Bd hml0 hP hK
  obtain ⟨rfl, hZ, hh⟩ := hP
  have hx := Bd.exec
  have hby := Bd.bytes
  have hml : c.maxLocals = 2 := hml0
  have hown : s.vm.findClass "java/util/ArrayDeque" = some m.cls := findClass_of_methodNamed Bd.named
  have hnm := (name_of_methodNamed Bd.named Bd.method).1
  have H0 : OHere p l e ({ frames := 0, cells := 0, slots := 0, locals := 0 } : Room) s m #[(.ref u0), (.int (0 : Int32))] below meth c Z n0 0 s₁ 0 0 ([(eA u0 (.object "java/lang/Object") vs)] ++ F) := ⟨[], Stand.of_body Bd, by rw [show s₁.heap = h0 from by rw [← hh, Bd.state]; rfl]; exact hW0, Fr.nil _, Nat.zero_le _⟩
  show OEnds p e below s _ _ (fun v' h' L => Fr n0 L ∧ ∃ es', (fun v' es' => v' = some v ∧ es' = ([(eA u0 (.object "java/lang/Object") vs)] ++ F)) v' es' ∧ OWorld Z n0 h' es') _
  refine OEnds.pre (fun t k => castTop (ef_23 m u0 (0 : Int32)) k) ?_
  show OEnds p e below s _ _ _ (s₁.setTop (mkF m 0 #[vR u0, vI (0 : Int32)] []))
  refine OEnds.pre (fun t_ k_ => XS.aloadN H0.here hx rfl (hb hby d23_0) rfl rfl k_) ?_
  show OEnds p e below s _ _ _ (s₁.setTop (mkF m 1 #[vR u0, vI (0 : Int32)] [(.ref u0)]))
  refine OEnds.pre (fun t_ k_ => XS.iloadN H0.here hx rfl (hb hby d23_1) rfl k_) ?_
  show OEnds p e below s _ _ _ (s₁.setTop (mkF m 2 #[vR u0, vI (0 : Int32)] [(.int (0 : Int32)), (.ref u0)]))
  refine OEnds.pre (fun t_ k_ => OHere.aaload H0 hx hZ (q := 0) (i := 0) (vs := vs) (v := v) (C := "java/lang/Object") rfl (by decide) (by decide) h0v (hb hby d23_2) k_) ?_
  show OEnds p e below s _ _ _ (s₁.setTop (mkF m 3 #[vR u0, vI (0 : Int32)] [v]))
  exact H0.areturn hx Bd.notSynchronized Bd.returns rfl hi (hb hby d23_3) (by decide) (by decide) (fun h L W N => ⟨N, _, ⟨rfl, rfl⟩, W⟩)
theorem d22_0 : decode jdk_21_method_20_code 0 = .ok (.aload_n 0, 1) := by decide +kernel
theorem d22_1 : decode jdk_21_method_20_code 1 = .ok (.getfield 3, 3) := by decide +kernel
theorem d22_4 : decode jdk_21_method_20_code 4 = .ok (.dup, 1) := by decide +kernel
theorem d22_5 : decode jdk_21_method_20_code 5 = .ok (.astore_n 1, 1) := by decide +kernel
theorem d22_6 : decode jdk_21_method_20_code 6 = .ok (.aload_n 0, 1) := by decide +kernel
theorem d22_7 : decode jdk_21_method_20_code 7 = .ok (.getfield 24, 3) := by decide +kernel
theorem d22_10 : decode jdk_21_method_20_code 10 = .ok (.dup, 1) := by decide +kernel
theorem d22_11 : decode jdk_21_method_20_code 11 = .ok (.istore_n 2, 1) := by decide +kernel
theorem d22_12 : decode jdk_21_method_20_code 12 = .ok (.invokestatic 103, 3) := by decide +kernel
theorem d22_15 : decode jdk_21_method_20_code 15 = .ok (.astore_n 3, 1) := by decide +kernel
theorem d22_16 : decode jdk_21_method_20_code 16 = .ok (.aload_n 3, 1) := by decide +kernel
theorem d22_17 : decode jdk_21_method_20_code 17 = .ok (.ifnull 17, 3) := by decide +kernel
theorem d22_20 : decode jdk_21_method_20_code 20 = .ok (.aload_n 1, 1) := by decide +kernel
theorem d22_21 : decode jdk_21_method_20_code 21 = .ok (.iload_n 2, 1) := by decide +kernel
theorem d22_22 : decode jdk_21_method_20_code 22 = .ok (.aconst_null, 1) := by decide +kernel
theorem d22_23 : decode jdk_21_method_20_code 23 = .ok (.aastore, 1) := by decide +kernel
theorem d22_24 : decode jdk_21_method_20_code 24 = .ok (.aload_n 0, 1) := by decide +kernel
theorem d22_25 : decode jdk_21_method_20_code 25 = .ok (.iload_n 2, 1) := by decide +kernel
theorem d22_26 : decode jdk_21_method_20_code 26 = .ok (.aload_n 1, 1) := by decide +kernel
theorem d22_27 : decode jdk_21_method_20_code 27 = .ok (.arraylength, 1) := by decide +kernel
theorem d22_28 : decode jdk_21_method_20_code 28 = .ok (.invokestatic 74, 3) := by decide +kernel
theorem d22_31 : decode jdk_21_method_20_code 31 = .ok (.putfield 24, 3) := by decide +kernel
theorem d22_34 : decode jdk_21_method_20_code 34 = .ok (.aload_n 3, 1) := by decide +kernel
theorem d22_35 : decode jdk_21_method_20_code 35 = .ok (.areturn, 1) := by decide +kernel
theorem pn_22 : plainFor (⟨"java/util/ArrayDeque", "pollFirst", "()Ljava/lang/Object;"⟩ : MethodName) = true := by first | exact plainFor_of_name (by first | (simp [plainName, overriddenIn]; done) | decide +kernel) | decide +kernel
theorem ef_22 (m : MethodId) (x0 : Addr) : entryFrame m #[(.ref x0)] 4 = mkF m 0 #[.val (.ref x0), .unset, .unset, .unset] [] := by first | (simp [entryFrame, mkF, argsToLocals, Value.category]; done) | rfl
set_option maxRecDepth 65536 in
set_option maxHeartbeats 40000000 in
theorem conPF0 (l : Launch) (Z : State) (a0 : Array Value) (hw : ∀ d ∈ tables_1, d.before a0 Z = true) (n0 : Nat) (ws : List Jvm.Cond) (u0 : Addr) (F : List OEnt) (d : Addr) (vs : List Value) (tl : Int32) (hv : vs.length = 17) (h0v : vs[0]? = some .null) :
    OCon l Z n0 (⟨"java/util/ArrayDeque", "pollFirst", "()Ljava/lang/Object;"⟩ : MethodName) jdk_21_method_20_code 4 (some (.object "java/lang/Object")) ws ({ frames := 1, cells := 0, slots := 0, locals := 13 } : Room) #[(.ref u0)] ([(eO u0 "java/util/ArrayDeque" [("java/util/ArrayDeque", "elements", "[Ljava/lang/Object;", (.ref d)), ("java/util/ArrayDeque", "tail", "I", (.int tl)), ("java/util/ArrayDeque", "head", "I", (.int (0 : Int32)))]), (eA d (.object "java/lang/Object") vs)] ++ F) (fun v' es' => v' = some .null ∧ es' = ([(eO u0 "java/util/ArrayDeque" [("java/util/ArrayDeque", "elements", "[Ljava/lang/Object;", (.ref d)), ("java/util/ArrayDeque", "tail", "I", (.int tl)), ("java/util/ArrayDeque", "head", "I", (.int (0 : Int32)))]), (eA d (.object "java/lang/Object") vs)] ++ F)) := by
  intro h0 hW0
  refine MetFree.of_bodySF pn_22 hisR ?_
  intro p e s m args below meth c s₁ Bd hml0 hP hK
  obtain ⟨rfl, hZ, hh⟩ := hP
  have hx := Bd.exec
  have hby := Bd.bytes
  have hml : c.maxLocals = 4 := hml0
  have hown : s.vm.findClass "java/util/ArrayDeque" = some m.cls := findClass_of_methodNamed Bd.named
  have hnm := (name_of_methodNamed Bd.named Bd.method).1
  have H0 : OHere p l e ({ frames := 1, cells := 0, slots := 0, locals := 13 } : Room) s m #[(.ref u0)] below meth c Z n0 0 s₁ 0 0 ([(eO u0 "java/util/ArrayDeque" [("java/util/ArrayDeque", "elements", "[Ljava/lang/Object;", (.ref d)), ("java/util/ArrayDeque", "tail", "I", (.int tl)), ("java/util/ArrayDeque", "head", "I", (.int (0 : Int32)))]), (eA d (.object "java/lang/Object") vs)] ++ F) := ⟨[], Stand.of_body Bd, by rw [show s₁.heap = h0 from by rw [← hh, Bd.state]; rfl]; exact hW0, Fr.nil _, Nat.zero_le _⟩
  show OEnds p e below s _ _ (fun v' h' L => Fr n0 L ∧ ∃ es', (fun v' es' => v' = some .null ∧ es' = ([(eO u0 "java/util/ArrayDeque" [("java/util/ArrayDeque", "elements", "[Ljava/lang/Object;", (.ref d)), ("java/util/ArrayDeque", "tail", "I", (.int tl)), ("java/util/ArrayDeque", "head", "I", (.int (0 : Int32)))]), (eA d (.object "java/lang/Object") vs)] ++ F)) v' es' ∧ OWorld Z n0 h' es') _
  refine OEnds.pre (fun t k => castTop (ef_22 m u0) k) ?_
  show OEnds p e below s _ _ _ (s₁.setTop (mkF m 0 #[vR u0, uN, uN, uN] []))
  refine OEnds.pre (fun t_ k_ => XS.aloadN H0.here hx rfl (hb hby d22_0) rfl rfl k_) ?_
  show OEnds p e below s _ _ _ (s₁.setTop (mkF m 1 #[vR u0, uN, uN, uN] [(.ref u0)]))
  obtain ⟨T1, H1, st1⟩ := OHere.getfield H0 hx hZ (O := "java/util/ArrayDeque") (q := 0) (f := 0) (v := (.ref d)) (fs := [("java/util/ArrayDeque", "elements", "[Ljava/lang/Object;", (.ref d)), ("java/util/ArrayDeque", "tail", "I", (.int tl)), ("java/util/ArrayDeque", "head", "I", (.int (0 : Int32)))]) (C := "java/util/ArrayDeque") (pc := 1) (Ls := #[vR u0, uN, uN, uN]) (rest := []) hown (tWd hw 103 rfl) Via.refl rfl rfl (hb hby d22_1)
  replace H1 : OHere p l e _ s m _ below meth c Z n0 0 T1 0 0 ([(eO u0 "java/util/ArrayDeque" [("java/util/ArrayDeque", "elements", "[Ljava/lang/Object;", (.ref d)), ("java/util/ArrayDeque", "tail", "I", (.int tl)), ("java/util/ArrayDeque", "head", "I", (.int (0 : Int32)))]), (eA d (.object "java/lang/Object") vs)] ++ F) := H1
  refine OEnds.pre (fun t_ k_ => st1 _ k_) ?_
  show OEnds p e below s _ _ _ (T1.setTop (mkF m 4 #[vR u0, uN, uN, uN] [(.ref d)]))
  refine OEnds.pre (fun t_ k_ => XS.dup H1.here hx rfl (hb hby d22_4) rfl rfl k_) ?_
  show OEnds p e below s _ _ _ (T1.setTop (mkF m 5 #[vR u0, uN, uN, uN] [(.ref d), (.ref d)]))
  refine OEnds.pre (fun t_ k_ => XS.astoreN H1.here hx rfl (hb hby d22_5) rfl rfl (l' := #[vR u0, vR d, uN, uN]) rfl k_) ?_
  show OEnds p e below s _ _ _ (T1.setTop (mkF m 6 #[vR u0, vR d, uN, uN] [(.ref d)]))
  refine OEnds.pre (fun t_ k_ => XS.aloadN H1.here hx rfl (hb hby d22_6) rfl rfl k_) ?_
  show OEnds p e below s _ _ _ (T1.setTop (mkF m 7 #[vR u0, vR d, uN, uN] [(.ref u0), (.ref d)]))
  obtain ⟨T2, H2, st2⟩ := OHere.getfield H1 hx hZ (O := "java/util/ArrayDeque") (q := 0) (f := 2) (v := (.int (0 : Int32))) (fs := [("java/util/ArrayDeque", "elements", "[Ljava/lang/Object;", (.ref d)), ("java/util/ArrayDeque", "tail", "I", (.int tl)), ("java/util/ArrayDeque", "head", "I", (.int (0 : Int32)))]) (C := "java/util/ArrayDeque") (pc := 7) (Ls := #[vR u0, vR d, uN, uN]) (rest := [(.ref d)]) hown (tWd hw 125 rfl) Via.refl rfl rfl (hb hby d22_7)
  replace H2 : OHere p l e _ s m _ below meth c Z n0 0 T2 0 0 ([(eO u0 "java/util/ArrayDeque" [("java/util/ArrayDeque", "elements", "[Ljava/lang/Object;", (.ref d)), ("java/util/ArrayDeque", "tail", "I", (.int tl)), ("java/util/ArrayDeque", "head", "I", (.int (0 : Int32)))]), (eA d (.object "java/lang/Object") vs)] ++ F) := H2
  refine OEnds.pre (fun t_ k_ => st2 _ k_) ?_
  show OEnds p e below s _ _ _ (T2.setTop (mkF m 10 #[vR u0, vR d, uN, uN] [(.int (0 : Int32)), (.ref d)]))
  refine OEnds.pre (fun t_ k_ => XS.dup H2.here hx rfl (hb hby d22_10) rfl rfl k_) ?_
  show OEnds p e below s _ _ _ (T2.setTop (mkF m 11 #[vR u0, vR d, uN, uN] [(.int (0 : Int32)), (.int (0 : Int32)), (.ref d)]))
  refine OEnds.pre (fun t_ k_ => XS.istoreN H2.here hx rfl (hb hby d22_11) rfl (l' := #[vR u0, vR d, vI (0 : Int32), uN]) rfl k_) ?_
  show OEnds p e below s _ _ _ (T2.setTop (mkF m 12 #[vR u0, vR d, vI (0 : Int32), uN] [(.int (0 : Int32)), (.ref d)]))
  have Hp3 : OHere p l e _ s m _ below meth c Z n0 0 T2 0 0 ([(eA d (.object "java/lang/Object") vs), (eO u0 "java/util/ArrayDeque" [("java/util/ArrayDeque", "elements", "[Ljava/lang/Object;", (.ref d)), ("java/util/ArrayDeque", "tail", "I", (.int tl)), ("java/util/ArrayDeque", "head", "I", (.int (0 : Int32)))])] ++ F) := OHere.pick H2 [1, 0] (by decide) rfl
  obtain ⟨T4, _, _, ⟨rfl, rfl⟩, H4, st4⟩ := OHere.static Hp3 hx hZ (y := (⟨"java/util/ArrayDeque", "elementAt", "([Ljava/lang/Object;I)Ljava/lang/Object;"⟩ : MethodName)) (W := 0) hown (tWd hw 191 rfl) (tWd hw 192 rfl) (tWd hw 96 rfl) (tWd hw 193 rfl) (by decide) (conEA l Z a0 hw n0 [] d ([(eO u0 "java/util/ArrayDeque" [("java/util/ArrayDeque", "elements", "[Ljava/lang/Object;", (.ref d)), ("java/util/ArrayDeque", "tail", "I", (.int tl)), ("java/util/ArrayDeque", "head", "I", (.int (0 : Int32)))])] ++ F) vs .null rfl h0v) (by decide) (by decide) (pc := 12) (Ls := #[vR u0, vR d, vI (0 : Int32), uN]) (argsL := [(.ref d), (.int (0 : Int32))]) (rest := []) (by rw [hml]; rfl) (lenOf pd_oALjava_lang_Object_IcLjava_lang_Object_ rfl) rfl (Nat.le_of_eq rfl) (hb hby d22_12) (by decide) (by decide)
  replace H4 : OHere p l e _ s m _ below meth c Z n0 0 T4 0 0 ([(eA d (.object "java/lang/Object") vs), (eO u0 "java/util/ArrayDeque" [("java/util/ArrayDeque", "elements", "[Ljava/lang/Object;", (.ref d)), ("java/util/ArrayDeque", "tail", "I", (.int tl)), ("java/util/ArrayDeque", "head", "I", (.int (0 : Int32)))])] ++ F) := H4
  refine OEnds.pre (fun t_ k_ => st4 _ k_) ?_
  show OEnds p e below s _ _ _ (T4.setTop (mkF m 15 #[vR u0, vR d, vI (0 : Int32), uN] [.null]))
  refine OEnds.pre (fun t_ k_ => XS.astoreN H4.here hx rfl (hb hby d22_15) rfl rfl (l' := #[vR u0, vR d, vI (0 : Int32), .val .null]) rfl k_) ?_
  show OEnds p e below s _ _ _ (T4.setTop (mkF m 16 #[vR u0, vR d, vI (0 : Int32), .val .null] []))
  refine OEnds.pre (fun t_ k_ => XS.aloadN H4.here hx rfl (hb hby d22_16) rfl rfl k_) ?_
  show OEnds p e below s _ _ _ (T4.setTop (mkF m 17 #[vR u0, vR d, vI (0 : Int32), .val .null] [.null]))
  refine OEnds.pre (fun t_ k_ => XS.ifnullYes H4.here hx rfl (pc0 := 17) (pc' := 34) rfl (hb hby d22_17) rfl (by decide) (by decide) k_) ?_
  show OEnds p e below s _ _ _ (T4.setTop (mkF m 34 #[vR u0, vR d, vI (0 : Int32), .val .null] []))
  refine OEnds.pre (fun t_ k_ => XS.aloadN H4.here hx rfl (hb hby d22_34) rfl rfl k_) ?_
  show OEnds p e below s _ _ _ (T4.setTop (mkF m 35 #[vR u0, vR d, vI (0 : Int32), .val .null] [.null]))
  have Hq5 : OHere p l e _ s m _ below meth c Z n0 0 T4 0 0 ([(eO u0 "java/util/ArrayDeque" [("java/util/ArrayDeque", "elements", "[Ljava/lang/Object;", (.ref d)), ("java/util/ArrayDeque", "tail", "I", (.int tl)), ("java/util/ArrayDeque", "head", "I", (.int (0 : Int32)))]), (eA d (.object "java/lang/Object") vs)] ++ F) := OHere.pick H4 [1, 0] (by decide) rfl
  exact Hq5.areturn hx Bd.notSynchronized Bd.returns rfl rfl (hb hby d22_35) (by decide) (by decide) (fun h L W N => ⟨N, _, ⟨rfl, rfl⟩, W⟩)
theorem d21_0 : decode prog_45_method_4_code 0 = .ok (.aload_n 0, 1) := by decide +kernel
theorem d21_1 : decode prog_45_method_4_code 1 = .ok (.getfield 10, 3) := by decide +kernel
theorem d21_4 : decode prog_45_method_4_code 4 = .ok (.invokeinterface 52 1, 5) := by decide +kernel
theorem d21_9 : decode prog_45_method_4_code 9 = .ok (.checkcast 35, 3) := by decide +kernel
theorem d21_12 : decode prog_45_method_4_code 12 = .ok (.areturn, 1) := by decide +kernel
theorem pn_21 : plainFor (⟨"com/example/deadletter/deadletter/worker/WaitingJobs", "take", "()Lcom/example/deadletter/deadletter/job/Job;"⟩ : MethodName) = true := by first | exact plainFor_of_name (by first | (simp [plainName, overriddenIn]; done) | decide +kernel) | decide +kernel
theorem ef_21 (m : MethodId) (x0 : Addr) : entryFrame m #[(.ref x0)] 1 = mkF m 0 #[.val (.ref x0)] [] := by first | (simp [entryFrame, mkF, argsToLocals, Value.category]; done) | rfl
set_option maxRecDepth 65536 in
set_option maxHeartbeats 40000000 in
theorem conTk0 (l : Launch) (Z : State) (a0 : Array Value) (hw : ∀ d ∈ tables_1, d.before a0 Z = true) (n0 : Nat) (ws : List Jvm.Cond) (u0 : Addr) (F : List OEnt) (r k d : Addr) (tv : Value) (vs : List Value) (tl : Int32) (hv : vs.length = 17) (h0v : vs[0]? = some .null) :
    OCon l Z n0 (⟨"com/example/deadletter/deadletter/worker/WaitingJobs", "take", "()Lcom/example/deadletter/deadletter/job/Job;"⟩ : MethodName) prog_45_method_4_code 1 (some (.object "com/example/deadletter/deadletter/job/Job")) ws ({ frames := 2, cells := 0, slots := 0, locals := 28 } : Room) #[(.ref u0)] ([(eO u0 "com/example/deadletter/deadletter/worker/WaitingJobs" [("com/example/deadletter/deadletter/worker/WaitingJobs", "ready", "Ljava/util/Deque;", (.ref r)), ("com/example/deadletter/deadletter/worker/WaitingJobs", "toCount", "Ljava/util/Deque;", (.ref k)), ("com/example/deadletter/deadletter/worker/WaitingJobs", "takenOver", "Lcom/example/deadletter/deadletter/job/Job;", tv)]), (eO r "java/util/ArrayDeque" [("java/util/ArrayDeque", "elements", "[Ljava/lang/Object;", (.ref d)), ("java/util/ArrayDeque", "tail", "I", (.int tl)), ("java/util/ArrayDeque", "head", "I", (.int (0 : Int32)))]), (eA d (.object "java/lang/Object") vs)] ++ F) (fun v' es' => v' = some .null ∧ es' = ([(eO u0 "com/example/deadletter/deadletter/worker/WaitingJobs" [("com/example/deadletter/deadletter/worker/WaitingJobs", "ready", "Ljava/util/Deque;", (.ref r)), ("com/example/deadletter/deadletter/worker/WaitingJobs", "toCount", "Ljava/util/Deque;", (.ref k)), ("com/example/deadletter/deadletter/worker/WaitingJobs", "takenOver", "Lcom/example/deadletter/deadletter/job/Job;", tv)]), (eO r "java/util/ArrayDeque" [("java/util/ArrayDeque", "elements", "[Ljava/lang/Object;", (.ref d)), ("java/util/ArrayDeque", "tail", "I", (.int tl)), ("java/util/ArrayDeque", "head", "I", (.int (0 : Int32)))]), (eA d (.object "java/lang/Object") vs)] ++ F)) := by
  intro h0 hW0
  refine MetFree.of_bodySF pn_21 hisR ?_
  intro p e s m args below meth c s₁ Bd hml0 hP hK
  obtain ⟨rfl, hZ, hh⟩ := hP
  have hx := Bd.exec
  have hby := Bd.bytes
  have hml : c.maxLocals = 1 := hml0
  have hown : s.vm.findClass "com/example/deadletter/deadletter/worker/WaitingJobs" = some m.cls := findClass_of_methodNamed Bd.named
  have hnm := (name_of_methodNamed Bd.named Bd.method).1
  have H0 : OHere p l e ({ frames := 2, cells := 0, slots := 0, locals := 28 } : Room) s m #[(.ref u0)] below meth c Z n0 0 s₁ 0 0 ([(eO u0 "com/example/deadletter/deadletter/worker/WaitingJobs" [("com/example/deadletter/deadletter/worker/WaitingJobs", "ready", "Ljava/util/Deque;", (.ref r)), ("com/example/deadletter/deadletter/worker/WaitingJobs", "toCount", "Ljava/util/Deque;", (.ref k)), ("com/example/deadletter/deadletter/worker/WaitingJobs", "takenOver", "Lcom/example/deadletter/deadletter/job/Job;", tv)]), (eO r "java/util/ArrayDeque" [("java/util/ArrayDeque", "elements", "[Ljava/lang/Object;", (.ref d)), ("java/util/ArrayDeque", "tail", "I", (.int tl)), ("java/util/ArrayDeque", "head", "I", (.int (0 : Int32)))]), (eA d (.object "java/lang/Object") vs)] ++ F) := ⟨[], Stand.of_body Bd, by rw [show s₁.heap = h0 from by rw [← hh, Bd.state]; rfl]; exact hW0, Fr.nil _, Nat.zero_le _⟩
  show OEnds p e below s _ _ (fun v' h' L => Fr n0 L ∧ ∃ es', (fun v' es' => v' = some .null ∧ es' = ([(eO u0 "com/example/deadletter/deadletter/worker/WaitingJobs" [("com/example/deadletter/deadletter/worker/WaitingJobs", "ready", "Ljava/util/Deque;", (.ref r)), ("com/example/deadletter/deadletter/worker/WaitingJobs", "toCount", "Ljava/util/Deque;", (.ref k)), ("com/example/deadletter/deadletter/worker/WaitingJobs", "takenOver", "Lcom/example/deadletter/deadletter/job/Job;", tv)]), (eO r "java/util/ArrayDeque" [("java/util/ArrayDeque", "elements", "[Ljava/lang/Object;", (.ref d)), ("java/util/ArrayDeque", "tail", "I", (.int tl)), ("java/util/ArrayDeque", "head", "I", (.int (0 : Int32)))]), (eA d (.object "java/lang/Object") vs)] ++ F)) v' es' ∧ OWorld Z n0 h' es') _
  refine OEnds.pre (fun t k => castTop (ef_21 m u0) k) ?_
  show OEnds p e below s _ _ _ (s₁.setTop (mkF m 0 #[vR u0] []))
  refine OEnds.pre (fun t_ k_ => XS.aloadN H0.here hx rfl (hb hby d21_0) rfl rfl k_) ?_
  show OEnds p e below s _ _ _ (s₁.setTop (mkF m 1 #[vR u0] [(.ref u0)]))
  obtain ⟨T1, H1, st1⟩ := OHere.getfield H0 hx hZ (O := "com/example/deadletter/deadletter/worker/WaitingJobs") (q := 0) (f := 0) (v := (.ref r)) (fs := [("com/example/deadletter/deadletter/worker/WaitingJobs", "ready", "Ljava/util/Deque;", (.ref r)), ("com/example/deadletter/deadletter/worker/WaitingJobs", "toCount", "Ljava/util/Deque;", (.ref k)), ("com/example/deadletter/deadletter/worker/WaitingJobs", "takenOver", "Lcom/example/deadletter/deadletter/job/Job;", tv)]) (C := "com/example/deadletter/deadletter/worker/WaitingJobs") (pc := 1) (Ls := #[vR u0]) (rest := []) hown (tWd hw 105 rfl) Via.refl rfl rfl (hb hby d21_1)
  replace H1 : OHere p l e _ s m _ below meth c Z n0 0 T1 0 0 ([(eO u0 "com/example/deadletter/deadletter/worker/WaitingJobs" [("com/example/deadletter/deadletter/worker/WaitingJobs", "ready", "Ljava/util/Deque;", (.ref r)), ("com/example/deadletter/deadletter/worker/WaitingJobs", "toCount", "Ljava/util/Deque;", (.ref k)), ("com/example/deadletter/deadletter/worker/WaitingJobs", "takenOver", "Lcom/example/deadletter/deadletter/job/Job;", tv)]), (eO r "java/util/ArrayDeque" [("java/util/ArrayDeque", "elements", "[Ljava/lang/Object;", (.ref d)), ("java/util/ArrayDeque", "tail", "I", (.int tl)), ("java/util/ArrayDeque", "head", "I", (.int (0 : Int32)))]), (eA d (.object "java/lang/Object") vs)] ++ F) := H1
  refine OEnds.pre (fun t_ k_ => st1 _ k_) ?_
  show OEnds p e below s _ _ _ (T1.setTop (mkF m 4 #[vR u0] [(.ref r)]))
  have Hp2 : OHere p l e _ s m _ below meth c Z n0 0 T1 0 0 ([(eO r "java/util/ArrayDeque" [("java/util/ArrayDeque", "elements", "[Ljava/lang/Object;", (.ref d)), ("java/util/ArrayDeque", "tail", "I", (.int tl)), ("java/util/ArrayDeque", "head", "I", (.int (0 : Int32)))]), (eA d (.object "java/lang/Object") vs), (eO u0 "com/example/deadletter/deadletter/worker/WaitingJobs" [("com/example/deadletter/deadletter/worker/WaitingJobs", "ready", "Ljava/util/Deque;", (.ref r)), ("com/example/deadletter/deadletter/worker/WaitingJobs", "toCount", "Ljava/util/Deque;", (.ref k)), ("com/example/deadletter/deadletter/worker/WaitingJobs", "takenOver", "Lcom/example/deadletter/deadletter/job/Job;", tv)])] ++ F) := OHere.pick H1 [1, 2, 0] (by decide) rfl
  obtain ⟨T3, _, _, ⟨rfl, rfl⟩, H3, st3⟩ := OHere.face Hp2 hx hZ (y := (⟨"java/util/Deque", "pollFirst", "()Ljava/lang/Object;"⟩ : MethodName)) (z := (⟨"java/util/ArrayDeque", "pollFirst", "()Ljava/lang/Object;"⟩ : MethodName)) (W := 0) (a := r) (q := 0) (fs := [("java/util/ArrayDeque", "elements", "[Ljava/lang/Object;", (.ref d)), ("java/util/ArrayDeque", "tail", "I", (.int tl)), ("java/util/ArrayDeque", "head", "I", (.int (0 : Int32)))]) hown (tWd hw 183 rfl) (tWd hw 184 rfl) (tWd hw 185 rfl) rfl (tWd hw 186 rfl) (tWd hw 187 rfl) (tWd hw 188 rfl) (tWd hw 189 rfl) (tWd hw 121 rfl) (tWd hw 96 rfl) (tWd hw 190 rfl) (by decide) rfl (conPF0 l Z a0 hw n0 [] r ([(eO u0 "com/example/deadletter/deadletter/worker/WaitingJobs" [("com/example/deadletter/deadletter/worker/WaitingJobs", "ready", "Ljava/util/Deque;", (.ref r)), ("com/example/deadletter/deadletter/worker/WaitingJobs", "toCount", "Ljava/util/Deque;", (.ref k)), ("com/example/deadletter/deadletter/worker/WaitingJobs", "takenOver", "Lcom/example/deadletter/deadletter/job/Job;", tv)])] ++ F) d vs tl hv h0v) (by decide) (by decide) (pc := 4) (Ls := #[vR u0]) (argsL := []) (rest := []) (by rw [hml]; rfl) (lenOf pd_ocLjava_lang_Object_ rfl) rfl (Nat.le_of_eq rfl) (hb hby d21_4) (by decide) (by decide)
  replace H3 : OHere p l e _ s m _ below meth c Z n0 0 T3 0 0 ([(eO r "java/util/ArrayDeque" [("java/util/ArrayDeque", "elements", "[Ljava/lang/Object;", (.ref d)), ("java/util/ArrayDeque", "tail", "I", (.int tl)), ("java/util/ArrayDeque", "head", "I", (.int (0 : Int32)))]), (eA d (.object "java/lang/Object") vs), (eO u0 "com/example/deadletter/deadletter/worker/WaitingJobs" [("com/example/deadletter/deadletter/worker/WaitingJobs", "ready", "Ljava/util/Deque;", (.ref r)), ("com/example/deadletter/deadletter/worker/WaitingJobs", "toCount", "Ljava/util/Deque;", (.ref k)), ("com/example/deadletter/deadletter/worker/WaitingJobs", "takenOver", "Lcom/example/deadletter/deadletter/job/Job;", tv)])] ++ F) := H3
  refine OEnds.pre (fun t_ k_ => st3 _ k_) ?_
  show OEnds p e below s _ _ _ (T3.setTop (mkF m 9 #[vR u0] [.null]))
  refine OEnds.pre (fun t_ k_ => OHere.castNull H3 hx (hb hby d21_9) k_) ?_
  show OEnds p e below s _ _ _ (T3.setTop (mkF m 12 #[vR u0] [.null]))
  have Hq4 : OHere p l e _ s m _ below meth c Z n0 0 T3 0 0 ([(eO u0 "com/example/deadletter/deadletter/worker/WaitingJobs" [("com/example/deadletter/deadletter/worker/WaitingJobs", "ready", "Ljava/util/Deque;", (.ref r)), ("com/example/deadletter/deadletter/worker/WaitingJobs", "toCount", "Ljava/util/Deque;", (.ref k)), ("com/example/deadletter/deadletter/worker/WaitingJobs", "takenOver", "Lcom/example/deadletter/deadletter/job/Job;", tv)]), (eO r "java/util/ArrayDeque" [("java/util/ArrayDeque", "elements", "[Ljava/lang/Object;", (.ref d)), ("java/util/ArrayDeque", "tail", "I", (.int tl)), ("java/util/ArrayDeque", "head", "I", (.int (0 : Int32)))]), (eA d (.object "java/lang/Object") vs)] ++ F) := OHere.pick H3 [2, 0, 1] (by decide) rfl
  exact Hq4.areturn hx Bd.notSynchronized Bd.returns rfl rfl (hb hby d21_12) (by decide) (by decide) (fun h L W N => ⟨N, _, ⟨rfl, rfl⟩, W⟩)
set_option maxRecDepth 65536 in
set_option maxHeartbeats 40000000 in
theorem conPF1 (l : Launch) (Z : State) (a0 : Array Value) (hw : ∀ d ∈ tables_1, d.before a0 Z = true) (n0 : Nat) (ws : List Jvm.Cond) (u0 : Addr) (F : List OEnt) (y : Addr) (d : Addr) (vs : List Value) (tl : Int32) (hv : vs.length = 17) (h0v : vs[0]? = some (.ref y)) :
    OCon l Z n0 (⟨"java/util/ArrayDeque", "pollFirst", "()Ljava/lang/Object;"⟩ : MethodName) jdk_21_method_20_code 4 (some (.object "java/lang/Object")) ws ({ frames := 1, cells := 0, slots := 0, locals := 14 } : Room) #[(.ref u0)] ([(eO u0 "java/util/ArrayDeque" [("java/util/ArrayDeque", "elements", "[Ljava/lang/Object;", (.ref d)), ("java/util/ArrayDeque", "tail", "I", (.int tl)), ("java/util/ArrayDeque", "head", "I", (.int (0 : Int32)))]), (eA d (.object "java/lang/Object") vs)] ++ F) (fun v' es' => v' = some (.ref y) ∧ es' = ([(eO u0 "java/util/ArrayDeque" [("java/util/ArrayDeque", "elements", "[Ljava/lang/Object;", (.ref d)), ("java/util/ArrayDeque", "tail", "I", (.int tl)), ("java/util/ArrayDeque", "head", "I", (.int (1 : Int32)))]), (eA d (.object "java/lang/Object") (vs.set 0 .null))] ++ F)) := by
  intro h0 hW0
  refine MetFree.of_bodySF pn_22 hisR ?_
  intro p e s m args below meth c s₁ Bd hml0 hP hK
  obtain ⟨rfl, hZ, hh⟩ := hP
  have hx := Bd.exec
  have hby := Bd.bytes
  have hml : c.maxLocals = 4 := hml0
  have hown : s.vm.findClass "java/util/ArrayDeque" = some m.cls := findClass_of_methodNamed Bd.named
  have hnm := (name_of_methodNamed Bd.named Bd.method).1
  have H0 : OHere p l e ({ frames := 1, cells := 0, slots := 0, locals := 14 } : Room) s m #[(.ref u0)] below meth c Z n0 0 s₁ 0 0 ([(eO u0 "java/util/ArrayDeque" [("java/util/ArrayDeque", "elements", "[Ljava/lang/Object;", (.ref d)), ("java/util/ArrayDeque", "tail", "I", (.int tl)), ("java/util/ArrayDeque", "head", "I", (.int (0 : Int32)))]), (eA d (.object "java/lang/Object") vs)] ++ F) := ⟨[], Stand.of_body Bd, by rw [show s₁.heap = h0 from by rw [← hh, Bd.state]; rfl]; exact hW0, Fr.nil _, Nat.zero_le _⟩
  show OEnds p e below s _ _ (fun v' h' L => Fr n0 L ∧ ∃ es', (fun v' es' => v' = some (.ref y) ∧ es' = ([(eO u0 "java/util/ArrayDeque" [("java/util/ArrayDeque", "elements", "[Ljava/lang/Object;", (.ref d)), ("java/util/ArrayDeque", "tail", "I", (.int tl)), ("java/util/ArrayDeque", "head", "I", (.int (1 : Int32)))]), (eA d (.object "java/lang/Object") (vs.set 0 .null))] ++ F)) v' es' ∧ OWorld Z n0 h' es') _
  refine OEnds.pre (fun t k => castTop (ef_22 m u0) k) ?_
  show OEnds p e below s _ _ _ (s₁.setTop (mkF m 0 #[vR u0, uN, uN, uN] []))
  refine OEnds.pre (fun t_ k_ => XS.aloadN H0.here hx rfl (hb hby d22_0) rfl rfl k_) ?_
  show OEnds p e below s _ _ _ (s₁.setTop (mkF m 1 #[vR u0, uN, uN, uN] [(.ref u0)]))
  obtain ⟨T1, H1, st1⟩ := OHere.getfield H0 hx hZ (O := "java/util/ArrayDeque") (q := 0) (f := 0) (v := (.ref d)) (fs := [("java/util/ArrayDeque", "elements", "[Ljava/lang/Object;", (.ref d)), ("java/util/ArrayDeque", "tail", "I", (.int tl)), ("java/util/ArrayDeque", "head", "I", (.int (0 : Int32)))]) (C := "java/util/ArrayDeque") (pc := 1) (Ls := #[vR u0, uN, uN, uN]) (rest := []) hown (tWd hw 103 rfl) Via.refl rfl rfl (hb hby d22_1)
  replace H1 : OHere p l e _ s m _ below meth c Z n0 0 T1 0 0 ([(eO u0 "java/util/ArrayDeque" [("java/util/ArrayDeque", "elements", "[Ljava/lang/Object;", (.ref d)), ("java/util/ArrayDeque", "tail", "I", (.int tl)), ("java/util/ArrayDeque", "head", "I", (.int (0 : Int32)))]), (eA d (.object "java/lang/Object") vs)] ++ F) := H1
  refine OEnds.pre (fun t_ k_ => st1 _ k_) ?_
  show OEnds p e below s _ _ _ (T1.setTop (mkF m 4 #[vR u0, uN, uN, uN] [(.ref d)]))
  refine OEnds.pre (fun t_ k_ => XS.dup H1.here hx rfl (hb hby d22_4) rfl rfl k_) ?_
  show OEnds p e below s _ _ _ (T1.setTop (mkF m 5 #[vR u0, uN, uN, uN] [(.ref d), (.ref d)]))
  refine OEnds.pre (fun t_ k_ => XS.astoreN H1.here hx rfl (hb hby d22_5) rfl rfl (l' := #[vR u0, vR d, uN, uN]) rfl k_) ?_
  show OEnds p e below s _ _ _ (T1.setTop (mkF m 6 #[vR u0, vR d, uN, uN] [(.ref d)]))
  refine OEnds.pre (fun t_ k_ => XS.aloadN H1.here hx rfl (hb hby d22_6) rfl rfl k_) ?_
  show OEnds p e below s _ _ _ (T1.setTop (mkF m 7 #[vR u0, vR d, uN, uN] [(.ref u0), (.ref d)]))
  obtain ⟨T2, H2, st2⟩ := OHere.getfield H1 hx hZ (O := "java/util/ArrayDeque") (q := 0) (f := 2) (v := (.int (0 : Int32))) (fs := [("java/util/ArrayDeque", "elements", "[Ljava/lang/Object;", (.ref d)), ("java/util/ArrayDeque", "tail", "I", (.int tl)), ("java/util/ArrayDeque", "head", "I", (.int (0 : Int32)))]) (C := "java/util/ArrayDeque") (pc := 7) (Ls := #[vR u0, vR d, uN, uN]) (rest := [(.ref d)]) hown (tWd hw 125 rfl) Via.refl rfl rfl (hb hby d22_7)
  replace H2 : OHere p l e _ s m _ below meth c Z n0 0 T2 0 0 ([(eO u0 "java/util/ArrayDeque" [("java/util/ArrayDeque", "elements", "[Ljava/lang/Object;", (.ref d)), ("java/util/ArrayDeque", "tail", "I", (.int tl)), ("java/util/ArrayDeque", "head", "I", (.int (0 : Int32)))]), (eA d (.object "java/lang/Object") vs)] ++ F) := H2
  refine OEnds.pre (fun t_ k_ => st2 _ k_) ?_
  show OEnds p e below s _ _ _ (T2.setTop (mkF m 10 #[vR u0, vR d, uN, uN] [(.int (0 : Int32)), (.ref d)]))
  refine OEnds.pre (fun t_ k_ => XS.dup H2.here hx rfl (hb hby d22_10) rfl rfl k_) ?_
  show OEnds p e below s _ _ _ (T2.setTop (mkF m 11 #[vR u0, vR d, uN, uN] [(.int (0 : Int32)), (.int (0 : Int32)), (.ref d)]))
  refine OEnds.pre (fun t_ k_ => XS.istoreN H2.here hx rfl (hb hby d22_11) rfl (l' := #[vR u0, vR d, vI (0 : Int32), uN]) rfl k_) ?_
  show OEnds p e below s _ _ _ (T2.setTop (mkF m 12 #[vR u0, vR d, vI (0 : Int32), uN] [(.int (0 : Int32)), (.ref d)]))
  have Hp3 : OHere p l e _ s m _ below meth c Z n0 0 T2 0 0 ([(eA d (.object "java/lang/Object") vs), (eO u0 "java/util/ArrayDeque" [("java/util/ArrayDeque", "elements", "[Ljava/lang/Object;", (.ref d)), ("java/util/ArrayDeque", "tail", "I", (.int tl)), ("java/util/ArrayDeque", "head", "I", (.int (0 : Int32)))])] ++ F) := OHere.pick H2 [1, 0] (by decide) rfl
  obtain ⟨T4, _, _, ⟨rfl, rfl⟩, H4, st4⟩ := OHere.static Hp3 hx hZ (y := (⟨"java/util/ArrayDeque", "elementAt", "([Ljava/lang/Object;I)Ljava/lang/Object;"⟩ : MethodName)) (W := 0) hown (tWd hw 191 rfl) (tWd hw 192 rfl) (tWd hw 96 rfl) (tWd hw 193 rfl) (by decide) (conEA l Z a0 hw n0 [] d ([(eO u0 "java/util/ArrayDeque" [("java/util/ArrayDeque", "elements", "[Ljava/lang/Object;", (.ref d)), ("java/util/ArrayDeque", "tail", "I", (.int tl)), ("java/util/ArrayDeque", "head", "I", (.int (0 : Int32)))])] ++ F) vs (.ref y) rfl h0v) (by decide) (by decide) (pc := 12) (Ls := #[vR u0, vR d, vI (0 : Int32), uN]) (argsL := [(.ref d), (.int (0 : Int32))]) (rest := []) (by rw [hml]; rfl) (lenOf pd_oALjava_lang_Object_IcLjava_lang_Object_ rfl) rfl (Nat.le_of_eq rfl) (hb hby d22_12) (by decide) (by decide)
  replace H4 : OHere p l e _ s m _ below meth c Z n0 0 T4 0 0 ([(eA d (.object "java/lang/Object") vs), (eO u0 "java/util/ArrayDeque" [("java/util/ArrayDeque", "elements", "[Ljava/lang/Object;", (.ref d)), ("java/util/ArrayDeque", "tail", "I", (.int tl)), ("java/util/ArrayDeque", "head", "I", (.int (0 : Int32)))])] ++ F) := H4
  refine OEnds.pre (fun t_ k_ => st4 _ k_) ?_
  show OEnds p e below s _ _ _ (T4.setTop (mkF m 15 #[vR u0, vR d, vI (0 : Int32), uN] [(.ref y)]))
  refine OEnds.pre (fun t_ k_ => XS.astoreN H4.here hx rfl (hb hby d22_15) rfl rfl (l' := #[vR u0, vR d, vI (0 : Int32), vR y]) rfl k_) ?_
  show OEnds p e below s _ _ _ (T4.setTop (mkF m 16 #[vR u0, vR d, vI (0 : Int32), vR y] []))
  refine OEnds.pre (fun t_ k_ => XS.aloadN H4.here hx rfl (hb hby d22_16) rfl rfl k_) ?_
  show OEnds p e below s _ _ _ (T4.setTop (mkF m 17 #[vR u0, vR d, vI (0 : Int32), vR y] [(.ref y)]))
  refine OEnds.pre (fun t_ k_ => XS.ifnullNo H4.here hx rfl (hb hby d22_17) rfl k_) ?_
  show OEnds p e below s _ _ _ (T4.setTop (mkF m 20 #[vR u0, vR d, vI (0 : Int32), vR y] []))
  refine OEnds.pre (fun t_ k_ => XS.aloadN H4.here hx rfl (hb hby d22_20) rfl rfl k_) ?_
  show OEnds p e below s _ _ _ (T4.setTop (mkF m 21 #[vR u0, vR d, vI (0 : Int32), vR y] [(.ref d)]))
  refine OEnds.pre (fun t_ k_ => XS.iloadN H4.here hx rfl (hb hby d22_21) rfl k_) ?_
  show OEnds p e below s _ _ _ (T4.setTop (mkF m 22 #[vR u0, vR d, vI (0 : Int32), vR y] [(.int (0 : Int32)), (.ref d)]))
  refine OEnds.pre (fun t_ k_ => XS.aconstNull H4.here hx rfl (hb hby d22_22) k_) ?_
  show OEnds p e below s _ _ _ (T4.setTop (mkF m 23 #[vR u0, vR d, vI (0 : Int32), vR y] [.null, (.int (0 : Int32)), (.ref d)]))
  obtain ⟨T5, H5, st5⟩ := OHere.aastore H4 hx hZ (q := 0) (i := 0) (vs := vs) (v := .null) (j := (0 : Int32)) (pc := 23) (Ls := #[vR u0, vR d, vI (0 : Int32), vR y]) (rest := []) (C := "java/lang/Object") rfl (by decide) (by decide) (by omega) (a0 := a0) (Or.inl rfl) (hb hby d22_23)
  replace H5 : OHere p l e _ s m _ below meth c Z n0 0 T5 0 0 ([(eA d (.object "java/lang/Object") (vs.set 0 .null)), (eO u0 "java/util/ArrayDeque" [("java/util/ArrayDeque", "elements", "[Ljava/lang/Object;", (.ref d)), ("java/util/ArrayDeque", "tail", "I", (.int tl)), ("java/util/ArrayDeque", "head", "I", (.int (0 : Int32)))])] ++ F) := H5
  refine OEnds.pre (fun t_ k_ => st5 _ k_) ?_
  show OEnds p e below s _ _ _ (T5.setTop (mkF m 24 #[vR u0, vR d, vI (0 : Int32), vR y] []))
  refine OEnds.pre (fun t_ k_ => XS.aloadN H5.here hx rfl (hb hby d22_24) rfl rfl k_) ?_
  show OEnds p e below s _ _ _ (T5.setTop (mkF m 25 #[vR u0, vR d, vI (0 : Int32), vR y] [(.ref u0)]))
  refine OEnds.pre (fun t_ k_ => XS.iloadN H5.here hx rfl (hb hby d22_25) rfl k_) ?_
  show OEnds p e below s _ _ _ (T5.setTop (mkF m 26 #[vR u0, vR d, vI (0 : Int32), vR y] [(.int (0 : Int32)), (.ref u0)]))
  refine OEnds.pre (fun t_ k_ => XS.aloadN H5.here hx rfl (hb hby d22_26) rfl rfl k_) ?_
  show OEnds p e below s _ _ _ (T5.setTop (mkF m 27 #[vR u0, vR d, vI (0 : Int32), vR y] [(.ref d), (.int (0 : Int32)), (.ref u0)]))
  refine OEnds.pre (fun t_ k_ => OHere.len H5 hx hZ (q := 0) (vs := (vs.set 0 .null)) (z := (17 : Int32)) rfl (by rw [List.length_set, hv]; rfl) (hb hby d22_27) k_) ?_
  show OEnds p e below s _ _ _ (T5.setTop (mkF m 28 #[vR u0, vR d, vI (0 : Int32), vR y] [(.int (17 : Int32)), (.int (0 : Int32)), (.ref u0)]))
  obtain ⟨T6, _, _, ⟨rfl, rfl⟩, H6, st6⟩ := OHere.static H5 hx hZ (y := (⟨"java/util/ArrayDeque", "inc", "(II)I"⟩ : MethodName)) (W := 1) hown (tWd hw 247 rfl) (tWd hw 248 rfl) (tWd hw 96 rfl) (tWd hw 249 rfl) (by decide) (conInc l Z a0 hw n0 [] (0 : Int32) (17 : Int32) (1 : Int32) inc_0 ([] ++ ([(eA d (.object "java/lang/Object") (vs.set 0 .null)), (eO u0 "java/util/ArrayDeque" [("java/util/ArrayDeque", "elements", "[Ljava/lang/Object;", (.ref d)), ("java/util/ArrayDeque", "tail", "I", (.int tl)), ("java/util/ArrayDeque", "head", "I", (.int (0 : Int32)))])] ++ F))) (by decide) (by decide) (pc := 28) (Ls := #[vR u0, vR d, vI (0 : Int32), vR y]) (argsL := [(.int (0 : Int32)), (.int (17 : Int32))]) (rest := [(.ref u0)]) (by rw [hml]; rfl) (lenOf pd_oIIcI rfl) rfl (Nat.le_of_eq rfl) (hb hby d22_28) (by decide) (by decide)
  replace H6 : OHere p l e _ s m _ below meth c Z n0 0 T6 0 0 ([(eA d (.object "java/lang/Object") (vs.set 0 .null)), (eO u0 "java/util/ArrayDeque" [("java/util/ArrayDeque", "elements", "[Ljava/lang/Object;", (.ref d)), ("java/util/ArrayDeque", "tail", "I", (.int tl)), ("java/util/ArrayDeque", "head", "I", (.int (0 : Int32)))])] ++ F) := H6
  refine OEnds.pre (fun t_ k_ => st6 _ k_) ?_
  show OEnds p e below s _ _ _ (T6.setTop (mkF m 31 #[vR u0, vR d, vI (0 : Int32), vR y] [(.int (1 : Int32)), (.ref u0)]))
  obtain ⟨T7, H7, st7⟩ := OHere.putfield H6 hx hZ (O := "java/util/ArrayDeque") (q := 1) (f := 2) (v := (.int (1 : Int32))) (C := "java/util/ArrayDeque") (ty := .int) (pc := 31) (Ls := #[vR u0, vR d, vI (0 : Int32), vR y]) (rest := []) hown (tWd hw 125 rfl) Via.refl (fs := [("java/util/ArrayDeque", "elements", "[Ljava/lang/Object;", (.ref d)), ("java/util/ArrayDeque", "tail", "I", (.int tl)), ("java/util/ArrayDeque", "head", "I", (.int (0 : Int32)))]) rfl rfl (Or.inl (tWd hw 126 rfl)) (tWd hw 95 rfl) (by decide) rfl rfl (hb hby d22_31)
  replace H7 : OHere p l e _ s m _ below meth c Z n0 0 T7 0 0 ([(eA d (.object "java/lang/Object") (vs.set 0 .null)), (eO u0 "java/util/ArrayDeque" [("java/util/ArrayDeque", "elements", "[Ljava/lang/Object;", (.ref d)), ("java/util/ArrayDeque", "tail", "I", (.int tl)), ("java/util/ArrayDeque", "head", "I", (.int (1 : Int32)))])] ++ F) := H7
  refine OEnds.pre (fun t_ k_ => st7 _ k_) ?_
  show OEnds p e below s _ _ _ (T7.setTop (mkF m 34 #[vR u0, vR d, vI (0 : Int32), vR y] []))
  refine OEnds.pre (fun t_ k_ => XS.aloadN H7.here hx rfl (hb hby d22_34) rfl rfl k_) ?_
  show OEnds p e below s _ _ _ (T7.setTop (mkF m 35 #[vR u0, vR d, vI (0 : Int32), vR y] [(.ref y)]))
  have Hq8 : OHere p l e _ s m _ below meth c Z n0 0 T7 0 0 ([(eO u0 "java/util/ArrayDeque" [("java/util/ArrayDeque", "elements", "[Ljava/lang/Object;", (.ref d)), ("java/util/ArrayDeque", "tail", "I", (.int tl)), ("java/util/ArrayDeque", "head", "I", (.int (1 : Int32)))]), (eA d (.object "java/lang/Object") (vs.set 0 .null))] ++ F) := OHere.pick H7 [1, 0] (by decide) rfl
  exact Hq8.areturn hx Bd.notSynchronized Bd.returns rfl rfl (hb hby d22_35) (by decide) (by decide) (fun h L W N => ⟨N, _, ⟨rfl, rfl⟩, W⟩)
set_option maxRecDepth 65536 in
set_option maxHeartbeats 40000000 in
theorem conTk1 (l : Launch) (Z : State) (a0 : Array Value) (hw : ∀ d ∈ tables_1, d.before a0 Z = true) (n0 : Nat) (ws : List Jvm.Cond) (u0 : Addr) (F : List OEnt) (y : Addr) (fy : List OFEnt) (hyF : eO y "com/example/deadletter/deadletter/job/Job" fy ∈ F) (r k d : Addr) (tv : Value) (vs : List Value) (tl : Int32) (hv : vs.length = 17) (h0v : vs[0]? = some (.ref y)) :
    OCon l Z n0 (⟨"com/example/deadletter/deadletter/worker/WaitingJobs", "take", "()Lcom/example/deadletter/deadletter/job/Job;"⟩ : MethodName) prog_45_method_4_code 1 (some (.object "com/example/deadletter/deadletter/job/Job")) ws ({ frames := 2, cells := 0, slots := 0, locals := 29 } : Room) #[(.ref u0)] ([(eO u0 "com/example/deadletter/deadletter/worker/WaitingJobs" [("com/example/deadletter/deadletter/worker/WaitingJobs", "ready", "Ljava/util/Deque;", (.ref r)), ("com/example/deadletter/deadletter/worker/WaitingJobs", "toCount", "Ljava/util/Deque;", (.ref k)), ("com/example/deadletter/deadletter/worker/WaitingJobs", "takenOver", "Lcom/example/deadletter/deadletter/job/Job;", tv)]), (eO r "java/util/ArrayDeque" [("java/util/ArrayDeque", "elements", "[Ljava/lang/Object;", (.ref d)), ("java/util/ArrayDeque", "tail", "I", (.int tl)), ("java/util/ArrayDeque", "head", "I", (.int (0 : Int32)))]), (eA d (.object "java/lang/Object") vs)] ++ F) (fun v' es' => v' = some (.ref y) ∧ es' = ([(eO u0 "com/example/deadletter/deadletter/worker/WaitingJobs" [("com/example/deadletter/deadletter/worker/WaitingJobs", "ready", "Ljava/util/Deque;", (.ref r)), ("com/example/deadletter/deadletter/worker/WaitingJobs", "toCount", "Ljava/util/Deque;", (.ref k)), ("com/example/deadletter/deadletter/worker/WaitingJobs", "takenOver", "Lcom/example/deadletter/deadletter/job/Job;", tv)]), (eO r "java/util/ArrayDeque" [("java/util/ArrayDeque", "elements", "[Ljava/lang/Object;", (.ref d)), ("java/util/ArrayDeque", "tail", "I", (.int tl)), ("java/util/ArrayDeque", "head", "I", (.int (1 : Int32)))]), (eA d (.object "java/lang/Object") (vs.set 0 .null))] ++ F)) := by
  intro h0 hW0
  refine MetFree.of_bodySF pn_21 hisR ?_
  intro p e s m args below meth c s₁ Bd hml0 hP hK
  obtain ⟨rfl, hZ, hh⟩ := hP
  have hx := Bd.exec
  have hby := Bd.bytes
  have hml : c.maxLocals = 1 := hml0
  have hown : s.vm.findClass "com/example/deadletter/deadletter/worker/WaitingJobs" = some m.cls := findClass_of_methodNamed Bd.named
  have hnm := (name_of_methodNamed Bd.named Bd.method).1
  have H0 : OHere p l e ({ frames := 2, cells := 0, slots := 0, locals := 29 } : Room) s m #[(.ref u0)] below meth c Z n0 0 s₁ 0 0 ([(eO u0 "com/example/deadletter/deadletter/worker/WaitingJobs" [("com/example/deadletter/deadletter/worker/WaitingJobs", "ready", "Ljava/util/Deque;", (.ref r)), ("com/example/deadletter/deadletter/worker/WaitingJobs", "toCount", "Ljava/util/Deque;", (.ref k)), ("com/example/deadletter/deadletter/worker/WaitingJobs", "takenOver", "Lcom/example/deadletter/deadletter/job/Job;", tv)]), (eO r "java/util/ArrayDeque" [("java/util/ArrayDeque", "elements", "[Ljava/lang/Object;", (.ref d)), ("java/util/ArrayDeque", "tail", "I", (.int tl)), ("java/util/ArrayDeque", "head", "I", (.int (0 : Int32)))]), (eA d (.object "java/lang/Object") vs)] ++ F) := ⟨[], Stand.of_body Bd, by rw [show s₁.heap = h0 from by rw [← hh, Bd.state]; rfl]; exact hW0, Fr.nil _, Nat.zero_le _⟩
  show OEnds p e below s _ _ (fun v' h' L => Fr n0 L ∧ ∃ es', (fun v' es' => v' = some (.ref y) ∧ es' = ([(eO u0 "com/example/deadletter/deadletter/worker/WaitingJobs" [("com/example/deadletter/deadletter/worker/WaitingJobs", "ready", "Ljava/util/Deque;", (.ref r)), ("com/example/deadletter/deadletter/worker/WaitingJobs", "toCount", "Ljava/util/Deque;", (.ref k)), ("com/example/deadletter/deadletter/worker/WaitingJobs", "takenOver", "Lcom/example/deadletter/deadletter/job/Job;", tv)]), (eO r "java/util/ArrayDeque" [("java/util/ArrayDeque", "elements", "[Ljava/lang/Object;", (.ref d)), ("java/util/ArrayDeque", "tail", "I", (.int tl)), ("java/util/ArrayDeque", "head", "I", (.int (1 : Int32)))]), (eA d (.object "java/lang/Object") (vs.set 0 .null))] ++ F)) v' es' ∧ OWorld Z n0 h' es') _
  refine OEnds.pre (fun t k => castTop (ef_21 m u0) k) ?_
  show OEnds p e below s _ _ _ (s₁.setTop (mkF m 0 #[vR u0] []))
  refine OEnds.pre (fun t_ k_ => XS.aloadN H0.here hx rfl (hb hby d21_0) rfl rfl k_) ?_
  show OEnds p e below s _ _ _ (s₁.setTop (mkF m 1 #[vR u0] [(.ref u0)]))
  obtain ⟨T1, H1, st1⟩ := OHere.getfield H0 hx hZ (O := "com/example/deadletter/deadletter/worker/WaitingJobs") (q := 0) (f := 0) (v := (.ref r)) (fs := [("com/example/deadletter/deadletter/worker/WaitingJobs", "ready", "Ljava/util/Deque;", (.ref r)), ("com/example/deadletter/deadletter/worker/WaitingJobs", "toCount", "Ljava/util/Deque;", (.ref k)), ("com/example/deadletter/deadletter/worker/WaitingJobs", "takenOver", "Lcom/example/deadletter/deadletter/job/Job;", tv)]) (C := "com/example/deadletter/deadletter/worker/WaitingJobs") (pc := 1) (Ls := #[vR u0]) (rest := []) hown (tWd hw 105 rfl) Via.refl rfl rfl (hb hby d21_1)
  replace H1 : OHere p l e _ s m _ below meth c Z n0 0 T1 0 0 ([(eO u0 "com/example/deadletter/deadletter/worker/WaitingJobs" [("com/example/deadletter/deadletter/worker/WaitingJobs", "ready", "Ljava/util/Deque;", (.ref r)), ("com/example/deadletter/deadletter/worker/WaitingJobs", "toCount", "Ljava/util/Deque;", (.ref k)), ("com/example/deadletter/deadletter/worker/WaitingJobs", "takenOver", "Lcom/example/deadletter/deadletter/job/Job;", tv)]), (eO r "java/util/ArrayDeque" [("java/util/ArrayDeque", "elements", "[Ljava/lang/Object;", (.ref d)), ("java/util/ArrayDeque", "tail", "I", (.int tl)), ("java/util/ArrayDeque", "head", "I", (.int (0 : Int32)))]), (eA d (.object "java/lang/Object") vs)] ++ F) := H1
  refine OEnds.pre (fun t_ k_ => st1 _ k_) ?_
  show OEnds p e below s _ _ _ (T1.setTop (mkF m 4 #[vR u0] [(.ref r)]))
  have Hp2 : OHere p l e _ s m _ below meth c Z n0 0 T1 0 0 ([(eO r "java/util/ArrayDeque" [("java/util/ArrayDeque", "elements", "[Ljava/lang/Object;", (.ref d)), ("java/util/ArrayDeque", "tail", "I", (.int tl)), ("java/util/ArrayDeque", "head", "I", (.int (0 : Int32)))]), (eA d (.object "java/lang/Object") vs), (eO u0 "com/example/deadletter/deadletter/worker/WaitingJobs" [("com/example/deadletter/deadletter/worker/WaitingJobs", "ready", "Ljava/util/Deque;", (.ref r)), ("com/example/deadletter/deadletter/worker/WaitingJobs", "toCount", "Ljava/util/Deque;", (.ref k)), ("com/example/deadletter/deadletter/worker/WaitingJobs", "takenOver", "Lcom/example/deadletter/deadletter/job/Job;", tv)])] ++ F) := OHere.pick H1 [1, 2, 0] (by decide) rfl
  obtain ⟨T3, _, _, ⟨rfl, rfl⟩, H3, st3⟩ := OHere.face Hp2 hx hZ (y := (⟨"java/util/Deque", "pollFirst", "()Ljava/lang/Object;"⟩ : MethodName)) (z := (⟨"java/util/ArrayDeque", "pollFirst", "()Ljava/lang/Object;"⟩ : MethodName)) (W := 0) (a := r) (q := 0) (fs := [("java/util/ArrayDeque", "elements", "[Ljava/lang/Object;", (.ref d)), ("java/util/ArrayDeque", "tail", "I", (.int tl)), ("java/util/ArrayDeque", "head", "I", (.int (0 : Int32)))]) hown (tWd hw 183 rfl) (tWd hw 184 rfl) (tWd hw 185 rfl) rfl (tWd hw 186 rfl) (tWd hw 187 rfl) (tWd hw 188 rfl) (tWd hw 189 rfl) (tWd hw 121 rfl) (tWd hw 96 rfl) (tWd hw 190 rfl) (by decide) rfl (conPF1 l Z a0 hw n0 [] r ([(eO u0 "com/example/deadletter/deadletter/worker/WaitingJobs" [("com/example/deadletter/deadletter/worker/WaitingJobs", "ready", "Ljava/util/Deque;", (.ref r)), ("com/example/deadletter/deadletter/worker/WaitingJobs", "toCount", "Ljava/util/Deque;", (.ref k)), ("com/example/deadletter/deadletter/worker/WaitingJobs", "takenOver", "Lcom/example/deadletter/deadletter/job/Job;", tv)])] ++ F) y d vs tl hv h0v) (by decide) (by decide) (pc := 4) (Ls := #[vR u0]) (argsL := []) (rest := []) (by rw [hml]; rfl) (lenOf pd_ocLjava_lang_Object_ rfl) rfl (Nat.le_of_eq rfl) (hb hby d21_4) (by decide) (by decide)
  replace H3 : OHere p l e _ s m _ below meth c Z n0 0 T3 0 0 ([(eO r "java/util/ArrayDeque" [("java/util/ArrayDeque", "elements", "[Ljava/lang/Object;", (.ref d)), ("java/util/ArrayDeque", "tail", "I", (.int tl)), ("java/util/ArrayDeque", "head", "I", (.int (1 : Int32)))]), (eA d (.object "java/lang/Object") (vs.set 0 .null)), (eO u0 "com/example/deadletter/deadletter/worker/WaitingJobs" [("com/example/deadletter/deadletter/worker/WaitingJobs", "ready", "Ljava/util/Deque;", (.ref r)), ("com/example/deadletter/deadletter/worker/WaitingJobs", "toCount", "Ljava/util/Deque;", (.ref k)), ("com/example/deadletter/deadletter/worker/WaitingJobs", "takenOver", "Lcom/example/deadletter/deadletter/job/Job;", tv)])] ++ F) := H3
  refine OEnds.pre (fun t_ k_ => st3 _ k_) ?_
  show OEnds p e below s _ _ _ (T3.setTop (mkF m 9 #[vR u0] [(.ref y)]))
  obtain ⟨T4, H4, st4⟩ := OHere.cast H3 hx hZ (q := _) (fs := fy) (pc := 9) (Ls := #[vR u0]) (rest := []) hown (tWd hw 208 rfl) (memAt hyF).choose_spec (hb hby d21_9)
  replace H4 : OHere p l e _ s m _ below meth c Z n0 0 T4 0 0 ([(eO r "java/util/ArrayDeque" [("java/util/ArrayDeque", "elements", "[Ljava/lang/Object;", (.ref d)), ("java/util/ArrayDeque", "tail", "I", (.int tl)), ("java/util/ArrayDeque", "head", "I", (.int (1 : Int32)))]), (eA d (.object "java/lang/Object") (vs.set 0 .null)), (eO u0 "com/example/deadletter/deadletter/worker/WaitingJobs" [("com/example/deadletter/deadletter/worker/WaitingJobs", "ready", "Ljava/util/Deque;", (.ref r)), ("com/example/deadletter/deadletter/worker/WaitingJobs", "toCount", "Ljava/util/Deque;", (.ref k)), ("com/example/deadletter/deadletter/worker/WaitingJobs", "takenOver", "Lcom/example/deadletter/deadletter/job/Job;", tv)])] ++ F) := H4
  refine OEnds.pre (fun t_ k_ => st4 _ k_) ?_
  show OEnds p e below s _ _ _ (T4.setTop (mkF m 12 #[vR u0] [(.ref y)]))
  have Hq5 : OHere p l e _ s m _ below meth c Z n0 0 T4 0 0 ([(eO u0 "com/example/deadletter/deadletter/worker/WaitingJobs" [("com/example/deadletter/deadletter/worker/WaitingJobs", "ready", "Ljava/util/Deque;", (.ref r)), ("com/example/deadletter/deadletter/worker/WaitingJobs", "toCount", "Ljava/util/Deque;", (.ref k)), ("com/example/deadletter/deadletter/worker/WaitingJobs", "takenOver", "Lcom/example/deadletter/deadletter/job/Job;", tv)]), (eO r "java/util/ArrayDeque" [("java/util/ArrayDeque", "elements", "[Ljava/lang/Object;", (.ref d)), ("java/util/ArrayDeque", "tail", "I", (.int tl)), ("java/util/ArrayDeque", "head", "I", (.int (1 : Int32)))]), (eA d (.object "java/lang/Object") (vs.set 0 .null))] ++ F) := OHere.pick H4 [2, 0, 1] (by decide) rfl
  exact Hq5.areturn hx Bd.notSynchronized Bd.returns rfl rfl (hb hby d21_12) (by decide) (by decide) (fun h L W N => ⟨N, _, ⟨rfl, rfl⟩, W⟩)
theorem d20_0 : decode prog_45_method_3_code 0 = .ok (.aload_n 1, 1) := by decide +kernel
theorem d20_1 : decode prog_45_method_3_code 1 = .ok (.aload_n 0, 1) := by decide +kernel
theorem d20_2 : decode prog_45_method_3_code 2 = .ok (.getfield 37, 3) := by decide +kernel
theorem d20_5 : decode prog_45_method_3_code 5 = .ok (.if_acmp .ne 19, 3) := by decide +kernel
theorem d20_8 : decode prog_45_method_3_code 8 = .ok (.aload_n 0, 1) := by decide +kernel
theorem d20_9 : decode prog_45_method_3_code 9 = .ok (.aconst_null, 1) := by decide +kernel
theorem d20_10 : decode prog_45_method_3_code 10 = .ok (.putfield 37, 3) := by decide +kernel
theorem d20_13 : decode prog_45_method_3_code 13 = .ok (.aload_n 0, 1) := by decide +kernel
theorem d20_14 : decode prog_45_method_3_code 14 = .ok (.getfield 10, 3) := by decide +kernel
theorem d20_17 : decode prog_45_method_3_code 17 = .ok (.aload_n 1, 1) := by decide +kernel
theorem d20_18 : decode prog_45_method_3_code 18 = .ok (.invokeinterface 47 2, 5) := by decide +kernel
theorem d20_23 : decode prog_45_method_3_code 23 = .ok (.pop, 1) := by decide +kernel
theorem d20_24 : decode prog_45_method_3_code 24 = .ok (.return_, 1) := by decide +kernel
theorem pn_20 : plainFor (⟨"com/example/deadletter/deadletter/worker/WaitingJobs", "turnCome", "(Lcom/example/deadletter/deadletter/job/Job;)V"⟩ : MethodName) = true := by first | exact plainFor_of_name (by first | (simp [plainName, overriddenIn]; done) | decide +kernel) | decide +kernel
theorem ef_20 (m : MethodId) (x0 : Addr) (x1 : Addr) : entryFrame m #[(.ref x0), (.ref x1)] 2 = mkF m 0 #[.val (.ref x0), .val (.ref x1)] [] := by first | (simp [entryFrame, mkF, argsToLocals, Value.category]; done) | rfl
set_option maxRecDepth 65536 in
set_option maxHeartbeats 40000000 in
theorem conTC0 (l : Launch) (Z : State) (a0 : Array Value) (hw : ∀ d ∈ tables_1, d.before a0 Z = true) (n0 : Nat) (ws : List Jvm.Cond) (u0 : Addr) (F : List OEnt) (x : Addr) (fx : List OFEnt) (hxF : eO x "com/example/deadletter/deadletter/job/Job" fx ∈ F) (r k d : Addr) (tv : Value) (htv : tv.isRef = true) (hne : ¬ (.ref x : Value) = tv) (vs : List Value) (n : Nat) (hv : vs.length = 17) (hk : n < 16) :
    OCon l Z n0 (⟨"com/example/deadletter/deadletter/worker/WaitingJobs", "turnCome", "(Lcom/example/deadletter/deadletter/job/Job;)V"⟩ : MethodName) prog_45_method_3_code 2 none ws ({ frames := 0, cells := 0, slots := 0, locals := 0 } : Room) #[(.ref u0), (.ref x)] ([(eO u0 "com/example/deadletter/deadletter/worker/WaitingJobs" [("com/example/deadletter/deadletter/worker/WaitingJobs", "ready", "Ljava/util/Deque;", (.ref r)), ("com/example/deadletter/deadletter/worker/WaitingJobs", "toCount", "Ljava/util/Deque;", (.ref k)), ("com/example/deadletter/deadletter/worker/WaitingJobs", "takenOver", "Lcom/example/deadletter/deadletter/job/Job;", tv)]), (eO r "java/util/ArrayDeque" [("java/util/ArrayDeque", "elements", "[Ljava/lang/Object;", (.ref d)), ("java/util/ArrayDeque", "tail", "I", (.int (n).toInt32)), ("java/util/ArrayDeque", "head", "I", (.int (0 : Int32)))]), (eA d (.object "java/lang/Object") vs)] ++ F) (fun v' es' => v' = none ∧ es' = ([(eO u0 "com/example/deadletter/deadletter/worker/WaitingJobs" [("com/example/deadletter/deadletter/worker/WaitingJobs", "ready", "Ljava/util/Deque;", (.ref r)), ("com/example/deadletter/deadletter/worker/WaitingJobs", "toCount", "Ljava/util/Deque;", (.ref k)), ("com/example/deadletter/deadletter/worker/WaitingJobs", "takenOver", "Lcom/example/deadletter/deadletter/job/Job;", tv)]), (eO r "java/util/ArrayDeque" [("java/util/ArrayDeque", "elements", "[Ljava/lang/Object;", (.ref d)), ("java/util/ArrayDeque", "tail", "I", (.int (n).toInt32)), ("java/util/ArrayDeque", "head", "I", (.int (0 : Int32)))]), (eA d (.object "java/lang/Object") vs)] ++ F)) := by
  intro h0 hW0
  refine MetFree.of_bodySF pn_20 hisR ?_
  intro p e s m args below meth c s₁ Bd hml0 hP hK
  obtain ⟨rfl, hZ, hh⟩ := hP
  have hx := Bd.exec
  have hby := Bd.bytes
  have hml : c.maxLocals = 2 := hml0
  have hown : s.vm.findClass "com/example/deadletter/deadletter/worker/WaitingJobs" = some m.cls := findClass_of_methodNamed Bd.named
  have hnm := (name_of_methodNamed Bd.named Bd.method).1
  have H0 : OHere p l e ({ frames := 0, cells := 0, slots := 0, locals := 0 } : Room) s m #[(.ref u0), (.ref x)] below meth c Z n0 0 s₁ 0 0 ([(eO u0 "com/example/deadletter/deadletter/worker/WaitingJobs" [("com/example/deadletter/deadletter/worker/WaitingJobs", "ready", "Ljava/util/Deque;", (.ref r)), ("com/example/deadletter/deadletter/worker/WaitingJobs", "toCount", "Ljava/util/Deque;", (.ref k)), ("com/example/deadletter/deadletter/worker/WaitingJobs", "takenOver", "Lcom/example/deadletter/deadletter/job/Job;", tv)]), (eO r "java/util/ArrayDeque" [("java/util/ArrayDeque", "elements", "[Ljava/lang/Object;", (.ref d)), ("java/util/ArrayDeque", "tail", "I", (.int (n).toInt32)), ("java/util/ArrayDeque", "head", "I", (.int (0 : Int32)))]), (eA d (.object "java/lang/Object") vs)] ++ F) := ⟨[], Stand.of_body Bd, by rw [show s₁.heap = h0 from by rw [← hh, Bd.state]; rfl]; exact hW0, Fr.nil _, Nat.zero_le _⟩
  show OEnds p e below s _ _ (fun v' h' L => Fr n0 L ∧ ∃ es', (fun v' es' => v' = none ∧ es' = ([(eO u0 "com/example/deadletter/deadletter/worker/WaitingJobs" [("com/example/deadletter/deadletter/worker/WaitingJobs", "ready", "Ljava/util/Deque;", (.ref r)), ("com/example/deadletter/deadletter/worker/WaitingJobs", "toCount", "Ljava/util/Deque;", (.ref k)), ("com/example/deadletter/deadletter/worker/WaitingJobs", "takenOver", "Lcom/example/deadletter/deadletter/job/Job;", tv)]), (eO r "java/util/ArrayDeque" [("java/util/ArrayDeque", "elements", "[Ljava/lang/Object;", (.ref d)), ("java/util/ArrayDeque", "tail", "I", (.int (n).toInt32)), ("java/util/ArrayDeque", "head", "I", (.int (0 : Int32)))]), (eA d (.object "java/lang/Object") vs)] ++ F)) v' es' ∧ OWorld Z n0 h' es') _
  refine OEnds.pre (fun t k => castTop (ef_20 m u0 x) k) ?_
  show OEnds p e below s _ _ _ (s₁.setTop (mkF m 0 #[vR u0, vR x] []))
  refine OEnds.pre (fun t_ k_ => XS.aloadN H0.here hx rfl (hb hby d20_0) rfl rfl k_) ?_
  show OEnds p e below s _ _ _ (s₁.setTop (mkF m 1 #[vR u0, vR x] [(.ref x)]))
  refine OEnds.pre (fun t_ k_ => XS.aloadN H0.here hx rfl (hb hby d20_1) rfl rfl k_) ?_
  show OEnds p e below s _ _ _ (s₁.setTop (mkF m 2 #[vR u0, vR x] [(.ref u0), (.ref x)]))
  obtain ⟨T1, H1, st1⟩ := OHere.getfield H0 hx hZ (O := "com/example/deadletter/deadletter/worker/WaitingJobs") (q := 0) (f := 2) (v := tv) (fs := [("com/example/deadletter/deadletter/worker/WaitingJobs", "ready", "Ljava/util/Deque;", (.ref r)), ("com/example/deadletter/deadletter/worker/WaitingJobs", "toCount", "Ljava/util/Deque;", (.ref k)), ("com/example/deadletter/deadletter/worker/WaitingJobs", "takenOver", "Lcom/example/deadletter/deadletter/job/Job;", tv)]) (C := "com/example/deadletter/deadletter/worker/WaitingJobs") (pc := 2) (Ls := #[vR u0, vR x]) (rest := [(.ref x)]) hown (tWd hw 130 rfl) Via.refl rfl rfl (hb hby d20_2)
  replace H1 : OHere p l e _ s m _ below meth c Z n0 0 T1 0 0 ([(eO u0 "com/example/deadletter/deadletter/worker/WaitingJobs" [("com/example/deadletter/deadletter/worker/WaitingJobs", "ready", "Ljava/util/Deque;", (.ref r)), ("com/example/deadletter/deadletter/worker/WaitingJobs", "toCount", "Ljava/util/Deque;", (.ref k)), ("com/example/deadletter/deadletter/worker/WaitingJobs", "takenOver", "Lcom/example/deadletter/deadletter/job/Job;", tv)]), (eO r "java/util/ArrayDeque" [("java/util/ArrayDeque", "elements", "[Ljava/lang/Object;", (.ref d)), ("java/util/ArrayDeque", "tail", "I", (.int (n).toInt32)), ("java/util/ArrayDeque", "head", "I", (.int (0 : Int32)))]), (eA d (.object "java/lang/Object") vs)] ++ F) := H1
  refine OEnds.pre (fun t_ k_ => st1 _ k_) ?_
  show OEnds p e below s _ _ _ (T1.setTop (mkF m 5 #[vR u0, vR x] [tv, (.ref x)]))
  refine OEnds.pre (fun t_ k_ => XT.acmpYes H1.here hx rfl (pc0 := 5) (pc' := 24) rfl (hb hby d20_5) rfl rfl htv (XT.aa_ne_t hne) (by decide) (by decide) k_) ?_
  show OEnds p e below s _ _ _ (T1.setTop (mkF m 24 #[vR u0, vR x] []))
  exact H1.ret hx Bd.notSynchronized Bd.returns (hb hby d20_24) (by decide) (by decide) (fun h L W N => ⟨N, _, ⟨rfl, rfl⟩, W⟩)
set_option maxRecDepth 65536 in
set_option maxHeartbeats 40000000 in
theorem conTC1 (l : Launch) (Z : State) (a0 : Array Value) (hw : ∀ d ∈ tables_1, d.before a0 Z = true) (n0 : Nat) (ws : List Jvm.Cond) (u0 : Addr) (F : List OEnt) (x : Addr) (fx : List OFEnt) (hxF : eO x "com/example/deadletter/deadletter/job/Job" fx ∈ F) (r k d : Addr) (vs : List Value) (n : Nat) (hv : vs.length = 17) (hk : n < 16) :
    OCon l Z n0 (⟨"com/example/deadletter/deadletter/worker/WaitingJobs", "turnCome", "(Lcom/example/deadletter/deadletter/job/Job;)V"⟩ : MethodName) prog_45_method_3_code 2 none ws ({ frames := 3, cells := 0, slots := 0, locals := 42 } : Room) #[(.ref u0), (.ref x)] ([(eO u0 "com/example/deadletter/deadletter/worker/WaitingJobs" [("com/example/deadletter/deadletter/worker/WaitingJobs", "ready", "Ljava/util/Deque;", (.ref r)), ("com/example/deadletter/deadletter/worker/WaitingJobs", "toCount", "Ljava/util/Deque;", (.ref k)), ("com/example/deadletter/deadletter/worker/WaitingJobs", "takenOver", "Lcom/example/deadletter/deadletter/job/Job;", (.ref x))]), (eO r "java/util/ArrayDeque" [("java/util/ArrayDeque", "elements", "[Ljava/lang/Object;", (.ref d)), ("java/util/ArrayDeque", "tail", "I", (.int (n).toInt32)), ("java/util/ArrayDeque", "head", "I", (.int (0 : Int32)))]), (eA d (.object "java/lang/Object") vs)] ++ F) (fun v' es' => v' = none ∧ es' = ([(eO u0 "com/example/deadletter/deadletter/worker/WaitingJobs" [("com/example/deadletter/deadletter/worker/WaitingJobs", "ready", "Ljava/util/Deque;", (.ref r)), ("com/example/deadletter/deadletter/worker/WaitingJobs", "toCount", "Ljava/util/Deque;", (.ref k)), ("com/example/deadletter/deadletter/worker/WaitingJobs", "takenOver", "Lcom/example/deadletter/deadletter/job/Job;", .null)]), (eO r "java/util/ArrayDeque" [("java/util/ArrayDeque", "elements", "[Ljava/lang/Object;", (.ref d)), ("java/util/ArrayDeque", "tail", "I", (.int (n + 1).toInt32)), ("java/util/ArrayDeque", "head", "I", (.int (0 : Int32)))]), (eA d (.object "java/lang/Object") (vs.set n (.ref x)))] ++ F)) := by
  intro h0 hW0
  refine MetFree.of_bodySF pn_20 hisR ?_
  intro p e s m args below meth c s₁ Bd hml0 hP hK
  obtain ⟨rfl, hZ, hh⟩ := hP
  have hx := Bd.exec
  have hby := Bd.bytes
  have hml : c.maxLocals = 2 := hml0
  have hown : s.vm.findClass "com/example/deadletter/deadletter/worker/WaitingJobs" = some m.cls := findClass_of_methodNamed Bd.named
  have hnm := (name_of_methodNamed Bd.named Bd.method).1
  have H0 : OHere p l e ({ frames := 3, cells := 0, slots := 0, locals := 42 } : Room) s m #[(.ref u0), (.ref x)] below meth c Z n0 0 s₁ 0 0 ([(eO u0 "com/example/deadletter/deadletter/worker/WaitingJobs" [("com/example/deadletter/deadletter/worker/WaitingJobs", "ready", "Ljava/util/Deque;", (.ref r)), ("com/example/deadletter/deadletter/worker/WaitingJobs", "toCount", "Ljava/util/Deque;", (.ref k)), ("com/example/deadletter/deadletter/worker/WaitingJobs", "takenOver", "Lcom/example/deadletter/deadletter/job/Job;", (.ref x))]), (eO r "java/util/ArrayDeque" [("java/util/ArrayDeque", "elements", "[Ljava/lang/Object;", (.ref d)), ("java/util/ArrayDeque", "tail", "I", (.int (n).toInt32)), ("java/util/ArrayDeque", "head", "I", (.int (0 : Int32)))]), (eA d (.object "java/lang/Object") vs)] ++ F) := ⟨[], Stand.of_body Bd, by rw [show s₁.heap = h0 from by rw [← hh, Bd.state]; rfl]; exact hW0, Fr.nil _, Nat.zero_le _⟩
  show OEnds p e below s _ _ (fun v' h' L => Fr n0 L ∧ ∃ es', (fun v' es' => v' = none ∧ es' = ([(eO u0 "com/example/deadletter/deadletter/worker/WaitingJobs" [("com/example/deadletter/deadletter/worker/WaitingJobs", "ready", "Ljava/util/Deque;", (.ref r)), ("com/example/deadletter/deadletter/worker/WaitingJobs", "toCount", "Ljava/util/Deque;", (.ref k)), ("com/example/deadletter/deadletter/worker/WaitingJobs", "takenOver", "Lcom/example/deadletter/deadletter/job/Job;", .null)]), (eO r "java/util/ArrayDeque" [("java/util/ArrayDeque", "elements", "[Ljava/lang/Object;", (.ref d)), ("java/util/ArrayDeque", "tail", "I", (.int (n + 1).toInt32)), ("java/util/ArrayDeque", "head", "I", (.int (0 : Int32)))]), (eA d (.object "java/lang/Object") (vs.set n (.ref x)))] ++ F)) v' es' ∧ OWorld Z n0 h' es') _
  refine OEnds.pre (fun t k => castTop (ef_20 m u0 x) k) ?_
  show OEnds p e below s _ _ _ (s₁.setTop (mkF m 0 #[vR u0, vR x] []))
  refine OEnds.pre (fun t_ k_ => XS.aloadN H0.here hx rfl (hb hby d20_0) rfl rfl k_) ?_
  show OEnds p e below s _ _ _ (s₁.setTop (mkF m 1 #[vR u0, vR x] [(.ref x)]))
  refine OEnds.pre (fun t_ k_ => XS.aloadN H0.here hx rfl (hb hby d20_1) rfl rfl k_) ?_
  show OEnds p e below s _ _ _ (s₁.setTop (mkF m 2 #[vR u0, vR x] [(.ref u0), (.ref x)]))
  obtain ⟨T1, H1, st1⟩ := OHere.getfield H0 hx hZ (O := "com/example/deadletter/deadletter/worker/WaitingJobs") (q := 0) (f := 2) (v := (.ref x)) (fs := [("com/example/deadletter/deadletter/worker/WaitingJobs", "ready", "Ljava/util/Deque;", (.ref r)), ("com/example/deadletter/deadletter/worker/WaitingJobs", "toCount", "Ljava/util/Deque;", (.ref k)), ("com/example/deadletter/deadletter/worker/WaitingJobs", "takenOver", "Lcom/example/deadletter/deadletter/job/Job;", (.ref x))]) (C := "com/example/deadletter/deadletter/worker/WaitingJobs") (pc := 2) (Ls := #[vR u0, vR x]) (rest := [(.ref x)]) hown (tWd hw 130 rfl) Via.refl rfl rfl (hb hby d20_2)
  replace H1 : OHere p l e _ s m _ below meth c Z n0 0 T1 0 0 ([(eO u0 "com/example/deadletter/deadletter/worker/WaitingJobs" [("com/example/deadletter/deadletter/worker/WaitingJobs", "ready", "Ljava/util/Deque;", (.ref r)), ("com/example/deadletter/deadletter/worker/WaitingJobs", "toCount", "Ljava/util/Deque;", (.ref k)), ("com/example/deadletter/deadletter/worker/WaitingJobs", "takenOver", "Lcom/example/deadletter/deadletter/job/Job;", (.ref x))]), (eO r "java/util/ArrayDeque" [("java/util/ArrayDeque", "elements", "[Ljava/lang/Object;", (.ref d)), ("java/util/ArrayDeque", "tail", "I", (.int (n).toInt32)), ("java/util/ArrayDeque", "head", "I", (.int (0 : Int32)))]), (eA d (.object "java/lang/Object") vs)] ++ F) := H1
  refine OEnds.pre (fun t_ k_ => st1 _ k_) ?_
  show OEnds p e below s _ _ _ (T1.setTop (mkF m 5 #[vR u0, vR x] [(.ref x), (.ref x)]))
  refine OEnds.pre (fun t_ k_ => XT.acmpNo H1.here hx rfl (hb hby d20_5) rfl rfl rfl (XT.aa_ne_f rfl) k_) ?_
  show OEnds p e below s _ _ _ (T1.setTop (mkF m 8 #[vR u0, vR x] []))
  refine OEnds.pre (fun t_ k_ => XS.aloadN H1.here hx rfl (hb hby d20_8) rfl rfl k_) ?_
  show OEnds p e below s _ _ _ (T1.setTop (mkF m 9 #[vR u0, vR x] [(.ref u0)]))
  refine OEnds.pre (fun t_ k_ => XS.aconstNull H1.here hx rfl (hb hby d20_9) k_) ?_
  show OEnds p e below s _ _ _ (T1.setTop (mkF m 10 #[vR u0, vR x] [.null, (.ref u0)]))
  obtain ⟨T2, H2, st2⟩ := OHere.putfield H1 hx hZ (O := "com/example/deadletter/deadletter/worker/WaitingJobs") (q := 0) (f := 2) (v := .null) (C := "com/example/deadletter/deadletter/worker/WaitingJobs") (ty := (.object "com/example/deadletter/deadletter/job/Job")) (pc := 10) (Ls := #[vR u0, vR x]) (rest := []) hown (tWd hw 130 rfl) Via.refl (fs := [("com/example/deadletter/deadletter/worker/WaitingJobs", "ready", "Ljava/util/Deque;", (.ref r)), ("com/example/deadletter/deadletter/worker/WaitingJobs", "toCount", "Ljava/util/Deque;", (.ref k)), ("com/example/deadletter/deadletter/worker/WaitingJobs", "takenOver", "Lcom/example/deadletter/deadletter/job/Job;", (.ref x))]) rfl rfl (Or.inl (tWd hw 131 rfl)) (tWd hw 88 rfl) (by decide) rfl rfl (hb hby d20_10)
  replace H2 : OHere p l e _ s m _ below meth c Z n0 0 T2 0 0 ([(eO u0 "com/example/deadletter/deadletter/worker/WaitingJobs" [("com/example/deadletter/deadletter/worker/WaitingJobs", "ready", "Ljava/util/Deque;", (.ref r)), ("com/example/deadletter/deadletter/worker/WaitingJobs", "toCount", "Ljava/util/Deque;", (.ref k)), ("com/example/deadletter/deadletter/worker/WaitingJobs", "takenOver", "Lcom/example/deadletter/deadletter/job/Job;", .null)]), (eO r "java/util/ArrayDeque" [("java/util/ArrayDeque", "elements", "[Ljava/lang/Object;", (.ref d)), ("java/util/ArrayDeque", "tail", "I", (.int (n).toInt32)), ("java/util/ArrayDeque", "head", "I", (.int (0 : Int32)))]), (eA d (.object "java/lang/Object") vs)] ++ F) := H2
  refine OEnds.pre (fun t_ k_ => st2 _ k_) ?_
  show OEnds p e below s _ _ _ (T2.setTop (mkF m 13 #[vR u0, vR x] []))
  refine OEnds.pre (fun t_ k_ => XS.aloadN H2.here hx rfl (hb hby d20_13) rfl rfl k_) ?_
  show OEnds p e below s _ _ _ (T2.setTop (mkF m 14 #[vR u0, vR x] [(.ref u0)]))
  obtain ⟨T3, H3, st3⟩ := OHere.getfield H2 hx hZ (O := "com/example/deadletter/deadletter/worker/WaitingJobs") (q := 0) (f := 0) (v := (.ref r)) (fs := [("com/example/deadletter/deadletter/worker/WaitingJobs", "ready", "Ljava/util/Deque;", (.ref r)), ("com/example/deadletter/deadletter/worker/WaitingJobs", "toCount", "Ljava/util/Deque;", (.ref k)), ("com/example/deadletter/deadletter/worker/WaitingJobs", "takenOver", "Lcom/example/deadletter/deadletter/job/Job;", .null)]) (C := "com/example/deadletter/deadletter/worker/WaitingJobs") (pc := 14) (Ls := #[vR u0, vR x]) (rest := []) hown (tWd hw 105 rfl) Via.refl rfl rfl (hb hby d20_14)
  replace H3 : OHere p l e _ s m _ below meth c Z n0 0 T3 0 0 ([(eO u0 "com/example/deadletter/deadletter/worker/WaitingJobs" [("com/example/deadletter/deadletter/worker/WaitingJobs", "ready", "Ljava/util/Deque;", (.ref r)), ("com/example/deadletter/deadletter/worker/WaitingJobs", "toCount", "Ljava/util/Deque;", (.ref k)), ("com/example/deadletter/deadletter/worker/WaitingJobs", "takenOver", "Lcom/example/deadletter/deadletter/job/Job;", .null)]), (eO r "java/util/ArrayDeque" [("java/util/ArrayDeque", "elements", "[Ljava/lang/Object;", (.ref d)), ("java/util/ArrayDeque", "tail", "I", (.int (n).toInt32)), ("java/util/ArrayDeque", "head", "I", (.int (0 : Int32)))]), (eA d (.object "java/lang/Object") vs)] ++ F) := H3
  refine OEnds.pre (fun t_ k_ => st3 _ k_) ?_
  show OEnds p e below s _ _ _ (T3.setTop (mkF m 17 #[vR u0, vR x] [(.ref r)]))
  refine OEnds.pre (fun t_ k_ => XS.aloadN H3.here hx rfl (hb hby d20_17) rfl rfl k_) ?_
  show OEnds p e below s _ _ _ (T3.setTop (mkF m 18 #[vR u0, vR x] [(.ref x), (.ref r)]))
  have Hp4 : OHere p l e _ s m _ below meth c Z n0 0 T3 0 0 ([(eO r "java/util/ArrayDeque" [("java/util/ArrayDeque", "elements", "[Ljava/lang/Object;", (.ref d)), ("java/util/ArrayDeque", "tail", "I", (.int (n).toInt32)), ("java/util/ArrayDeque", "head", "I", (.int (0 : Int32)))]), (eA d (.object "java/lang/Object") vs), (eO u0 "com/example/deadletter/deadletter/worker/WaitingJobs" [("com/example/deadletter/deadletter/worker/WaitingJobs", "ready", "Ljava/util/Deque;", (.ref r)), ("com/example/deadletter/deadletter/worker/WaitingJobs", "toCount", "Ljava/util/Deque;", (.ref k)), ("com/example/deadletter/deadletter/worker/WaitingJobs", "takenOver", "Lcom/example/deadletter/deadletter/job/Job;", .null)])] ++ F) := OHere.pick H3 [1, 2, 0] (by decide) rfl
  obtain ⟨T5, _, _, ⟨rfl, rfl⟩, H5, st5⟩ := OHere.face Hp4 hx hZ (y := (⟨"java/util/Deque", "add", "(Ljava/lang/Object;)Z"⟩ : MethodName)) (z := (⟨"java/util/ArrayDeque", "add", "(Ljava/lang/Object;)Z"⟩ : MethodName)) (W := 0) (a := r) (q := 0) (fs := [("java/util/ArrayDeque", "elements", "[Ljava/lang/Object;", (.ref d)), ("java/util/ArrayDeque", "tail", "I", (.int (n).toInt32)), ("java/util/ArrayDeque", "head", "I", (.int (0 : Int32)))]) hown (tWd hw 234 rfl) (tWd hw 235 rfl) (tWd hw 236 rfl) rfl (tWd hw 237 rfl) (tWd hw 238 rfl) (tWd hw 239 rfl) (tWd hw 240 rfl) (tWd hw 121 rfl) (tWd hw 96 rfl) (tWd hw 241 rfl) (by decide) rfl (conADa l Z a0 hw n0 [] r ([(eO u0 "com/example/deadletter/deadletter/worker/WaitingJobs" [("com/example/deadletter/deadletter/worker/WaitingJobs", "ready", "Ljava/util/Deque;", (.ref r)), ("com/example/deadletter/deadletter/worker/WaitingJobs", "toCount", "Ljava/util/Deque;", (.ref k)), ("com/example/deadletter/deadletter/worker/WaitingJobs", "takenOver", "Lcom/example/deadletter/deadletter/job/Job;", .null)])] ++ F) x fx (List.mem_append_right _ hxF) d vs n hv hk) (by decide) (by decide) (pc := 18) (Ls := #[vR u0, vR x]) (argsL := [(.ref x)]) (rest := []) (by rw [hml]; rfl) (lenOf pd_oLjava_lang_Object_cZ rfl) rfl (Nat.le_of_eq rfl) (hb hby d20_18) (by decide) (by decide)
  replace H5 : OHere p l e _ s m _ below meth c Z n0 0 T5 0 0 ([(eO r "java/util/ArrayDeque" [("java/util/ArrayDeque", "elements", "[Ljava/lang/Object;", (.ref d)), ("java/util/ArrayDeque", "tail", "I", (.int (n + 1).toInt32)), ("java/util/ArrayDeque", "head", "I", (.int (0 : Int32)))]), (eA d (.object "java/lang/Object") (vs.set n (.ref x))), (eO u0 "com/example/deadletter/deadletter/worker/WaitingJobs" [("com/example/deadletter/deadletter/worker/WaitingJobs", "ready", "Ljava/util/Deque;", (.ref r)), ("com/example/deadletter/deadletter/worker/WaitingJobs", "toCount", "Ljava/util/Deque;", (.ref k)), ("com/example/deadletter/deadletter/worker/WaitingJobs", "takenOver", "Lcom/example/deadletter/deadletter/job/Job;", .null)])] ++ F) := H5
  refine OEnds.pre (fun t_ k_ => st5 _ k_) ?_
  show OEnds p e below s _ _ _ (T5.setTop (mkF m 23 #[vR u0, vR x] [(.int (1 : Int32))]))
  refine OEnds.pre (fun t_ k_ => XT.pop H5.here hx rfl (hb hby d20_23) rfl rfl k_) ?_
  show OEnds p e below s _ _ _ (T5.setTop (mkF m 24 #[vR u0, vR x] []))
  have Hq6 : OHere p l e _ s m _ below meth c Z n0 0 T5 0 0 ([(eO u0 "com/example/deadletter/deadletter/worker/WaitingJobs" [("com/example/deadletter/deadletter/worker/WaitingJobs", "ready", "Ljava/util/Deque;", (.ref r)), ("com/example/deadletter/deadletter/worker/WaitingJobs", "toCount", "Ljava/util/Deque;", (.ref k)), ("com/example/deadletter/deadletter/worker/WaitingJobs", "takenOver", "Lcom/example/deadletter/deadletter/job/Job;", .null)]), (eO r "java/util/ArrayDeque" [("java/util/ArrayDeque", "elements", "[Ljava/lang/Object;", (.ref d)), ("java/util/ArrayDeque", "tail", "I", (.int (n + 1).toInt32)), ("java/util/ArrayDeque", "head", "I", (.int (0 : Int32)))]), (eA d (.object "java/lang/Object") (vs.set n (.ref x)))] ++ F) := OHere.pick H5 [2, 0, 1] (by decide) rfl
  exact Hq6.ret hx Bd.notSynchronized Bd.returns (hb hby d20_24) (by decide) (by decide) (fun h L W N => ⟨N, _, ⟨rfl, rfl⟩, W⟩)
theorem pd_oLjava_lang_Object_cI : parseMethodDescriptor "(Ljava/lang/Object;)I" = some ⟨[(.object "java/lang/Object")], some .int⟩ := by decide +kernel
theorem pd_oLjava_lang_Object_IIcI : parseMethodDescriptor "(Ljava/lang/Object;II)I" = some ⟨[(.object "java/lang/Object"), .int, .int], some .int⟩ := by decide +kernel
theorem pd_oLjava_util_ArrayList_cV : parseMethodDescriptor "(Ljava/util/ArrayList;)V" = some ⟨[(.object "java/util/ArrayList")], none⟩ := by decide +kernel
theorem k_lt10 : ∀ i < 10, (i : Nat).toInt32 < 10 := by decide
theorem d18_0 : decode jdk_49_method_1_code 0 = .ok (.aload_n 0, 1) := by decide +kernel
theorem d18_1 : decode jdk_49_method_1_code 1 = .ok (.aload_n 1, 1) := by decide +kernel
theorem d18_2 : decode jdk_49_method_1_code 2 = .ok (.putfield 1, 3) := by decide +kernel
theorem d18_5 : decode jdk_49_method_1_code 5 = .ok (.aload_n 0, 1) := by decide +kernel
theorem d18_6 : decode jdk_49_method_1_code 6 = .ok (.invokespecial 7, 3) := by decide +kernel
theorem d18_9 : decode jdk_49_method_1_code 9 = .ok (.aload_n 0, 1) := by decide +kernel
theorem d18_10 : decode jdk_49_method_1_code 10 = .ok (.iconst (-1), 1) := by decide +kernel
theorem d18_11 : decode jdk_49_method_1_code 11 = .ok (.putfield 13, 3) := by decide +kernel
theorem d18_14 : decode jdk_49_method_1_code 14 = .ok (.aload_n 0, 1) := by decide +kernel
theorem d18_15 : decode jdk_49_method_1_code 15 = .ok (.aload_n 0, 1) := by decide +kernel
theorem d18_16 : decode jdk_49_method_1_code 16 = .ok (.getfield 1, 3) := by decide +kernel
theorem d18_19 : decode jdk_49_method_1_code 19 = .ok (.getfield 17, 3) := by decide +kernel
theorem d18_22 : decode jdk_49_method_1_code 22 = .ok (.putfield 22, 3) := by decide +kernel
theorem d18_25 : decode jdk_49_method_1_code 25 = .ok (.return_, 1) := by decide +kernel
theorem pn_18 : plainFor (⟨"java/util/ArrayList$Itr", "<init>", "(Ljava/util/ArrayList;)V"⟩ : MethodName) = true := by first | exact plainFor_of_name (by first | (simp [plainName, overriddenIn]; done) | decide +kernel) | decide +kernel
theorem ef_18 (m : MethodId) (x0 : Addr) (x1 : Addr) : entryFrame m #[(.ref x0), (.ref x1)] 2 = mkF m 0 #[.val (.ref x0), .val (.ref x1)] [] := by first | (simp [entryFrame, mkF, argsToLocals, Value.category]; done) | rfl
set_option maxRecDepth 65536 in
set_option maxHeartbeats 40000000 in
theorem conIi (l : Launch) (Z : State) (a0 : Array Value) (hw : ∀ d ∈ tables_1, d.before a0 Z = true) (n0 : Nat) (ws : List Jvm.Cond) (u0 : Addr) (u1 : Addr) (F : List OEnt) (d : Addr) (mc z : Int32) :
    OCon l Z n0 (⟨"java/util/ArrayList$Itr", "<init>", "(Ljava/util/ArrayList;)V"⟩ : MethodName) jdk_49_method_1_code 2 none ws ({ frames := 1, cells := 0, slots := 0, locals := 12 } : Room) #[(.ref u0), (.ref u1)] ([(eO u0 "java/util/ArrayList$Itr" [("java/util/ArrayList$Itr", "this$0", "Ljava/util/ArrayList;", .null), ("java/util/ArrayList$Itr", "lastRet", "I", (.int 0)), ("java/util/ArrayList$Itr", "expectedModCount", "I", (.int 0)), ("java/util/ArrayList$Itr", "cursor", "I", (.int 0))]), (eO u1 "java/util/ArrayList" [("java/util/AbstractList", "modCount", "I", (.int mc)), ("java/util/ArrayList", "elementData", "[Ljava/lang/Object;", (.ref d)), ("java/util/ArrayList", "size", "I", (.int z))])] ++ F) (fun v' es' => v' = none ∧ es' = ([(eO u0 "java/util/ArrayList$Itr" [("java/util/ArrayList$Itr", "this$0", "Ljava/util/ArrayList;", (.ref u1)), ("java/util/ArrayList$Itr", "lastRet", "I", (.int (-1 : Int32))), ("java/util/ArrayList$Itr", "expectedModCount", "I", (.int mc)), ("java/util/ArrayList$Itr", "cursor", "I", (.int 0))]), (eO u1 "java/util/ArrayList" [("java/util/AbstractList", "modCount", "I", (.int mc)), ("java/util/ArrayList", "elementData", "[Ljava/lang/Object;", (.ref d)), ("java/util/ArrayList", "size", "I", (.int z))])] ++ F)) := by
  intro h0 hW0
  refine MetFree.of_bodySF pn_18 hisR ?_
  intro p e s m args below meth c s₁ Bd hml0 hP hK
  obtain ⟨rfl, hZ, hh⟩ := hP
  have hx := Bd.exec
  have hby := Bd.bytes
  have hml : c.maxLocals = 2 := hml0
  have hown : s.vm.findClass "java/util/ArrayList$Itr" = some m.cls := findClass_of_methodNamed Bd.named
  have hnm := (name_of_methodNamed Bd.named Bd.method).1
  have H0 : OHere p l e ({ frames := 1, cells := 0, slots := 0, locals := 12 } : Room) s m #[(.ref u0), (.ref u1)] below meth c Z n0 0 s₁ 0 0 ([(eO u0 "java/util/ArrayList$Itr" [("java/util/ArrayList$Itr", "this$0", "Ljava/util/ArrayList;", .null), ("java/util/ArrayList$Itr", "lastRet", "I", (.int 0)), ("java/util/ArrayList$Itr", "expectedModCount", "I", (.int 0)), ("java/util/ArrayList$Itr", "cursor", "I", (.int 0))]), (eO u1 "java/util/ArrayList" [("java/util/AbstractList", "modCount", "I", (.int mc)), ("java/util/ArrayList", "elementData", "[Ljava/lang/Object;", (.ref d)), ("java/util/ArrayList", "size", "I", (.int z))])] ++ F) := ⟨[], Stand.of_body Bd, by rw [show s₁.heap = h0 from by rw [← hh, Bd.state]; rfl]; exact hW0, Fr.nil _, Nat.zero_le _⟩
  show OEnds p e below s _ _ (fun v' h' L => Fr n0 L ∧ ∃ es', (fun v' es' => v' = none ∧ es' = ([(eO u0 "java/util/ArrayList$Itr" [("java/util/ArrayList$Itr", "this$0", "Ljava/util/ArrayList;", (.ref u1)), ("java/util/ArrayList$Itr", "lastRet", "I", (.int (-1 : Int32))), ("java/util/ArrayList$Itr", "expectedModCount", "I", (.int mc)), ("java/util/ArrayList$Itr", "cursor", "I", (.int 0))]), (eO u1 "java/util/ArrayList" [("java/util/AbstractList", "modCount", "I", (.int mc)), ("java/util/ArrayList", "elementData", "[Ljava/lang/Object;", (.ref d)), ("java/util/ArrayList", "size", "I", (.int z))])] ++ F)) v' es' ∧ OWorld Z n0 h' es') _
  refine OEnds.pre (fun t k => castTop (ef_18 m u0 u1) k) ?_
  show OEnds p e below s _ _ _ (s₁.setTop (mkF m 0 #[vR u0, vR u1] []))
  refine OEnds.pre (fun t_ k_ => XS.aloadN H0.here hx rfl (hb hby d18_0) rfl rfl k_) ?_
  show OEnds p e below s _ _ _ (s₁.setTop (mkF m 1 #[vR u0, vR u1] [(.ref u0)]))
  refine OEnds.pre (fun t_ k_ => XS.aloadN H0.here hx rfl (hb hby d18_1) rfl rfl k_) ?_
  show OEnds p e below s _ _ _ (s₁.setTop (mkF m 2 #[vR u0, vR u1] [(.ref u1), (.ref u0)]))
  obtain ⟨T1, H1, st1⟩ := OHere.putfield H0 hx hZ (O := "java/util/ArrayList$Itr") (q := 0) (f := 0) (v := (.ref u1)) (C := "java/util/ArrayList$Itr") (ty := (.object "java/util/ArrayList")) (pc := 2) (Ls := #[vR u0, vR u1]) (rest := []) hown (tWd hw 153 rfl) Via.refl (fs := [("java/util/ArrayList$Itr", "this$0", "Ljava/util/ArrayList;", .null), ("java/util/ArrayList$Itr", "lastRet", "I", (.int 0)), ("java/util/ArrayList$Itr", "expectedModCount", "I", (.int 0)), ("java/util/ArrayList$Itr", "cursor", "I", (.int 0))]) rfl rfl (Or.inr ⟨(tWd hw 154 rfl), rfl, hnm⟩) (tWd hw 147 rfl) (by decide) rfl rfl (hb hby d18_2)
  replace H1 : OHere p l e _ s m _ below meth c Z n0 0 T1 0 0 ([(eO u0 "java/util/ArrayList$Itr" [("java/util/ArrayList$Itr", "this$0", "Ljava/util/ArrayList;", (.ref u1)), ("java/util/ArrayList$Itr", "lastRet", "I", (.int 0)), ("java/util/ArrayList$Itr", "expectedModCount", "I", (.int 0)), ("java/util/ArrayList$Itr", "cursor", "I", (.int 0))]), (eO u1 "java/util/ArrayList" [("java/util/AbstractList", "modCount", "I", (.int mc)), ("java/util/ArrayList", "elementData", "[Ljava/lang/Object;", (.ref d)), ("java/util/ArrayList", "size", "I", (.int z))])] ++ F) := H1
  refine OEnds.pre (fun t_ k_ => st1 _ k_) ?_
  show OEnds p e below s _ _ _ (T1.setTop (mkF m 5 #[vR u0, vR u1] []))
  refine OEnds.pre (fun t_ k_ => XS.aloadN H1.here hx rfl (hb hby d18_5) rfl rfl k_) ?_
  show OEnds p e below s _ _ _ (T1.setTop (mkF m 6 #[vR u0, vR u1] [(.ref u0)]))
  obtain ⟨T2, H2, st2⟩ := OHere.initO H1 hx hZ (pc := 6) (Ls := #[vR u0, vR u1]) (rest := []) (a := u0) hown (tWd hw 155 rfl) (tWd hw 16 rfl) (tWd hw 17 rfl) (by rw [hml]; rfl) (hb hby d18_6) (by decide) (W := 0) (Nat.le_of_eq rfl) (by decide)
  replace H2 : OHere p l e _ s m _ below meth c Z n0 0 T2 0 0 ([(eO u0 "java/util/ArrayList$Itr" [("java/util/ArrayList$Itr", "this$0", "Ljava/util/ArrayList;", (.ref u1)), ("java/util/ArrayList$Itr", "lastRet", "I", (.int 0)), ("java/util/ArrayList$Itr", "expectedModCount", "I", (.int 0)), ("java/util/ArrayList$Itr", "cursor", "I", (.int 0))]), (eO u1 "java/util/ArrayList" [("java/util/AbstractList", "modCount", "I", (.int mc)), ("java/util/ArrayList", "elementData", "[Ljava/lang/Object;", (.ref d)), ("java/util/ArrayList", "size", "I", (.int z))])] ++ F) := H2
  refine OEnds.pre (fun t_ k_ => st2 _ k_) ?_
  show OEnds p e below s _ _ _ (T2.setTop (mkF m 9 #[vR u0, vR u1] []))
  refine OEnds.pre (fun t_ k_ => XS.aloadN H2.here hx rfl (hb hby d18_9) rfl rfl k_) ?_
  show OEnds p e below s _ _ _ (T2.setTop (mkF m 10 #[vR u0, vR u1] [(.ref u0)]))
  refine OEnds.pre (fun t_ k_ => XT.iconstV H2.here hx rfl (-1 : Int32) (hb hby d18_10) rfl k_) ?_
  show OEnds p e below s _ _ _ (T2.setTop (mkF m 11 #[vR u0, vR u1] [(.int (-1 : Int32)), (.ref u0)]))
  obtain ⟨T3, H3, st3⟩ := OHere.putfield H2 hx hZ (O := "java/util/ArrayList$Itr") (q := 0) (f := 1) (v := (.int (-1 : Int32))) (C := "java/util/ArrayList$Itr") (ty := .int) (pc := 11) (Ls := #[vR u0, vR u1]) (rest := []) hown (tWd hw 156 rfl) Via.refl (fs := [("java/util/ArrayList$Itr", "this$0", "Ljava/util/ArrayList;", (.ref u1)), ("java/util/ArrayList$Itr", "lastRet", "I", (.int 0)), ("java/util/ArrayList$Itr", "expectedModCount", "I", (.int 0)), ("java/util/ArrayList$Itr", "cursor", "I", (.int 0))]) rfl rfl (Or.inl (tWd hw 157 rfl)) (tWd hw 147 rfl) (by decide) rfl rfl (hb hby d18_11)
  replace H3 : OHere p l e _ s m _ below meth c Z n0 0 T3 0 0 ([(eO u0 "java/util/ArrayList$Itr" [("java/util/ArrayList$Itr", "this$0", "Ljava/util/ArrayList;", (.ref u1)), ("java/util/ArrayList$Itr", "lastRet", "I", (.int (-1 : Int32))), ("java/util/ArrayList$Itr", "expectedModCount", "I", (.int 0)), ("java/util/ArrayList$Itr", "cursor", "I", (.int 0))]), (eO u1 "java/util/ArrayList" [("java/util/AbstractList", "modCount", "I", (.int mc)), ("java/util/ArrayList", "elementData", "[Ljava/lang/Object;", (.ref d)), ("java/util/ArrayList", "size", "I", (.int z))])] ++ F) := H3
  refine OEnds.pre (fun t_ k_ => st3 _ k_) ?_
  show OEnds p e below s _ _ _ (T3.setTop (mkF m 14 #[vR u0, vR u1] []))
  refine OEnds.pre (fun t_ k_ => XS.aloadN H3.here hx rfl (hb hby d18_14) rfl rfl k_) ?_
  show OEnds p e below s _ _ _ (T3.setTop (mkF m 15 #[vR u0, vR u1] [(.ref u0)]))
  refine OEnds.pre (fun t_ k_ => XS.aloadN H3.here hx rfl (hb hby d18_15) rfl rfl k_) ?_
  show OEnds p e below s _ _ _ (T3.setTop (mkF m 16 #[vR u0, vR u1] [(.ref u0), (.ref u0)]))
  obtain ⟨T4, H4, st4⟩ := OHere.getfield H3 hx hZ (O := "java/util/ArrayList$Itr") (q := 0) (f := 0) (v := (.ref u1)) (fs := [("java/util/ArrayList$Itr", "this$0", "Ljava/util/ArrayList;", (.ref u1)), ("java/util/ArrayList$Itr", "lastRet", "I", (.int (-1 : Int32))), ("java/util/ArrayList$Itr", "expectedModCount", "I", (.int 0)), ("java/util/ArrayList$Itr", "cursor", "I", (.int 0))]) (C := "java/util/ArrayList$Itr") (pc := 16) (Ls := #[vR u0, vR u1]) (rest := [(.ref u0)]) hown (tWd hw 153 rfl) Via.refl rfl rfl (hb hby d18_16)
  replace H4 : OHere p l e _ s m _ below meth c Z n0 0 T4 0 0 ([(eO u0 "java/util/ArrayList$Itr" [("java/util/ArrayList$Itr", "this$0", "Ljava/util/ArrayList;", (.ref u1)), ("java/util/ArrayList$Itr", "lastRet", "I", (.int (-1 : Int32))), ("java/util/ArrayList$Itr", "expectedModCount", "I", (.int 0)), ("java/util/ArrayList$Itr", "cursor", "I", (.int 0))]), (eO u1 "java/util/ArrayList" [("java/util/AbstractList", "modCount", "I", (.int mc)), ("java/util/ArrayList", "elementData", "[Ljava/lang/Object;", (.ref d)), ("java/util/ArrayList", "size", "I", (.int z))])] ++ F) := H4
  refine OEnds.pre (fun t_ k_ => st4 _ k_) ?_
  show OEnds p e below s _ _ _ (T4.setTop (mkF m 19 #[vR u0, vR u1] [(.ref u1), (.ref u0)]))
  obtain ⟨T5, H5, st5⟩ := OHere.getfield H4 hx hZ (O := "java/util/AbstractList") (q := 1) (f := 0) (v := (.int mc)) (fs := [("java/util/AbstractList", "modCount", "I", (.int mc)), ("java/util/ArrayList", "elementData", "[Ljava/lang/Object;", (.ref d)), ("java/util/ArrayList", "size", "I", (.int z))]) (C := "java/util/ArrayList") (pc := 19) (Ls := #[vR u0, vR u1]) (rest := [(.ref u0)]) hown (tWd hw 158 rfl) (Via.of (tWd hw 62 rfl)) rfl rfl (hb hby d18_19)
  replace H5 : OHere p l e _ s m _ below meth c Z n0 0 T5 0 0 ([(eO u0 "java/util/ArrayList$Itr" [("java/util/ArrayList$Itr", "this$0", "Ljava/util/ArrayList;", (.ref u1)), ("java/util/ArrayList$Itr", "lastRet", "I", (.int (-1 : Int32))), ("java/util/ArrayList$Itr", "expectedModCount", "I", (.int 0)), ("java/util/ArrayList$Itr", "cursor", "I", (.int 0))]), (eO u1 "java/util/ArrayList" [("java/util/AbstractList", "modCount", "I", (.int mc)), ("java/util/ArrayList", "elementData", "[Ljava/lang/Object;", (.ref d)), ("java/util/ArrayList", "size", "I", (.int z))])] ++ F) := H5
  refine OEnds.pre (fun t_ k_ => st5 _ k_) ?_
  show OEnds p e below s _ _ _ (T5.setTop (mkF m 22 #[vR u0, vR u1] [(.int mc), (.ref u0)]))
  obtain ⟨T6, H6, st6⟩ := OHere.putfield H5 hx hZ (O := "java/util/ArrayList$Itr") (q := 0) (f := 2) (v := (.int mc)) (C := "java/util/ArrayList$Itr") (ty := .int) (pc := 22) (Ls := #[vR u0, vR u1]) (rest := []) hown (tWd hw 159 rfl) Via.refl (fs := [("java/util/ArrayList$Itr", "this$0", "Ljava/util/ArrayList;", (.ref u1)), ("java/util/ArrayList$Itr", "lastRet", "I", (.int (-1 : Int32))), ("java/util/ArrayList$Itr", "expectedModCount", "I", (.int 0)), ("java/util/ArrayList$Itr", "cursor", "I", (.int 0))]) rfl rfl (Or.inl (tWd hw 160 rfl)) (tWd hw 147 rfl) (by decide) rfl rfl (hb hby d18_22)
  replace H6 : OHere p l e _ s m _ below meth c Z n0 0 T6 0 0 ([(eO u0 "java/util/ArrayList$Itr" [("java/util/ArrayList$Itr", "this$0", "Ljava/util/ArrayList;", (.ref u1)), ("java/util/ArrayList$Itr", "lastRet", "I", (.int (-1 : Int32))), ("java/util/ArrayList$Itr", "expectedModCount", "I", (.int mc)), ("java/util/ArrayList$Itr", "cursor", "I", (.int 0))]), (eO u1 "java/util/ArrayList" [("java/util/AbstractList", "modCount", "I", (.int mc)), ("java/util/ArrayList", "elementData", "[Ljava/lang/Object;", (.ref d)), ("java/util/ArrayList", "size", "I", (.int z))])] ++ F) := H6
  refine OEnds.pre (fun t_ k_ => st6 _ k_) ?_
  show OEnds p e below s _ _ _ (T6.setTop (mkF m 25 #[vR u0, vR u1] []))
  exact H6.ret hx Bd.notSynchronized Bd.returns (hb hby d18_25) (by decide) (by decide) (fun h L W N => ⟨N, _, ⟨rfl, rfl⟩, W⟩)
theorem d17_0 : decode jdk_38_method_55_code 0 = .ok (.new 267, 3) := by decide +kernel
theorem d17_3 : decode jdk_38_method_55_code 3 = .ok (.dup, 1) := by decide +kernel
theorem d17_4 : decode jdk_38_method_55_code 4 = .ok (.aload_n 0, 1) := by decide +kernel
theorem d17_5 : decode jdk_38_method_55_code 5 = .ok (.invokespecial 269, 3) := by decide +kernel
theorem d17_8 : decode jdk_38_method_55_code 8 = .ok (.areturn, 1) := by decide +kernel
theorem pn_17 : plainFor (⟨"java/util/ArrayList", "iterator", "()Ljava/util/Iterator;"⟩ : MethodName) = true := by first | exact plainFor_of_name (by first | (simp [plainName, overriddenIn]; done) | decide +kernel) | decide +kernel
theorem ef_17 (m : MethodId) (x0 : Addr) : entryFrame m #[(.ref x0)] 1 = mkF m 0 #[.val (.ref x0)] [] := by first | (simp [entryFrame, mkF, argsToLocals, Value.category]; done) | rfl
set_option maxRecDepth 65536 in
set_option maxHeartbeats 40000000 in
theorem conIt (l : Launch) (Z : State) (a0 : Array Value) (hw : ∀ d ∈ tables_1, d.before a0 Z = true) (n0 : Nat) (ws : List Jvm.Cond) (u0 : Addr) (F : List OEnt) (d : Addr) (mc z : Int32) :
    OCon l Z n0 (⟨"java/util/ArrayList", "iterator", "()Ljava/util/Iterator;"⟩ : MethodName) jdk_38_method_55_code 1 (some (.object "java/util/Iterator")) ws ({ frames := 2, cells := 1, slots := 4, locals := 26 } : Room) #[(.ref u0)] ([(eO u0 "java/util/ArrayList" [("java/util/AbstractList", "modCount", "I", (.int mc)), ("java/util/ArrayList", "elementData", "[Ljava/lang/Object;", (.ref d)), ("java/util/ArrayList", "size", "I", (.int z))])] ++ F) (fun v' es' => ∃ b : Addr, v' = some (.ref b) ∧ es' = ([(eO b "java/util/ArrayList$Itr" [("java/util/ArrayList$Itr", "this$0", "Ljava/util/ArrayList;", (.ref u0)), ("java/util/ArrayList$Itr", "lastRet", "I", (.int (-1 : Int32))), ("java/util/ArrayList$Itr", "expectedModCount", "I", (.int mc)), ("java/util/ArrayList$Itr", "cursor", "I", (.int 0))]), (eO u0 "java/util/ArrayList" [("java/util/AbstractList", "modCount", "I", (.int mc)), ("java/util/ArrayList", "elementData", "[Ljava/lang/Object;", (.ref d)), ("java/util/ArrayList", "size", "I", (.int z))])] ++ F)) := by
  intro h0 hW0
  refine MetFree.of_bodySF pn_17 hisR ?_
  intro p e s m args below meth c s₁ Bd hml0 hP hK
  obtain ⟨rfl, hZ, hh⟩ := hP
  have hx := Bd.exec
  have hby := Bd.bytes
  have hml : c.maxLocals = 1 := hml0
  have hown : s.vm.findClass "java/util/ArrayList" = some m.cls := findClass_of_methodNamed Bd.named
  have hnm := (name_of_methodNamed Bd.named Bd.method).1
  have H0 : OHere p l e ({ frames := 2, cells := 1, slots := 4, locals := 26 } : Room) s m #[(.ref u0)] below meth c Z n0 0 s₁ 0 0 ([(eO u0 "java/util/ArrayList" [("java/util/AbstractList", "modCount", "I", (.int mc)), ("java/util/ArrayList", "elementData", "[Ljava/lang/Object;", (.ref d)), ("java/util/ArrayList", "size", "I", (.int z))])] ++ F) := ⟨[], Stand.of_body Bd, by rw [show s₁.heap = h0 from by rw [← hh, Bd.state]; rfl]; exact hW0, Fr.nil _, Nat.zero_le _⟩
  show OEnds p e below s _ _ (fun v' h' L => Fr n0 L ∧ ∃ es', (fun v' es' => ∃ b : Addr, v' = some (.ref b) ∧ es' = ([(eO b "java/util/ArrayList$Itr" [("java/util/ArrayList$Itr", "this$0", "Ljava/util/ArrayList;", (.ref u0)), ("java/util/ArrayList$Itr", "lastRet", "I", (.int (-1 : Int32))), ("java/util/ArrayList$Itr", "expectedModCount", "I", (.int mc)), ("java/util/ArrayList$Itr", "cursor", "I", (.int 0))]), (eO u0 "java/util/ArrayList" [("java/util/AbstractList", "modCount", "I", (.int mc)), ("java/util/ArrayList", "elementData", "[Ljava/lang/Object;", (.ref d)), ("java/util/ArrayList", "size", "I", (.int z))])] ++ F)) v' es' ∧ OWorld Z n0 h' es') _
  refine OEnds.pre (fun t k => castTop (ef_17 m u0) k) ?_
  show OEnds p e below s _ _ _ (s₁.setTop (mkF m 0 #[vR u0] []))
  obtain ⟨T2, b1, H2, st2⟩ := OHere.new H0 hx hZ (pc := 0) (Ls := #[vR u0]) (rest := []) hown (tWd hw 146 rfl) (tWd hw 147 rfl) (tWd hw 148 rfl) [("java/util/ArrayList$Itr", "this$0", "Ljava/util/ArrayList;", .null), ("java/util/ArrayList$Itr", "lastRet", "I", (.int 0)), ("java/util/ArrayList$Itr", "expectedModCount", "I", (.int 0)), ("java/util/ArrayList$Itr", "cursor", "I", (.int 0))] ⟨⟨Or.inr (tWd hw 154 rfl), (.object "java/util/ArrayList"), by decide, rfl⟩, ⟨Or.inl (tWd hw 157 rfl), .int, by decide, rfl⟩, ⟨Or.inl (tWd hw 160 rfl), .int, by decide, rfl⟩, ⟨Or.inl (tWd hw 171 rfl), .int, by decide, rfl⟩, trivial⟩ (by first | decide | simp) (hb hby d17_0) (by decide) (by decide)
  replace H2 : OHere p l e _ s m _ below meth c Z n0 0 T2 1 4 ([(eO b1 "java/util/ArrayList$Itr" [("java/util/ArrayList$Itr", "this$0", "Ljava/util/ArrayList;", .null), ("java/util/ArrayList$Itr", "lastRet", "I", (.int 0)), ("java/util/ArrayList$Itr", "expectedModCount", "I", (.int 0)), ("java/util/ArrayList$Itr", "cursor", "I", (.int 0))]), (eO u0 "java/util/ArrayList" [("java/util/AbstractList", "modCount", "I", (.int mc)), ("java/util/ArrayList", "elementData", "[Ljava/lang/Object;", (.ref d)), ("java/util/ArrayList", "size", "I", (.int z))])] ++ F) := H2
  refine OEnds.pre (fun t_ k_ => st2 _ k_) ?_
  show OEnds p e below s _ _ _ (T2.setTop (mkF m 3 #[vR u0] [(.ref b1)]))
  refine OEnds.pre (fun t_ k_ => XS.dup H2.here hx rfl (hb hby d17_3) rfl rfl k_) ?_
  show OEnds p e below s _ _ _ (T2.setTop (mkF m 4 #[vR u0] [(.ref b1), (.ref b1)]))
  refine OEnds.pre (fun t_ k_ => XS.aloadN H2.here hx rfl (hb hby d17_4) rfl rfl k_) ?_
  show OEnds p e below s _ _ _ (T2.setTop (mkF m 5 #[vR u0] [(.ref u0), (.ref b1), (.ref b1)]))
  obtain ⟨T3, _, _, ⟨rfl, rfl⟩, H3, st3⟩ := OHere.special H2 hx hZ (y := (⟨"java/util/ArrayList$Itr", "<init>", "(Ljava/util/ArrayList;)V"⟩ : MethodName)) rfl (W := 1) (a := b1) hown (tWd hw 149 rfl) (tWd hw 150 rfl) (tWd hw 148 rfl) (tWd hw 152 rfl) (by decide) (conIi l Z a0 hw n0 [] b1 u0 ([] ++ F) d mc z) (by decide) (by decide) (pc := 5) (Ls := #[vR u0]) (argsL := [(.ref u0)]) (rest := [(.ref b1)]) (by rw [hml]; rfl) (lenOf pd_oLjava_util_ArrayList_cV rfl) rfl (Nat.le_of_eq rfl) (hb hby d17_5) (by decide) (by decide)
  replace H3 : OHere p l e _ s m _ below meth c Z n0 0 T3 1 4 ([(eO b1 "java/util/ArrayList$Itr" [("java/util/ArrayList$Itr", "this$0", "Ljava/util/ArrayList;", (.ref u0)), ("java/util/ArrayList$Itr", "lastRet", "I", (.int (-1 : Int32))), ("java/util/ArrayList$Itr", "expectedModCount", "I", (.int mc)), ("java/util/ArrayList$Itr", "cursor", "I", (.int 0))]), (eO u0 "java/util/ArrayList" [("java/util/AbstractList", "modCount", "I", (.int mc)), ("java/util/ArrayList", "elementData", "[Ljava/lang/Object;", (.ref d)), ("java/util/ArrayList", "size", "I", (.int z))])] ++ F) := H3
  refine OEnds.pre (fun t_ k_ => st3 _ k_) ?_
  show OEnds p e below s _ _ _ (T3.setTop (mkF m 8 #[vR u0] [(.ref b1)]))
  exact H3.areturn hx Bd.notSynchronized Bd.returns rfl rfl (hb hby d17_8) (by decide) (by decide) (fun h L W N => ⟨N, _, ⟨b1, rfl, rfl⟩, W⟩)
theorem d25_0 : decode jdk_49_method_6_code 0 = .ok (.aload_n 0, 1) := by decide +kernel
theorem d25_1 : decode jdk_49_method_6_code 1 = .ok (.getfield 1, 3) := by decide +kernel
theorem d25_4 : decode jdk_49_method_6_code 4 = .ok (.getfield 17, 3) := by decide +kernel
theorem d25_7 : decode jdk_49_method_6_code 7 = .ok (.aload_n 0, 1) := by decide +kernel
theorem d25_8 : decode jdk_49_method_6_code 8 = .ok (.getfield 22, 3) := by decide +kernel
theorem d25_11 : decode jdk_49_method_6_code 11 = .ok (.if_icmp .eq 11, 3) := by decide +kernel
theorem d25_14 : decode jdk_49_method_6_code 14 = .ok (.new 41, 3) := by decide +kernel
theorem d25_17 : decode jdk_49_method_6_code 17 = .ok (.dup, 1) := by decide +kernel
theorem d25_18 : decode jdk_49_method_6_code 18 = .ok (.invokespecial 43, 3) := by decide +kernel
theorem d25_21 : decode jdk_49_method_6_code 21 = .ok (.athrow, 1) := by decide +kernel
theorem d25_22 : decode jdk_49_method_6_code 22 = .ok (.return_, 1) := by decide +kernel
theorem pn_25 : plainFor (⟨"java/util/ArrayList$Itr", "checkForComodification", "()V"⟩ : MethodName) = true := by first | exact plainFor_of_name (by first | (simp [plainName, overriddenIn]; done) | decide +kernel) | decide +kernel
theorem ef_25 (m : MethodId) (x0 : Addr) : entryFrame m #[(.ref x0)] 1 = mkF m 0 #[.val (.ref x0)] [] := by first | (simp [entryFrame, mkF, argsToLocals, Value.category]; done) | rfl
set_option maxRecDepth 65536 in
set_option maxHeartbeats 40000000 in
theorem conCF (l : Launch) (Z : State) (a0 : Array Value) (hw : ∀ d ∈ tables_1, d.before a0 Z = true) (n0 : Nat) (ws : List Jvm.Cond) (u0 : Addr) (F : List OEnt) (a d : Addr) (mc lr : Int32) (i n : Nat) :
    OCon l Z n0 (⟨"java/util/ArrayList$Itr", "checkForComodification", "()V"⟩ : MethodName) jdk_49_method_6_code 1 none ws ({ frames := 0, cells := 0, slots := 0, locals := 0 } : Room) #[(.ref u0)] ([(eO u0 "java/util/ArrayList$Itr" [("java/util/ArrayList$Itr", "this$0", "Ljava/util/ArrayList;", (.ref a)), ("java/util/ArrayList$Itr", "lastRet", "I", (.int lr)), ("java/util/ArrayList$Itr", "expectedModCount", "I", (.int mc)), ("java/util/ArrayList$Itr", "cursor", "I", (.int (i).toInt32))]), (eO a "java/util/ArrayList" [("java/util/AbstractList", "modCount", "I", (.int mc)), ("java/util/ArrayList", "elementData", "[Ljava/lang/Object;", (.ref d)), ("java/util/ArrayList", "size", "I", (.int (n).toInt32))])] ++ F) (fun v' es' => v' = none ∧ es' = ([(eO u0 "java/util/ArrayList$Itr" [("java/util/ArrayList$Itr", "this$0", "Ljava/util/ArrayList;", (.ref a)), ("java/util/ArrayList$Itr", "lastRet", "I", (.int lr)), ("java/util/ArrayList$Itr", "expectedModCount", "I", (.int mc)), ("java/util/ArrayList$Itr", "cursor", "I", (.int (i).toInt32))]), (eO a "java/util/ArrayList" [("java/util/AbstractList", "modCount", "I", (.int mc)), ("java/util/ArrayList", "elementData", "[Ljava/lang/Object;", (.ref d)), ("java/util/ArrayList", "size", "I", (.int (n).toInt32))])] ++ F)) := by
  intro h0 hW0
  refine MetFree.of_bodySF pn_25 hisR ?_
  intro p e s m args below meth c s₁ Bd hml0 hP hK
  obtain ⟨rfl, hZ, hh⟩ := hP
  have hx := Bd.exec
  have hby := Bd.bytes
  have hml : c.maxLocals = 1 := hml0
  have hown : s.vm.findClass "java/util/ArrayList$Itr" = some m.cls := findClass_of_methodNamed Bd.named
  have hnm := (name_of_methodNamed Bd.named Bd.method).1
  have H0 : OHere p l e ({ frames := 0, cells := 0, slots := 0, locals := 0 } : Room) s m #[(.ref u0)] below meth c Z n0 0 s₁ 0 0 ([(eO u0 "java/util/ArrayList$Itr" [("java/util/ArrayList$Itr", "this$0", "Ljava/util/ArrayList;", (.ref a)), ("java/util/ArrayList$Itr", "lastRet", "I", (.int lr)), ("java/util/ArrayList$Itr", "expectedModCount", "I", (.int mc)), ("java/util/ArrayList$Itr", "cursor", "I", (.int (i).toInt32))]), (eO a "java/util/ArrayList" [("java/util/AbstractList", "modCount", "I", (.int mc)), ("java/util/ArrayList", "elementData", "[Ljava/lang/Object;", (.ref d)), ("java/util/ArrayList", "size", "I", (.int (n).toInt32))])] ++ F) := ⟨[], Stand.of_body Bd, by rw [show s₁.heap = h0 from by rw [← hh, Bd.state]; rfl]; exact hW0, Fr.nil _, Nat.zero_le _⟩
  show OEnds p e below s _ _ (fun v' h' L => Fr n0 L ∧ ∃ es', (fun v' es' => v' = none ∧ es' = ([(eO u0 "java/util/ArrayList$Itr" [("java/util/ArrayList$Itr", "this$0", "Ljava/util/ArrayList;", (.ref a)), ("java/util/ArrayList$Itr", "lastRet", "I", (.int lr)), ("java/util/ArrayList$Itr", "expectedModCount", "I", (.int mc)), ("java/util/ArrayList$Itr", "cursor", "I", (.int (i).toInt32))]), (eO a "java/util/ArrayList" [("java/util/AbstractList", "modCount", "I", (.int mc)), ("java/util/ArrayList", "elementData", "[Ljava/lang/Object;", (.ref d)), ("java/util/ArrayList", "size", "I", (.int (n).toInt32))])] ++ F)) v' es' ∧ OWorld Z n0 h' es') _
  refine OEnds.pre (fun t k => castTop (ef_25 m u0) k) ?_
  show OEnds p e below s _ _ _ (s₁.setTop (mkF m 0 #[vR u0] []))
  refine OEnds.pre (fun t_ k_ => XS.aloadN H0.here hx rfl (hb hby d25_0) rfl rfl k_) ?_
  show OEnds p e below s _ _ _ (s₁.setTop (mkF m 1 #[vR u0] [(.ref u0)]))
  obtain ⟨T1, H1, st1⟩ := OHere.getfield H0 hx hZ (O := "java/util/ArrayList$Itr") (q := 0) (f := 0) (v := (.ref a)) (fs := [("java/util/ArrayList$Itr", "this$0", "Ljava/util/ArrayList;", (.ref a)), ("java/util/ArrayList$Itr", "lastRet", "I", (.int lr)), ("java/util/ArrayList$Itr", "expectedModCount", "I", (.int mc)), ("java/util/ArrayList$Itr", "cursor", "I", (.int (i).toInt32))]) (C := "java/util/ArrayList$Itr") (pc := 1) (Ls := #[vR u0]) (rest := []) hown (tWd hw 153 rfl) Via.refl rfl rfl (hb hby d25_1)
  replace H1 : OHere p l e _ s m _ below meth c Z n0 0 T1 0 0 ([(eO u0 "java/util/ArrayList$Itr" [("java/util/ArrayList$Itr", "this$0", "Ljava/util/ArrayList;", (.ref a)), ("java/util/ArrayList$Itr", "lastRet", "I", (.int lr)), ("java/util/ArrayList$Itr", "expectedModCount", "I", (.int mc)), ("java/util/ArrayList$Itr", "cursor", "I", (.int (i).toInt32))]), (eO a "java/util/ArrayList" [("java/util/AbstractList", "modCount", "I", (.int mc)), ("java/util/ArrayList", "elementData", "[Ljava/lang/Object;", (.ref d)), ("java/util/ArrayList", "size", "I", (.int (n).toInt32))])] ++ F) := H1
  refine OEnds.pre (fun t_ k_ => st1 _ k_) ?_
  show OEnds p e below s _ _ _ (T1.setTop (mkF m 4 #[vR u0] [(.ref a)]))
  obtain ⟨T2, H2, st2⟩ := OHere.getfield H1 hx hZ (O := "java/util/AbstractList") (q := 1) (f := 0) (v := (.int mc)) (fs := [("java/util/AbstractList", "modCount", "I", (.int mc)), ("java/util/ArrayList", "elementData", "[Ljava/lang/Object;", (.ref d)), ("java/util/ArrayList", "size", "I", (.int (n).toInt32))]) (C := "java/util/ArrayList") (pc := 4) (Ls := #[vR u0]) (rest := []) hown (tWd hw 158 rfl) (Via.of (tWd hw 62 rfl)) rfl rfl (hb hby d25_4)
  replace H2 : OHere p l e _ s m _ below meth c Z n0 0 T2 0 0 ([(eO u0 "java/util/ArrayList$Itr" [("java/util/ArrayList$Itr", "this$0", "Ljava/util/ArrayList;", (.ref a)), ("java/util/ArrayList$Itr", "lastRet", "I", (.int lr)), ("java/util/ArrayList$Itr", "expectedModCount", "I", (.int mc)), ("java/util/ArrayList$Itr", "cursor", "I", (.int (i).toInt32))]), (eO a "java/util/ArrayList" [("java/util/AbstractList", "modCount", "I", (.int mc)), ("java/util/ArrayList", "elementData", "[Ljava/lang/Object;", (.ref d)), ("java/util/ArrayList", "size", "I", (.int (n).toInt32))])] ++ F) := H2
  refine OEnds.pre (fun t_ k_ => st2 _ k_) ?_
  show OEnds p e below s _ _ _ (T2.setTop (mkF m 7 #[vR u0] [(.int mc)]))
  refine OEnds.pre (fun t_ k_ => XS.aloadN H2.here hx rfl (hb hby d25_7) rfl rfl k_) ?_
  show OEnds p e below s _ _ _ (T2.setTop (mkF m 8 #[vR u0] [(.ref u0), (.int mc)]))
  obtain ⟨T3, H3, st3⟩ := OHere.getfield H2 hx hZ (O := "java/util/ArrayList$Itr") (q := 0) (f := 2) (v := (.int mc)) (fs := [("java/util/ArrayList$Itr", "this$0", "Ljava/util/ArrayList;", (.ref a)), ("java/util/ArrayList$Itr", "lastRet", "I", (.int lr)), ("java/util/ArrayList$Itr", "expectedModCount", "I", (.int mc)), ("java/util/ArrayList$Itr", "cursor", "I", (.int (i).toInt32))]) (C := "java/util/ArrayList$Itr") (pc := 8) (Ls := #[vR u0]) (rest := [(.int mc)]) hown (tWd hw 159 rfl) Via.refl rfl rfl (hb hby d25_8)
  replace H3 : OHere p l e _ s m _ below meth c Z n0 0 T3 0 0 ([(eO u0 "java/util/ArrayList$Itr" [("java/util/ArrayList$Itr", "this$0", "Ljava/util/ArrayList;", (.ref a)), ("java/util/ArrayList$Itr", "lastRet", "I", (.int lr)), ("java/util/ArrayList$Itr", "expectedModCount", "I", (.int mc)), ("java/util/ArrayList$Itr", "cursor", "I", (.int (i).toInt32))]), (eO a "java/util/ArrayList" [("java/util/AbstractList", "modCount", "I", (.int mc)), ("java/util/ArrayList", "elementData", "[Ljava/lang/Object;", (.ref d)), ("java/util/ArrayList", "size", "I", (.int (n).toInt32))])] ++ F) := H3
  refine OEnds.pre (fun t_ k_ => st3 _ k_) ?_
  show OEnds p e below s _ _ _ (T3.setTop (mkF m 11 #[vR u0] [(.int mc), (.int mc)]))
  refine OEnds.pre (fun t_ k_ => XS.icmpYes H3.here hx rfl (pc0 := 11) (pc' := 22) rfl (hb hby d25_11) rfl (XT.ii_eq_t rfl) (by decide) (by decide) k_) ?_
  show OEnds p e below s _ _ _ (T3.setTop (mkF m 22 #[vR u0] []))
  exact H3.ret hx Bd.notSynchronized Bd.returns (hb hby d25_22) (by decide) (by decide) (fun h L W N => ⟨N, _, ⟨rfl, rfl⟩, W⟩)
theorem d19_0 : decode jdk_49_method_2_code 0 = .ok (.aload_n 0, 1) := by decide +kernel
theorem d19_1 : decode jdk_49_method_2_code 1 = .ok (.getfield 25, 3) := by decide +kernel
theorem d19_4 : decode jdk_49_method_2_code 4 = .ok (.aload_n 0, 1) := by decide +kernel
theorem d19_5 : decode jdk_49_method_2_code 5 = .ok (.getfield 1, 3) := by decide +kernel
theorem d19_8 : decode jdk_49_method_2_code 8 = .ok (.getfield 28, 3) := by decide +kernel
theorem d19_11 : decode jdk_49_method_2_code 11 = .ok (.if_icmp .eq 7, 3) := by decide +kernel
theorem d19_14 : decode jdk_49_method_2_code 14 = .ok (.iconst 1, 1) := by decide +kernel
theorem d19_15 : decode jdk_49_method_2_code 15 = .ok (.goto 4, 3) := by decide +kernel
theorem d19_18 : decode jdk_49_method_2_code 18 = .ok (.iconst 0, 1) := by decide +kernel
theorem d19_19 : decode jdk_49_method_2_code 19 = .ok (.ireturn, 1) := by decide +kernel
theorem pn_19 : plainFor (⟨"java/util/ArrayList$Itr", "hasNext", "()Z"⟩ : MethodName) = true := by first | exact plainFor_of_name (by first | (simp [plainName, overriddenIn]; done) | decide +kernel) | decide +kernel
theorem ef_19 (m : MethodId) (x0 : Addr) : entryFrame m #[(.ref x0)] 1 = mkF m 0 #[.val (.ref x0)] [] := by first | (simp [entryFrame, mkF, argsToLocals, Value.category]; done) | rfl
set_option maxRecDepth 65536 in
set_option maxHeartbeats 40000000 in
theorem conHNN (l : Launch) (Z : State) (a0 : Array Value) (hw : ∀ d ∈ tables_1, d.before a0 Z = true) (n0 : Nat) (ws : List Jvm.Cond) (u0 : Addr) (F : List OEnt) (a d : Addr) (mc lr : Int32) (i n : Nat) (hin : i = n) :
    OCon l Z n0 (⟨"java/util/ArrayList$Itr", "hasNext", "()Z"⟩ : MethodName) jdk_49_method_2_code 1 (some .boolean) ws ({ frames := 0, cells := 0, slots := 0, locals := 0 } : Room) #[(.ref u0)] ([(eO u0 "java/util/ArrayList$Itr" [("java/util/ArrayList$Itr", "this$0", "Ljava/util/ArrayList;", (.ref a)), ("java/util/ArrayList$Itr", "lastRet", "I", (.int lr)), ("java/util/ArrayList$Itr", "expectedModCount", "I", (.int mc)), ("java/util/ArrayList$Itr", "cursor", "I", (.int (i).toInt32))]), (eO a "java/util/ArrayList" [("java/util/AbstractList", "modCount", "I", (.int mc)), ("java/util/ArrayList", "elementData", "[Ljava/lang/Object;", (.ref d)), ("java/util/ArrayList", "size", "I", (.int (n).toInt32))])] ++ F) (fun v' es' => v' = some (.int (0 : Int32)) ∧ es' = ([(eO u0 "java/util/ArrayList$Itr" [("java/util/ArrayList$Itr", "this$0", "Ljava/util/ArrayList;", (.ref a)), ("java/util/ArrayList$Itr", "lastRet", "I", (.int lr)), ("java/util/ArrayList$Itr", "expectedModCount", "I", (.int mc)), ("java/util/ArrayList$Itr", "cursor", "I", (.int (i).toInt32))]), (eO a "java/util/ArrayList" [("java/util/AbstractList", "modCount", "I", (.int mc)), ("java/util/ArrayList", "elementData", "[Ljava/lang/Object;", (.ref d)), ("java/util/ArrayList", "size", "I", (.int (n).toInt32))])] ++ F)) := by
  intro h0 hW0
  refine MetFree.of_bodySF pn_19 hisR ?_
  intro p e s m args below meth c s₁ Bd hml0 hP hK
  obtain ⟨rfl, hZ, hh⟩ := hP
  have hx := Bd.exec
  have hby := Bd.bytes
  have hml : c.maxLocals = 1 := hml0
  have hown : s.vm.findClass "java/util/ArrayList$Itr" = some m.cls := findClass_of_methodNamed Bd.named
  have hnm := (name_of_methodNamed Bd.named Bd.method).1
  have H0 : OHere p l e ({ frames := 0, cells := 0, slots := 0, locals := 0 } : Room) s m #[(.ref u0)] below meth c Z n0 0 s₁ 0 0 ([(eO u0 "java/util/ArrayList$Itr" [("java/util/ArrayList$Itr", "this$0", "Ljava/util/ArrayList;", (.ref a)), ("java/util/ArrayList$Itr", "lastRet", "I", (.int lr)), ("java/util/ArrayList$Itr", "expectedModCount", "I", (.int mc)), ("java/util/ArrayList$Itr", "cursor", "I", (.int (i).toInt32))]), (eO a "java/util/ArrayList" [("java/util/AbstractList", "modCount", "I", (.int mc)), ("java/util/ArrayList", "elementData", "[Ljava/lang/Object;", (.ref d)), ("java/util/ArrayList", "size", "I", (.int (n).toInt32))])] ++ F) := ⟨[], Stand.of_body Bd, by rw [show s₁.heap = h0 from by rw [← hh, Bd.state]; rfl]; exact hW0, Fr.nil _, Nat.zero_le _⟩
  show OEnds p e below s _ _ (fun v' h' L => Fr n0 L ∧ ∃ es', (fun v' es' => v' = some (.int (0 : Int32)) ∧ es' = ([(eO u0 "java/util/ArrayList$Itr" [("java/util/ArrayList$Itr", "this$0", "Ljava/util/ArrayList;", (.ref a)), ("java/util/ArrayList$Itr", "lastRet", "I", (.int lr)), ("java/util/ArrayList$Itr", "expectedModCount", "I", (.int mc)), ("java/util/ArrayList$Itr", "cursor", "I", (.int (i).toInt32))]), (eO a "java/util/ArrayList" [("java/util/AbstractList", "modCount", "I", (.int mc)), ("java/util/ArrayList", "elementData", "[Ljava/lang/Object;", (.ref d)), ("java/util/ArrayList", "size", "I", (.int (n).toInt32))])] ++ F)) v' es' ∧ OWorld Z n0 h' es') _
  refine OEnds.pre (fun t k => castTop (ef_19 m u0) k) ?_
  show OEnds p e below s _ _ _ (s₁.setTop (mkF m 0 #[vR u0] []))
  refine OEnds.pre (fun t_ k_ => XS.aloadN H0.here hx rfl (hb hby d19_0) rfl rfl k_) ?_
  show OEnds p e below s _ _ _ (s₁.setTop (mkF m 1 #[vR u0] [(.ref u0)]))
  obtain ⟨T1, H1, st1⟩ := OHere.getfield H0 hx hZ (O := "java/util/ArrayList$Itr") (q := 0) (f := 3) (v := (.int (i).toInt32)) (fs := [("java/util/ArrayList$Itr", "this$0", "Ljava/util/ArrayList;", (.ref a)), ("java/util/ArrayList$Itr", "lastRet", "I", (.int lr)), ("java/util/ArrayList$Itr", "expectedModCount", "I", (.int mc)), ("java/util/ArrayList$Itr", "cursor", "I", (.int (i).toInt32))]) (C := "java/util/ArrayList$Itr") (pc := 1) (Ls := #[vR u0]) (rest := []) hown (tWd hw 170 rfl) Via.refl rfl rfl (hb hby d19_1)
  replace H1 : OHere p l e _ s m _ below meth c Z n0 0 T1 0 0 ([(eO u0 "java/util/ArrayList$Itr" [("java/util/ArrayList$Itr", "this$0", "Ljava/util/ArrayList;", (.ref a)), ("java/util/ArrayList$Itr", "lastRet", "I", (.int lr)), ("java/util/ArrayList$Itr", "expectedModCount", "I", (.int mc)), ("java/util/ArrayList$Itr", "cursor", "I", (.int (i).toInt32))]), (eO a "java/util/ArrayList" [("java/util/AbstractList", "modCount", "I", (.int mc)), ("java/util/ArrayList", "elementData", "[Ljava/lang/Object;", (.ref d)), ("java/util/ArrayList", "size", "I", (.int (n).toInt32))])] ++ F) := H1
  refine OEnds.pre (fun t_ k_ => st1 _ k_) ?_
  show OEnds p e below s _ _ _ (T1.setTop (mkF m 4 #[vR u0] [(.int (i).toInt32)]))
  refine OEnds.pre (fun t_ k_ => XS.aloadN H1.here hx rfl (hb hby d19_4) rfl rfl k_) ?_
  show OEnds p e below s _ _ _ (T1.setTop (mkF m 5 #[vR u0] [(.ref u0), (.int (i).toInt32)]))
  obtain ⟨T2, H2, st2⟩ := OHere.getfield H1 hx hZ (O := "java/util/ArrayList$Itr") (q := 0) (f := 0) (v := (.ref a)) (fs := [("java/util/ArrayList$Itr", "this$0", "Ljava/util/ArrayList;", (.ref a)), ("java/util/ArrayList$Itr", "lastRet", "I", (.int lr)), ("java/util/ArrayList$Itr", "expectedModCount", "I", (.int mc)), ("java/util/ArrayList$Itr", "cursor", "I", (.int (i).toInt32))]) (C := "java/util/ArrayList$Itr") (pc := 5) (Ls := #[vR u0]) (rest := [(.int (i).toInt32)]) hown (tWd hw 153 rfl) Via.refl rfl rfl (hb hby d19_5)
  replace H2 : OHere p l e _ s m _ below meth c Z n0 0 T2 0 0 ([(eO u0 "java/util/ArrayList$Itr" [("java/util/ArrayList$Itr", "this$0", "Ljava/util/ArrayList;", (.ref a)), ("java/util/ArrayList$Itr", "lastRet", "I", (.int lr)), ("java/util/ArrayList$Itr", "expectedModCount", "I", (.int mc)), ("java/util/ArrayList$Itr", "cursor", "I", (.int (i).toInt32))]), (eO a "java/util/ArrayList" [("java/util/AbstractList", "modCount", "I", (.int mc)), ("java/util/ArrayList", "elementData", "[Ljava/lang/Object;", (.ref d)), ("java/util/ArrayList", "size", "I", (.int (n).toInt32))])] ++ F) := H2
  refine OEnds.pre (fun t_ k_ => st2 _ k_) ?_
  show OEnds p e below s _ _ _ (T2.setTop (mkF m 8 #[vR u0] [(.ref a), (.int (i).toInt32)]))
  obtain ⟨T3, H3, st3⟩ := OHere.getfieldN H2 hx hZ (O := "java/util/ArrayList") (q := 1) (f := 2) (v := (.int (n).toInt32)) (fs := [("java/util/AbstractList", "modCount", "I", (.int mc)), ("java/util/ArrayList", "elementData", "[Ljava/lang/Object;", (.ref d)), ("java/util/ArrayList", "size", "I", (.int (n).toInt32))]) (C := "java/util/ArrayList") (pc := 8) (Ls := #[vR u0]) (rest := [(.int (i).toInt32)]) hown (tWd hw 172 rfl) Via.refl rfl rfl (hb hby d19_8)
  replace H3 : OHere p l e _ s m _ below meth c Z n0 0 T3 0 0 ([(eO u0 "java/util/ArrayList$Itr" [("java/util/ArrayList$Itr", "this$0", "Ljava/util/ArrayList;", (.ref a)), ("java/util/ArrayList$Itr", "lastRet", "I", (.int lr)), ("java/util/ArrayList$Itr", "expectedModCount", "I", (.int mc)), ("java/util/ArrayList$Itr", "cursor", "I", (.int (i).toInt32))]), (eO a "java/util/ArrayList" [("java/util/AbstractList", "modCount", "I", (.int mc)), ("java/util/ArrayList", "elementData", "[Ljava/lang/Object;", (.ref d)), ("java/util/ArrayList", "size", "I", (.int (n).toInt32))])] ++ F) := H3
  refine OEnds.pre (fun t_ k_ => st3 _ k_) ?_
  show OEnds p e below s _ _ _ (T3.setTop (mkF m 11 #[vR u0] [(.int (n).toInt32), (.int (i).toInt32)]))
  refine OEnds.pre (fun t_ k_ => XS.icmpYes H3.here hx rfl (pc0 := 11) (pc' := 18) rfl (hb hby d19_11) rfl (XT.ii_eq_t (congrArg Nat.toInt32 hin)) (by decide) (by decide) k_) ?_
  show OEnds p e below s _ _ _ (T3.setTop (mkF m 18 #[vR u0] []))
  refine OEnds.pre (fun t_ k_ => XT.iconstV H3.here hx rfl (0 : Int32) (hb hby d19_18) rfl k_) ?_
  show OEnds p e below s _ _ _ (T3.setTop (mkF m 19 #[vR u0] [(.int (0 : Int32))]))
  exact H3.nrw hx Bd.notSynchronized Bd.returns (by simp) (hb hby d19_19) (by decide) (by decide) (fun h L W N => ⟨N, _, ⟨rfl, rfl⟩, W⟩)
set_option maxRecDepth 65536 in
set_option maxHeartbeats 40000000 in
theorem conHNY (l : Launch) (Z : State) (a0 : Array Value) (hw : ∀ d ∈ tables_1, d.before a0 Z = true) (n0 : Nat) (ws : List Jvm.Cond) (u0 : Addr) (F : List OEnt) (a d : Addr) (mc lr : Int32) (i n : Nat) (hin : i < n ∧ n < 20) :
    OCon l Z n0 (⟨"java/util/ArrayList$Itr", "hasNext", "()Z"⟩ : MethodName) jdk_49_method_2_code 1 (some .boolean) ws ({ frames := 0, cells := 0, slots := 0, locals := 0 } : Room) #[(.ref u0)] ([(eO u0 "java/util/ArrayList$Itr" [("java/util/ArrayList$Itr", "this$0", "Ljava/util/ArrayList;", (.ref a)), ("java/util/ArrayList$Itr", "lastRet", "I", (.int lr)), ("java/util/ArrayList$Itr", "expectedModCount", "I", (.int mc)), ("java/util/ArrayList$Itr", "cursor", "I", (.int (i).toInt32))]), (eO a "java/util/ArrayList" [("java/util/AbstractList", "modCount", "I", (.int mc)), ("java/util/ArrayList", "elementData", "[Ljava/lang/Object;", (.ref d)), ("java/util/ArrayList", "size", "I", (.int (n).toInt32))])] ++ F) (fun v' es' => v' = some (.int (1 : Int32)) ∧ es' = ([(eO u0 "java/util/ArrayList$Itr" [("java/util/ArrayList$Itr", "this$0", "Ljava/util/ArrayList;", (.ref a)), ("java/util/ArrayList$Itr", "lastRet", "I", (.int lr)), ("java/util/ArrayList$Itr", "expectedModCount", "I", (.int mc)), ("java/util/ArrayList$Itr", "cursor", "I", (.int (i).toInt32))]), (eO a "java/util/ArrayList" [("java/util/AbstractList", "modCount", "I", (.int mc)), ("java/util/ArrayList", "elementData", "[Ljava/lang/Object;", (.ref d)), ("java/util/ArrayList", "size", "I", (.int (n).toInt32))])] ++ F)) := by
  intro h0 hW0
  refine MetFree.of_bodySF pn_19 hisR ?_
  intro p e s m args below meth c s₁ Bd hml0 hP hK
  obtain ⟨rfl, hZ, hh⟩ := hP
  have hx := Bd.exec
  have hby := Bd.bytes
  have hml : c.maxLocals = 1 := hml0
  have hown : s.vm.findClass "java/util/ArrayList$Itr" = some m.cls := findClass_of_methodNamed Bd.named
  have hnm := (name_of_methodNamed Bd.named Bd.method).1
  have H0 : OHere p l e ({ frames := 0, cells := 0, slots := 0, locals := 0 } : Room) s m #[(.ref u0)] below meth c Z n0 0 s₁ 0 0 ([(eO u0 "java/util/ArrayList$Itr" [("java/util/ArrayList$Itr", "this$0", "Ljava/util/ArrayList;", (.ref a)), ("java/util/ArrayList$Itr", "lastRet", "I", (.int lr)), ("java/util/ArrayList$Itr", "expectedModCount", "I", (.int mc)), ("java/util/ArrayList$Itr", "cursor", "I", (.int (i).toInt32))]), (eO a "java/util/ArrayList" [("java/util/AbstractList", "modCount", "I", (.int mc)), ("java/util/ArrayList", "elementData", "[Ljava/lang/Object;", (.ref d)), ("java/util/ArrayList", "size", "I", (.int (n).toInt32))])] ++ F) := ⟨[], Stand.of_body Bd, by rw [show s₁.heap = h0 from by rw [← hh, Bd.state]; rfl]; exact hW0, Fr.nil _, Nat.zero_le _⟩
  show OEnds p e below s _ _ (fun v' h' L => Fr n0 L ∧ ∃ es', (fun v' es' => v' = some (.int (1 : Int32)) ∧ es' = ([(eO u0 "java/util/ArrayList$Itr" [("java/util/ArrayList$Itr", "this$0", "Ljava/util/ArrayList;", (.ref a)), ("java/util/ArrayList$Itr", "lastRet", "I", (.int lr)), ("java/util/ArrayList$Itr", "expectedModCount", "I", (.int mc)), ("java/util/ArrayList$Itr", "cursor", "I", (.int (i).toInt32))]), (eO a "java/util/ArrayList" [("java/util/AbstractList", "modCount", "I", (.int mc)), ("java/util/ArrayList", "elementData", "[Ljava/lang/Object;", (.ref d)), ("java/util/ArrayList", "size", "I", (.int (n).toInt32))])] ++ F)) v' es' ∧ OWorld Z n0 h' es') _
  refine OEnds.pre (fun t k => castTop (ef_19 m u0) k) ?_
  show OEnds p e below s _ _ _ (s₁.setTop (mkF m 0 #[vR u0] []))
  refine OEnds.pre (fun t_ k_ => XS.aloadN H0.here hx rfl (hb hby d19_0) rfl rfl k_) ?_
  show OEnds p e below s _ _ _ (s₁.setTop (mkF m 1 #[vR u0] [(.ref u0)]))
  obtain ⟨T1, H1, st1⟩ := OHere.getfield H0 hx hZ (O := "java/util/ArrayList$Itr") (q := 0) (f := 3) (v := (.int (i).toInt32)) (fs := [("java/util/ArrayList$Itr", "this$0", "Ljava/util/ArrayList;", (.ref a)), ("java/util/ArrayList$Itr", "lastRet", "I", (.int lr)), ("java/util/ArrayList$Itr", "expectedModCount", "I", (.int mc)), ("java/util/ArrayList$Itr", "cursor", "I", (.int (i).toInt32))]) (C := "java/util/ArrayList$Itr") (pc := 1) (Ls := #[vR u0]) (rest := []) hown (tWd hw 170 rfl) Via.refl rfl rfl (hb hby d19_1)
  replace H1 : OHere p l e _ s m _ below meth c Z n0 0 T1 0 0 ([(eO u0 "java/util/ArrayList$Itr" [("java/util/ArrayList$Itr", "this$0", "Ljava/util/ArrayList;", (.ref a)), ("java/util/ArrayList$Itr", "lastRet", "I", (.int lr)), ("java/util/ArrayList$Itr", "expectedModCount", "I", (.int mc)), ("java/util/ArrayList$Itr", "cursor", "I", (.int (i).toInt32))]), (eO a "java/util/ArrayList" [("java/util/AbstractList", "modCount", "I", (.int mc)), ("java/util/ArrayList", "elementData", "[Ljava/lang/Object;", (.ref d)), ("java/util/ArrayList", "size", "I", (.int (n).toInt32))])] ++ F) := H1
  refine OEnds.pre (fun t_ k_ => st1 _ k_) ?_
  show OEnds p e below s _ _ _ (T1.setTop (mkF m 4 #[vR u0] [(.int (i).toInt32)]))
  refine OEnds.pre (fun t_ k_ => XS.aloadN H1.here hx rfl (hb hby d19_4) rfl rfl k_) ?_
  show OEnds p e below s _ _ _ (T1.setTop (mkF m 5 #[vR u0] [(.ref u0), (.int (i).toInt32)]))
  obtain ⟨T2, H2, st2⟩ := OHere.getfield H1 hx hZ (O := "java/util/ArrayList$Itr") (q := 0) (f := 0) (v := (.ref a)) (fs := [("java/util/ArrayList$Itr", "this$0", "Ljava/util/ArrayList;", (.ref a)), ("java/util/ArrayList$Itr", "lastRet", "I", (.int lr)), ("java/util/ArrayList$Itr", "expectedModCount", "I", (.int mc)), ("java/util/ArrayList$Itr", "cursor", "I", (.int (i).toInt32))]) (C := "java/util/ArrayList$Itr") (pc := 5) (Ls := #[vR u0]) (rest := [(.int (i).toInt32)]) hown (tWd hw 153 rfl) Via.refl rfl rfl (hb hby d19_5)
  replace H2 : OHere p l e _ s m _ below meth c Z n0 0 T2 0 0 ([(eO u0 "java/util/ArrayList$Itr" [("java/util/ArrayList$Itr", "this$0", "Ljava/util/ArrayList;", (.ref a)), ("java/util/ArrayList$Itr", "lastRet", "I", (.int lr)), ("java/util/ArrayList$Itr", "expectedModCount", "I", (.int mc)), ("java/util/ArrayList$Itr", "cursor", "I", (.int (i).toInt32))]), (eO a "java/util/ArrayList" [("java/util/AbstractList", "modCount", "I", (.int mc)), ("java/util/ArrayList", "elementData", "[Ljava/lang/Object;", (.ref d)), ("java/util/ArrayList", "size", "I", (.int (n).toInt32))])] ++ F) := H2
  refine OEnds.pre (fun t_ k_ => st2 _ k_) ?_
  show OEnds p e below s _ _ _ (T2.setTop (mkF m 8 #[vR u0] [(.ref a), (.int (i).toInt32)]))
  obtain ⟨T3, H3, st3⟩ := OHere.getfieldN H2 hx hZ (O := "java/util/ArrayList") (q := 1) (f := 2) (v := (.int (n).toInt32)) (fs := [("java/util/AbstractList", "modCount", "I", (.int mc)), ("java/util/ArrayList", "elementData", "[Ljava/lang/Object;", (.ref d)), ("java/util/ArrayList", "size", "I", (.int (n).toInt32))]) (C := "java/util/ArrayList") (pc := 8) (Ls := #[vR u0]) (rest := [(.int (i).toInt32)]) hown (tWd hw 172 rfl) Via.refl rfl rfl (hb hby d19_8)
  replace H3 : OHere p l e _ s m _ below meth c Z n0 0 T3 0 0 ([(eO u0 "java/util/ArrayList$Itr" [("java/util/ArrayList$Itr", "this$0", "Ljava/util/ArrayList;", (.ref a)), ("java/util/ArrayList$Itr", "lastRet", "I", (.int lr)), ("java/util/ArrayList$Itr", "expectedModCount", "I", (.int mc)), ("java/util/ArrayList$Itr", "cursor", "I", (.int (i).toInt32))]), (eO a "java/util/ArrayList" [("java/util/AbstractList", "modCount", "I", (.int mc)), ("java/util/ArrayList", "elementData", "[Ljava/lang/Object;", (.ref d)), ("java/util/ArrayList", "size", "I", (.int (n).toInt32))])] ++ F) := H3
  refine OEnds.pre (fun t_ k_ => st3 _ k_) ?_
  show OEnds p e below s _ _ _ (T3.setTop (mkF m 11 #[vR u0] [(.int (n).toInt32), (.int (i).toInt32)]))
  refine OEnds.pre (fun t_ k_ => XS.icmpNo H3.here hx rfl (hb hby d19_11) rfl (XT.ii_eq_f (fun q => absurd ((k_eq i (by omega) n (by omega)).mp q) (by omega))) k_) ?_
  show OEnds p e below s _ _ _ (T3.setTop (mkF m 14 #[vR u0] []))
  refine OEnds.pre (fun t_ k_ => XT.iconstV H3.here hx rfl (1 : Int32) (hb hby d19_14) rfl k_) ?_
  show OEnds p e below s _ _ _ (T3.setTop (mkF m 15 #[vR u0] [(.int (1 : Int32))]))
  refine OEnds.pre (fun t_ k_ => XS.goto H3.here hx rfl (pc0 := 15) (pc' := 19) rfl (hb hby d19_15) (by decide) (by decide) k_) ?_
  show OEnds p e below s _ _ _ (T3.setTop (mkF m 19 #[vR u0] [(.int (1 : Int32))]))
  exact H3.nrw hx Bd.notSynchronized Bd.returns (by simp) (hb hby d19_19) (by decide) (by decide) (fun h L W N => ⟨N, _, ⟨rfl, rfl⟩, W⟩)
theorem d24_0 : decode jdk_49_method_3_code 0 = .ok (.aload_n 0, 1) := by decide +kernel
theorem d24_1 : decode jdk_49_method_3_code 1 = .ok (.invokevirtual 31, 3) := by decide +kernel
theorem d24_4 : decode jdk_49_method_3_code 4 = .ok (.aload_n 0, 1) := by decide +kernel
theorem d24_5 : decode jdk_49_method_3_code 5 = .ok (.getfield 25, 3) := by decide +kernel
theorem d24_8 : decode jdk_49_method_3_code 8 = .ok (.istore_n 1, 1) := by decide +kernel
theorem d24_9 : decode jdk_49_method_3_code 9 = .ok (.iload_n 1, 1) := by decide +kernel
theorem d24_10 : decode jdk_49_method_3_code 10 = .ok (.aload_n 0, 1) := by decide +kernel
theorem d24_11 : decode jdk_49_method_3_code 11 = .ok (.getfield 1, 3) := by decide +kernel
theorem d24_14 : decode jdk_49_method_3_code 14 = .ok (.getfield 28, 3) := by decide +kernel
theorem d24_17 : decode jdk_49_method_3_code 17 = .ok (.if_icmp .lt 11, 3) := by decide +kernel
theorem d24_20 : decode jdk_49_method_3_code 20 = .ok (.new 34, 3) := by decide +kernel
theorem d24_23 : decode jdk_49_method_3_code 23 = .ok (.dup, 1) := by decide +kernel
theorem d24_24 : decode jdk_49_method_3_code 24 = .ok (.invokespecial 36, 3) := by decide +kernel
theorem d24_27 : decode jdk_49_method_3_code 27 = .ok (.athrow, 1) := by decide +kernel
theorem d24_28 : decode jdk_49_method_3_code 28 = .ok (.aload_n 0, 1) := by decide +kernel
theorem d24_29 : decode jdk_49_method_3_code 29 = .ok (.getfield 1, 3) := by decide +kernel
theorem d24_32 : decode jdk_49_method_3_code 32 = .ok (.getfield 37, 3) := by decide +kernel
theorem d24_35 : decode jdk_49_method_3_code 35 = .ok (.astore_n 2, 1) := by decide +kernel
theorem d24_36 : decode jdk_49_method_3_code 36 = .ok (.iload_n 1, 1) := by decide +kernel
theorem d24_37 : decode jdk_49_method_3_code 37 = .ok (.aload_n 2, 1) := by decide +kernel
theorem d24_38 : decode jdk_49_method_3_code 38 = .ok (.arraylength, 1) := by decide +kernel
theorem d24_39 : decode jdk_49_method_3_code 39 = .ok (.if_icmp .lt 11, 3) := by decide +kernel
theorem d24_42 : decode jdk_49_method_3_code 42 = .ok (.new 41, 3) := by decide +kernel
theorem d24_45 : decode jdk_49_method_3_code 45 = .ok (.dup, 1) := by decide +kernel
theorem d24_46 : decode jdk_49_method_3_code 46 = .ok (.invokespecial 43, 3) := by decide +kernel
theorem d24_49 : decode jdk_49_method_3_code 49 = .ok (.athrow, 1) := by decide +kernel
theorem d24_50 : decode jdk_49_method_3_code 50 = .ok (.aload_n 0, 1) := by decide +kernel
theorem d24_51 : decode jdk_49_method_3_code 51 = .ok (.iload_n 1, 1) := by decide +kernel
theorem d24_52 : decode jdk_49_method_3_code 52 = .ok (.iconst 1, 1) := by decide +kernel
theorem d24_53 : decode jdk_49_method_3_code 53 = .ok (.iadd, 1) := by decide +kernel
theorem d24_54 : decode jdk_49_method_3_code 54 = .ok (.putfield 25, 3) := by decide +kernel
theorem d24_57 : decode jdk_49_method_3_code 57 = .ok (.aload_n 2, 1) := by decide +kernel
theorem d24_58 : decode jdk_49_method_3_code 58 = .ok (.aload_n 0, 1) := by decide +kernel
theorem d24_59 : decode jdk_49_method_3_code 59 = .ok (.iload_n 1, 1) := by decide +kernel
theorem d24_60 : decode jdk_49_method_3_code 60 = .ok (.dup_x1, 1) := by decide +kernel
theorem d24_61 : decode jdk_49_method_3_code 61 = .ok (.putfield 13, 3) := by decide +kernel
theorem d24_64 : decode jdk_49_method_3_code 64 = .ok (.aaload, 1) := by decide +kernel
theorem d24_65 : decode jdk_49_method_3_code 65 = .ok (.areturn, 1) := by decide +kernel
theorem pn_24 : plainFor (⟨"java/util/ArrayList$Itr", "next", "()Ljava/lang/Object;"⟩ : MethodName) = true := by first | exact plainFor_of_name (by first | (simp [plainName, overriddenIn]; done) | decide +kernel) | decide +kernel
theorem ef_24 (m : MethodId) (x0 : Addr) : entryFrame m #[(.ref x0)] 3 = mkF m 0 #[.val (.ref x0), .unset, .unset] [] := by first | (simp [entryFrame, mkF, argsToLocals, Value.category]; done) | rfl
set_option maxRecDepth 65536 in
set_option maxHeartbeats 40000000 in
theorem conNx (l : Launch) (Z : State) (a0 : Array Value) (hw : ∀ d ∈ tables_1, d.before a0 Z = true) (n0 : Nat) (ws : List Jvm.Cond) (u0 : Addr) (F : List OEnt) (a d : Addr) (mc lr : Int32) (i n : Nat) (vs : List Value) (x : Addr) (hin : i < n ∧ n < 10) (hA : eA d (.object "java/lang/Object") vs ∈ F) (hv : vs.length = 10) (hvi : vs[i]? = some (.ref x)) :
    OCon l Z n0 (⟨"java/util/ArrayList$Itr", "next", "()Ljava/lang/Object;"⟩ : MethodName) jdk_49_method_3_code 3 (some (.object "java/lang/Object")) ws ({ frames := 1, cells := 0, slots := 0, locals := 12 } : Room) #[(.ref u0)] ([(eO u0 "java/util/ArrayList$Itr" [("java/util/ArrayList$Itr", "this$0", "Ljava/util/ArrayList;", (.ref a)), ("java/util/ArrayList$Itr", "lastRet", "I", (.int lr)), ("java/util/ArrayList$Itr", "expectedModCount", "I", (.int mc)), ("java/util/ArrayList$Itr", "cursor", "I", (.int (i).toInt32))]), (eO a "java/util/ArrayList" [("java/util/AbstractList", "modCount", "I", (.int mc)), ("java/util/ArrayList", "elementData", "[Ljava/lang/Object;", (.ref d)), ("java/util/ArrayList", "size", "I", (.int (n).toInt32))])] ++ F) (fun v' es' => v' = some (.ref x) ∧ es' = ([(eO u0 "java/util/ArrayList$Itr" [("java/util/ArrayList$Itr", "this$0", "Ljava/util/ArrayList;", (.ref a)), ("java/util/ArrayList$Itr", "lastRet", "I", (.int (i).toInt32)), ("java/util/ArrayList$Itr", "expectedModCount", "I", (.int mc)), ("java/util/ArrayList$Itr", "cursor", "I", (.int (i + 1).toInt32))]), (eO a "java/util/ArrayList" [("java/util/AbstractList", "modCount", "I", (.int mc)), ("java/util/ArrayList", "elementData", "[Ljava/lang/Object;", (.ref d)), ("java/util/ArrayList", "size", "I", (.int (n).toInt32))])] ++ F)) := by
  intro h0 hW0
  refine MetFree.of_bodySF pn_24 hisR ?_
  intro p e s m args below meth c s₁ Bd hml0 hP hK
  obtain ⟨rfl, hZ, hh⟩ := hP
  have hx := Bd.exec
  have hby := Bd.bytes
  have hml : c.maxLocals = 3 := hml0
  have hown : s.vm.findClass "java/util/ArrayList$Itr" = some m.cls := findClass_of_methodNamed Bd.named
  have hnm := (name_of_methodNamed Bd.named Bd.method).1
  have H0 : OHere p l e ({ frames := 1, cells := 0, slots := 0, locals := 12 } : Room) s m #[(.ref u0)] below meth c Z n0 0 s₁ 0 0 ([(eO u0 "java/util/ArrayList$Itr" [("java/util/ArrayList$Itr", "this$0", "Ljava/util/ArrayList;", (.ref a)), ("java/util/ArrayList$Itr", "lastRet", "I", (.int lr)), ("java/util/ArrayList$Itr", "expectedModCount", "I", (.int mc)), ("java/util/ArrayList$Itr", "cursor", "I", (.int (i).toInt32))]), (eO a "java/util/ArrayList" [("java/util/AbstractList", "modCount", "I", (.int mc)), ("java/util/ArrayList", "elementData", "[Ljava/lang/Object;", (.ref d)), ("java/util/ArrayList", "size", "I", (.int (n).toInt32))])] ++ F) := ⟨[], Stand.of_body Bd, by rw [show s₁.heap = h0 from by rw [← hh, Bd.state]; rfl]; exact hW0, Fr.nil _, Nat.zero_le _⟩
  show OEnds p e below s _ _ (fun v' h' L => Fr n0 L ∧ ∃ es', (fun v' es' => v' = some (.ref x) ∧ es' = ([(eO u0 "java/util/ArrayList$Itr" [("java/util/ArrayList$Itr", "this$0", "Ljava/util/ArrayList;", (.ref a)), ("java/util/ArrayList$Itr", "lastRet", "I", (.int (i).toInt32)), ("java/util/ArrayList$Itr", "expectedModCount", "I", (.int mc)), ("java/util/ArrayList$Itr", "cursor", "I", (.int (i + 1).toInt32))]), (eO a "java/util/ArrayList" [("java/util/AbstractList", "modCount", "I", (.int mc)), ("java/util/ArrayList", "elementData", "[Ljava/lang/Object;", (.ref d)), ("java/util/ArrayList", "size", "I", (.int (n).toInt32))])] ++ F)) v' es' ∧ OWorld Z n0 h' es') _
  refine OEnds.pre (fun t k => castTop (ef_24 m u0) k) ?_
  show OEnds p e below s _ _ _ (s₁.setTop (mkF m 0 #[vR u0, uN, uN] []))
  refine OEnds.pre (fun t_ k_ => XS.aloadN H0.here hx rfl (hb hby d24_0) rfl rfl k_) ?_
  show OEnds p e below s _ _ _ (s₁.setTop (mkF m 1 #[vR u0, uN, uN] [(.ref u0)]))
  obtain ⟨T1, _, _, ⟨rfl, rfl⟩, H1, st1⟩ := OHere.virtual H0 hx hZ (y := (⟨"java/util/ArrayList$Itr", "checkForComodification", "()V"⟩ : MethodName)) (z := (⟨"java/util/ArrayList$Itr", "checkForComodification", "()V"⟩ : MethodName)) (W := 0) (a := u0) (q := 0) (fs := [("java/util/ArrayList$Itr", "this$0", "Ljava/util/ArrayList;", (.ref a)), ("java/util/ArrayList$Itr", "lastRet", "I", (.int lr)), ("java/util/ArrayList$Itr", "expectedModCount", "I", (.int mc)), ("java/util/ArrayList$Itr", "cursor", "I", (.int (i).toInt32))]) hown (tWd hw 202 rfl) (tWd hw 203 rfl) (nf_sel (tWd hw 164 rfl) rfl) (tWd hw 205 rfl) (tWd hw 204 rfl) (tWd hw 148 rfl) (tWd hw 206 rfl) (by decide) rfl (conCF l Z a0 hw n0 [] u0 ([] ++ F) a d mc lr i n) (by decide) (by decide) (pc := 1) (Ls := #[vR u0, uN, uN]) (argsL := []) (rest := []) (by rw [hml]; rfl) (lenOf pd_ocV rfl) rfl (Nat.le_of_eq rfl) (hb hby d24_1) (by decide) (by decide)
  replace H1 : OHere p l e _ s m _ below meth c Z n0 0 T1 0 0 ([(eO u0 "java/util/ArrayList$Itr" [("java/util/ArrayList$Itr", "this$0", "Ljava/util/ArrayList;", (.ref a)), ("java/util/ArrayList$Itr", "lastRet", "I", (.int lr)), ("java/util/ArrayList$Itr", "expectedModCount", "I", (.int mc)), ("java/util/ArrayList$Itr", "cursor", "I", (.int (i).toInt32))]), (eO a "java/util/ArrayList" [("java/util/AbstractList", "modCount", "I", (.int mc)), ("java/util/ArrayList", "elementData", "[Ljava/lang/Object;", (.ref d)), ("java/util/ArrayList", "size", "I", (.int (n).toInt32))])] ++ F) := H1
  refine OEnds.pre (fun t_ k_ => st1 _ k_) ?_
  show OEnds p e below s _ _ _ (T1.setTop (mkF m 4 #[vR u0, uN, uN] []))
  refine OEnds.pre (fun t_ k_ => XS.aloadN H1.here hx rfl (hb hby d24_4) rfl rfl k_) ?_
  show OEnds p e below s _ _ _ (T1.setTop (mkF m 5 #[vR u0, uN, uN] [(.ref u0)]))
  obtain ⟨T2, H2, st2⟩ := OHere.getfield H1 hx hZ (O := "java/util/ArrayList$Itr") (q := 0) (f := 3) (v := (.int (i).toInt32)) (fs := [("java/util/ArrayList$Itr", "this$0", "Ljava/util/ArrayList;", (.ref a)), ("java/util/ArrayList$Itr", "lastRet", "I", (.int lr)), ("java/util/ArrayList$Itr", "expectedModCount", "I", (.int mc)), ("java/util/ArrayList$Itr", "cursor", "I", (.int (i).toInt32))]) (C := "java/util/ArrayList$Itr") (pc := 5) (Ls := #[vR u0, uN, uN]) (rest := []) hown (tWd hw 170 rfl) Via.refl rfl rfl (hb hby d24_5)
  replace H2 : OHere p l e _ s m _ below meth c Z n0 0 T2 0 0 ([(eO u0 "java/util/ArrayList$Itr" [("java/util/ArrayList$Itr", "this$0", "Ljava/util/ArrayList;", (.ref a)), ("java/util/ArrayList$Itr", "lastRet", "I", (.int lr)), ("java/util/ArrayList$Itr", "expectedModCount", "I", (.int mc)), ("java/util/ArrayList$Itr", "cursor", "I", (.int (i).toInt32))]), (eO a "java/util/ArrayList" [("java/util/AbstractList", "modCount", "I", (.int mc)), ("java/util/ArrayList", "elementData", "[Ljava/lang/Object;", (.ref d)), ("java/util/ArrayList", "size", "I", (.int (n).toInt32))])] ++ F) := H2
  refine OEnds.pre (fun t_ k_ => st2 _ k_) ?_
  show OEnds p e below s _ _ _ (T2.setTop (mkF m 8 #[vR u0, uN, uN] [(.int (i).toInt32)]))
  refine OEnds.pre (fun t_ k_ => XS.istoreN H2.here hx rfl (hb hby d24_8) rfl (l' := #[vR u0, vI (i).toInt32, uN]) rfl k_) ?_
  show OEnds p e below s _ _ _ (T2.setTop (mkF m 9 #[vR u0, vI (i).toInt32, uN] []))
  refine OEnds.pre (fun t_ k_ => XS.iloadN H2.here hx rfl (hb hby d24_9) rfl k_) ?_
  show OEnds p e below s _ _ _ (T2.setTop (mkF m 10 #[vR u0, vI (i).toInt32, uN] [(.int (i).toInt32)]))
  refine OEnds.pre (fun t_ k_ => XS.aloadN H2.here hx rfl (hb hby d24_10) rfl rfl k_) ?_
  show OEnds p e below s _ _ _ (T2.setTop (mkF m 11 #[vR u0, vI (i).toInt32, uN] [(.ref u0), (.int (i).toInt32)]))
  obtain ⟨T3, H3, st3⟩ := OHere.getfield H2 hx hZ (O := "java/util/ArrayList$Itr") (q := 0) (f := 0) (v := (.ref a)) (fs := [("java/util/ArrayList$Itr", "this$0", "Ljava/util/ArrayList;", (.ref a)), ("java/util/ArrayList$Itr", "lastRet", "I", (.int lr)), ("java/util/ArrayList$Itr", "expectedModCount", "I", (.int mc)), ("java/util/ArrayList$Itr", "cursor", "I", (.int (i).toInt32))]) (C := "java/util/ArrayList$Itr") (pc := 11) (Ls := #[vR u0, vI (i).toInt32, uN]) (rest := [(.int (i).toInt32)]) hown (tWd hw 153 rfl) Via.refl rfl rfl (hb hby d24_11)
  replace H3 : OHere p l e _ s m _ below meth c Z n0 0 T3 0 0 ([(eO u0 "java/util/ArrayList$Itr" [("java/util/ArrayList$Itr", "this$0", "Ljava/util/ArrayList;", (.ref a)), ("java/util/ArrayList$Itr", "lastRet", "I", (.int lr)), ("java/util/ArrayList$Itr", "expectedModCount", "I", (.int mc)), ("java/util/ArrayList$Itr", "cursor", "I", (.int (i).toInt32))]), (eO a "java/util/ArrayList" [("java/util/AbstractList", "modCount", "I", (.int mc)), ("java/util/ArrayList", "elementData", "[Ljava/lang/Object;", (.ref d)), ("java/util/ArrayList", "size", "I", (.int (n).toInt32))])] ++ F) := H3
  refine OEnds.pre (fun t_ k_ => st3 _ k_) ?_
  show OEnds p e below s _ _ _ (T3.setTop (mkF m 14 #[vR u0, vI (i).toInt32, uN] [(.ref a), (.int (i).toInt32)]))
  obtain ⟨T4, H4, st4⟩ := OHere.getfieldN H3 hx hZ (O := "java/util/ArrayList") (q := 1) (f := 2) (v := (.int (n).toInt32)) (fs := [("java/util/AbstractList", "modCount", "I", (.int mc)), ("java/util/ArrayList", "elementData", "[Ljava/lang/Object;", (.ref d)), ("java/util/ArrayList", "size", "I", (.int (n).toInt32))]) (C := "java/util/ArrayList") (pc := 14) (Ls := #[vR u0, vI (i).toInt32, uN]) (rest := [(.int (i).toInt32)]) hown (tWd hw 172 rfl) Via.refl rfl rfl (hb hby d24_14)
  replace H4 : OHere p l e _ s m _ below meth c Z n0 0 T4 0 0 ([(eO u0 "java/util/ArrayList$Itr" [("java/util/ArrayList$Itr", "this$0", "Ljava/util/ArrayList;", (.ref a)), ("java/util/ArrayList$Itr", "lastRet", "I", (.int lr)), ("java/util/ArrayList$Itr", "expectedModCount", "I", (.int mc)), ("java/util/ArrayList$Itr", "cursor", "I", (.int (i).toInt32))]), (eO a "java/util/ArrayList" [("java/util/AbstractList", "modCount", "I", (.int mc)), ("java/util/ArrayList", "elementData", "[Ljava/lang/Object;", (.ref d)), ("java/util/ArrayList", "size", "I", (.int (n).toInt32))])] ++ F) := H4
  refine OEnds.pre (fun t_ k_ => st4 _ k_) ?_
  show OEnds p e below s _ _ _ (T4.setTop (mkF m 17 #[vR u0, vI (i).toInt32, uN] [(.int (n).toInt32), (.int (i).toInt32)]))
  refine OEnds.pre (fun t_ k_ => XS.icmpYes H4.here hx rfl (pc0 := 17) (pc' := 28) rfl (hb hby d24_17) rfl (XT.ii_lt_t ((k_lt i (by omega) n (by omega)).mpr hin.1)) (by decide) (by decide) k_) ?_
  show OEnds p e below s _ _ _ (T4.setTop (mkF m 28 #[vR u0, vI (i).toInt32, uN] []))
  refine OEnds.pre (fun t_ k_ => XS.aloadN H4.here hx rfl (hb hby d24_28) rfl rfl k_) ?_
  show OEnds p e below s _ _ _ (T4.setTop (mkF m 29 #[vR u0, vI (i).toInt32, uN] [(.ref u0)]))
  obtain ⟨T5, H5, st5⟩ := OHere.getfield H4 hx hZ (O := "java/util/ArrayList$Itr") (q := 0) (f := 0) (v := (.ref a)) (fs := [("java/util/ArrayList$Itr", "this$0", "Ljava/util/ArrayList;", (.ref a)), ("java/util/ArrayList$Itr", "lastRet", "I", (.int lr)), ("java/util/ArrayList$Itr", "expectedModCount", "I", (.int mc)), ("java/util/ArrayList$Itr", "cursor", "I", (.int (i).toInt32))]) (C := "java/util/ArrayList$Itr") (pc := 29) (Ls := #[vR u0, vI (i).toInt32, uN]) (rest := []) hown (tWd hw 153 rfl) Via.refl rfl rfl (hb hby d24_29)
  replace H5 : OHere p l e _ s m _ below meth c Z n0 0 T5 0 0 ([(eO u0 "java/util/ArrayList$Itr" [("java/util/ArrayList$Itr", "this$0", "Ljava/util/ArrayList;", (.ref a)), ("java/util/ArrayList$Itr", "lastRet", "I", (.int lr)), ("java/util/ArrayList$Itr", "expectedModCount", "I", (.int mc)), ("java/util/ArrayList$Itr", "cursor", "I", (.int (i).toInt32))]), (eO a "java/util/ArrayList" [("java/util/AbstractList", "modCount", "I", (.int mc)), ("java/util/ArrayList", "elementData", "[Ljava/lang/Object;", (.ref d)), ("java/util/ArrayList", "size", "I", (.int (n).toInt32))])] ++ F) := H5
  refine OEnds.pre (fun t_ k_ => st5 _ k_) ?_
  show OEnds p e below s _ _ _ (T5.setTop (mkF m 32 #[vR u0, vI (i).toInt32, uN] [(.ref a)]))
  obtain ⟨T6, H6, st6⟩ := OHere.getfield H5 hx hZ (O := "java/util/ArrayList") (q := 1) (f := 1) (v := (.ref d)) (fs := [("java/util/AbstractList", "modCount", "I", (.int mc)), ("java/util/ArrayList", "elementData", "[Ljava/lang/Object;", (.ref d)), ("java/util/ArrayList", "size", "I", (.int (n).toInt32))]) (C := "java/util/ArrayList") (pc := 32) (Ls := #[vR u0, vI (i).toInt32, uN]) (rest := []) hown (tWd hw 207 rfl) Via.refl rfl rfl (hb hby d24_32)
  replace H6 : OHere p l e _ s m _ below meth c Z n0 0 T6 0 0 ([(eO u0 "java/util/ArrayList$Itr" [("java/util/ArrayList$Itr", "this$0", "Ljava/util/ArrayList;", (.ref a)), ("java/util/ArrayList$Itr", "lastRet", "I", (.int lr)), ("java/util/ArrayList$Itr", "expectedModCount", "I", (.int mc)), ("java/util/ArrayList$Itr", "cursor", "I", (.int (i).toInt32))]), (eO a "java/util/ArrayList" [("java/util/AbstractList", "modCount", "I", (.int mc)), ("java/util/ArrayList", "elementData", "[Ljava/lang/Object;", (.ref d)), ("java/util/ArrayList", "size", "I", (.int (n).toInt32))])] ++ F) := H6
  refine OEnds.pre (fun t_ k_ => st6 _ k_) ?_
  show OEnds p e below s _ _ _ (T6.setTop (mkF m 35 #[vR u0, vI (i).toInt32, uN] [(.ref d)]))
  refine OEnds.pre (fun t_ k_ => XS.astoreN H6.here hx rfl (hb hby d24_35) rfl rfl (l' := #[vR u0, vI (i).toInt32, vR d]) rfl k_) ?_
  show OEnds p e below s _ _ _ (T6.setTop (mkF m 36 #[vR u0, vI (i).toInt32, vR d] []))
  refine OEnds.pre (fun t_ k_ => XS.iloadN H6.here hx rfl (hb hby d24_36) rfl k_) ?_
  show OEnds p e below s _ _ _ (T6.setTop (mkF m 37 #[vR u0, vI (i).toInt32, vR d] [(.int (i).toInt32)]))
  refine OEnds.pre (fun t_ k_ => XS.aloadN H6.here hx rfl (hb hby d24_37) rfl rfl k_) ?_
  show OEnds p e below s _ _ _ (T6.setTop (mkF m 38 #[vR u0, vI (i).toInt32, vR d] [(.ref d), (.int (i).toInt32)]))
  refine OEnds.pre (fun t_ k_ => OHere.len H6 hx hZ (q := _) (vs := vs) (z := (10 : Int32)) (memAt hA).choose_spec (by rw [hv]; rfl) (hb hby d24_38) k_) ?_
  show OEnds p e below s _ _ _ (T6.setTop (mkF m 39 #[vR u0, vI (i).toInt32, vR d] [(.int (10 : Int32)), (.int (i).toInt32)]))
  refine OEnds.pre (fun t_ k_ => XS.icmpYes H6.here hx rfl (pc0 := 39) (pc' := 50) rfl (hb hby d24_39) rfl (XT.ii_lt_t (k_lt10 i (by omega))) (by decide) (by decide) k_) ?_
  show OEnds p e below s _ _ _ (T6.setTop (mkF m 50 #[vR u0, vI (i).toInt32, vR d] []))
  refine OEnds.pre (fun t_ k_ => XS.aloadN H6.here hx rfl (hb hby d24_50) rfl rfl k_) ?_
  show OEnds p e below s _ _ _ (T6.setTop (mkF m 51 #[vR u0, vI (i).toInt32, vR d] [(.ref u0)]))
  refine OEnds.pre (fun t_ k_ => XS.iloadN H6.here hx rfl (hb hby d24_51) rfl k_) ?_
  show OEnds p e below s _ _ _ (T6.setTop (mkF m 52 #[vR u0, vI (i).toInt32, vR d] [(.int (i).toInt32), (.ref u0)]))
  refine OEnds.pre (fun t_ k_ => XT.iconstV H6.here hx rfl (1 : Int32) (hb hby d24_52) rfl k_) ?_
  show OEnds p e below s _ _ _ (T6.setTop (mkF m 53 #[vR u0, vI (i).toInt32, vR d] [(.int (1 : Int32)), (.int (i).toInt32), (.ref u0)]))
  refine OEnds.pre (fun t_ k_ => XS.iadd H6.here hx rfl (hb hby d24_53) rfl k_) ?_
  show OEnds p e below s _ _ _ (T6.setTop (mkF m 54 #[vR u0, vI (i).toInt32, vR d] [(.int ((i).toInt32 + (1 : Int32))), (.ref u0)]))
  obtain ⟨T7, H7, st7⟩ := OHere.putfield H6 hx hZ (O := "java/util/ArrayList$Itr") (q := 0) (f := 3) (v := (.int ((i).toInt32 + (1 : Int32)))) (C := "java/util/ArrayList$Itr") (ty := .int) (pc := 54) (Ls := #[vR u0, vI (i).toInt32, vR d]) (rest := []) hown (tWd hw 170 rfl) Via.refl (fs := [("java/util/ArrayList$Itr", "this$0", "Ljava/util/ArrayList;", (.ref a)), ("java/util/ArrayList$Itr", "lastRet", "I", (.int lr)), ("java/util/ArrayList$Itr", "expectedModCount", "I", (.int mc)), ("java/util/ArrayList$Itr", "cursor", "I", (.int (i).toInt32))]) rfl rfl (Or.inl (tWd hw 171 rfl)) (tWd hw 147 rfl) (by decide) rfl rfl (hb hby d24_54)
  replace H7 : OHere p l e _ s m _ below meth c Z n0 0 T7 0 0 ([(eO u0 "java/util/ArrayList$Itr" [("java/util/ArrayList$Itr", "this$0", "Ljava/util/ArrayList;", (.ref a)), ("java/util/ArrayList$Itr", "lastRet", "I", (.int lr)), ("java/util/ArrayList$Itr", "expectedModCount", "I", (.int mc)), ("java/util/ArrayList$Itr", "cursor", "I", (.int ((i).toInt32 + (1 : Int32))))]), (eO a "java/util/ArrayList" [("java/util/AbstractList", "modCount", "I", (.int mc)), ("java/util/ArrayList", "elementData", "[Ljava/lang/Object;", (.ref d)), ("java/util/ArrayList", "size", "I", (.int (n).toInt32))])] ++ F) := H7
  refine OEnds.pre (fun t_ k_ => st7 _ k_) ?_
  show OEnds p e below s _ _ _ (T7.setTop (mkF m 57 #[vR u0, vI (i).toInt32, vR d] []))
  refine OEnds.pre (fun t_ k_ => XS.aloadN H7.here hx rfl (hb hby d24_57) rfl rfl k_) ?_
  show OEnds p e below s _ _ _ (T7.setTop (mkF m 58 #[vR u0, vI (i).toInt32, vR d] [(.ref d)]))
  refine OEnds.pre (fun t_ k_ => XS.aloadN H7.here hx rfl (hb hby d24_58) rfl rfl k_) ?_
  show OEnds p e below s _ _ _ (T7.setTop (mkF m 59 #[vR u0, vI (i).toInt32, vR d] [(.ref u0), (.ref d)]))
  refine OEnds.pre (fun t_ k_ => XS.iloadN H7.here hx rfl (hb hby d24_59) rfl k_) ?_
  show OEnds p e below s _ _ _ (T7.setTop (mkF m 60 #[vR u0, vI (i).toInt32, vR d] [(.int (i).toInt32), (.ref u0), (.ref d)]))
  refine OEnds.pre (fun t_ k_ => XT.dupX1 H7.here hx rfl (hb hby d24_60) rfl rfl rfl k_) ?_
  show OEnds p e below s _ _ _ (T7.setTop (mkF m 61 #[vR u0, vI (i).toInt32, vR d] [(.int (i).toInt32), (.ref u0), (.int (i).toInt32), (.ref d)]))
  obtain ⟨T8, H8, st8⟩ := OHere.putfield H7 hx hZ (O := "java/util/ArrayList$Itr") (q := 0) (f := 1) (v := (.int (i).toInt32)) (C := "java/util/ArrayList$Itr") (ty := .int) (pc := 61) (Ls := #[vR u0, vI (i).toInt32, vR d]) (rest := [(.int (i).toInt32), (.ref d)]) hown (tWd hw 156 rfl) Via.refl (fs := [("java/util/ArrayList$Itr", "this$0", "Ljava/util/ArrayList;", (.ref a)), ("java/util/ArrayList$Itr", "lastRet", "I", (.int lr)), ("java/util/ArrayList$Itr", "expectedModCount", "I", (.int mc)), ("java/util/ArrayList$Itr", "cursor", "I", (.int ((i).toInt32 + (1 : Int32))))]) rfl rfl (Or.inl (tWd hw 157 rfl)) (tWd hw 147 rfl) (by decide) rfl rfl (hb hby d24_61)
  replace H8 : OHere p l e _ s m _ below meth c Z n0 0 T8 0 0 ([(eO u0 "java/util/ArrayList$Itr" [("java/util/ArrayList$Itr", "this$0", "Ljava/util/ArrayList;", (.ref a)), ("java/util/ArrayList$Itr", "lastRet", "I", (.int (i).toInt32)), ("java/util/ArrayList$Itr", "expectedModCount", "I", (.int mc)), ("java/util/ArrayList$Itr", "cursor", "I", (.int ((i).toInt32 + (1 : Int32))))]), (eO a "java/util/ArrayList" [("java/util/AbstractList", "modCount", "I", (.int mc)), ("java/util/ArrayList", "elementData", "[Ljava/lang/Object;", (.ref d)), ("java/util/ArrayList", "size", "I", (.int (n).toInt32))])] ++ F) := H8
  refine OEnds.pre (fun t_ k_ => st8 _ k_) ?_
  show OEnds p e below s _ _ _ (T8.setTop (mkF m 64 #[vR u0, vI (i).toInt32, vR d] [(.int (i).toInt32), (.ref d)]))
  refine OEnds.pre (fun t_ k_ => OHere.aaload H8 hx hZ (q := _) (i := i) (vs := vs) (v := (.ref x)) (C := "java/lang/Object") (memAt hA).choose_spec (k_nneg i (by omega)) (k_at i (by omega)) hvi (hb hby d24_64) k_) ?_
  show OEnds p e below s _ _ _ (T8.setTop (mkF m 65 #[vR u0, vI (i).toInt32, vR d] [(.ref x)]))
  exact H8.areturn hx Bd.notSynchronized Bd.returns rfl rfl (hb hby d24_65) (by decide) (by decide) (fun h L W N => ⟨N, _, ⟨rfl, by rw [k_succ i (by omega)]⟩, W⟩)
theorem eq_0 : decode object_method_4_code 0 = .ok (.aload_n 0, 1) := by decide +kernel
theorem eq_1 : decode object_method_4_code 1 = .ok (.aload_n 1, 1) := by decide +kernel
theorem eq_2 : decode object_method_4_code 2 = .ok (.if_acmp .ne 7, 3) := by decide +kernel
theorem eq_5 : decode object_method_4_code 5 = .ok (.iconst 1, 1) := by decide +kernel
theorem eq_6 : decode object_method_4_code 6 = .ok (.goto 4, 3) := by decide +kernel
theorem eq_9 : decode object_method_4_code 9 = .ok (.iconst 0, 1) := by decide +kernel
theorem eq_10 : decode object_method_4_code 10 = .ok (.ireturn, 1) := by decide +kernel
theorem eq_pn : plainFor objEq = true := by decide +kernel
theorem notake {us : List Addr} {i : Nat} {x y : Addr} (h : x ∉ us.take i) (hy : us[i]? = some y) (q : ¬ x = y) : x ∉ us.take (i + 1) := by
  rw [List.take_add_one, hy]
  simp only [Option.toList_some, List.mem_append, List.mem_singleton]
  exact fun r => r.elim h q
theorem d28_0 : decode jdk_38_method_12_code 0 = .ok (.aload_n 0, 1) := by decide +kernel
theorem d28_1 : decode jdk_38_method_12_code 1 = .ok (.getfield 9, 3) := by decide +kernel
theorem d28_4 : decode jdk_38_method_12_code 4 = .ok (.astore 4, 2) := by decide +kernel
theorem d28_6 : decode jdk_38_method_12_code 6 = .ok (.aload_n 1, 1) := by decide +kernel
theorem d28_7 : decode jdk_38_method_12_code 7 = .ok (.ifnonnull 32, 3) := by decide +kernel
theorem d28_10 : decode jdk_38_method_12_code 10 = .ok (.iload_n 2, 1) := by decide +kernel
theorem d28_11 : decode jdk_38_method_12_code 11 = .ok (.istore 5, 2) := by decide +kernel
theorem d28_13 : decode jdk_38_method_12_code 13 = .ok (.iload 5, 2) := by decide +kernel
theorem d28_15 : decode jdk_38_method_12_code 15 = .ok (.iload_n 3, 1) := by decide +kernel
theorem d28_16 : decode jdk_38_method_12_code 16 = .ok (.if_icmp .ge 20, 3) := by decide +kernel
theorem d28_19 : decode jdk_38_method_12_code 19 = .ok (.aload 4, 2) := by decide +kernel
theorem d28_21 : decode jdk_38_method_12_code 21 = .ok (.iload 5, 2) := by decide +kernel
theorem d28_23 : decode jdk_38_method_12_code 23 = .ok (.aaload, 1) := by decide +kernel
theorem d28_24 : decode jdk_38_method_12_code 24 = .ok (.ifnonnull 6, 3) := by decide +kernel
theorem d28_27 : decode jdk_38_method_12_code 27 = .ok (.iload 5, 2) := by decide +kernel
theorem d28_29 : decode jdk_38_method_12_code 29 = .ok (.ireturn, 1) := by decide +kernel
theorem d28_30 : decode jdk_38_method_12_code 30 = .ok (.iinc 5 1, 3) := by decide +kernel
theorem d28_33 : decode jdk_38_method_12_code 33 = .ok (.goto (-20), 3) := by decide +kernel
theorem d28_36 : decode jdk_38_method_12_code 36 = .ok (.goto 33, 3) := by decide +kernel
theorem d28_39 : decode jdk_38_method_12_code 39 = .ok (.iload_n 2, 1) := by decide +kernel
theorem d28_40 : decode jdk_38_method_12_code 40 = .ok (.istore 5, 2) := by decide +kernel
theorem d28_42 : decode jdk_38_method_12_code 42 = .ok (.iload 5, 2) := by decide +kernel
theorem d28_44 : decode jdk_38_method_12_code 44 = .ok (.iload_n 3, 1) := by decide +kernel
theorem d28_45 : decode jdk_38_method_12_code 45 = .ok (.if_icmp .ge 24, 3) := by decide +kernel
theorem d28_48 : decode jdk_38_method_12_code 48 = .ok (.aload_n 1, 1) := by decide +kernel
theorem d28_49 : decode jdk_38_method_12_code 49 = .ok (.aload 4, 2) := by decide +kernel
theorem d28_51 : decode jdk_38_method_12_code 51 = .ok (.iload 5, 2) := by decide +kernel
theorem d28_53 : decode jdk_38_method_12_code 53 = .ok (.aaload, 1) := by decide +kernel
theorem d28_54 : decode jdk_38_method_12_code 54 = .ok (.invokevirtual 93, 3) := by decide +kernel
theorem d28_57 : decode jdk_38_method_12_code 57 = .ok (.ifCond .eq 6, 3) := by decide +kernel
theorem d28_60 : decode jdk_38_method_12_code 60 = .ok (.iload 5, 2) := by decide +kernel
theorem d28_62 : decode jdk_38_method_12_code 62 = .ok (.ireturn, 1) := by decide +kernel
theorem d28_63 : decode jdk_38_method_12_code 63 = .ok (.iinc 5 1, 3) := by decide +kernel
theorem d28_66 : decode jdk_38_method_12_code 66 = .ok (.goto (-24), 3) := by decide +kernel
theorem d28_69 : decode jdk_38_method_12_code 69 = .ok (.iconst (-1), 1) := by decide +kernel
theorem d28_70 : decode jdk_38_method_12_code 70 = .ok (.ireturn, 1) := by decide +kernel
theorem pn_28 : plainFor (⟨"java/util/ArrayList", "indexOfRange", "(Ljava/lang/Object;II)I"⟩ : MethodName) = true := by first | exact plainFor_of_name (by first | (simp [plainName, overriddenIn]; done) | decide +kernel) | decide +kernel
theorem ef_28 (m : MethodId) (x0 : Addr) (x1 : Addr) (x2 : Int32) (x3 : Int32) : entryFrame m #[(.ref x0), (.ref x1), (.int x2), (.int x3)] 6 = mkF m 0 #[.val (.ref x0), .val (.ref x1), .val (.int x2), .val (.int x3), .unset, .unset] [] := by first | (simp [entryFrame, mkF, argsToLocals, Value.category]; done) | rfl
set_option maxRecDepth 65536 in
set_option maxHeartbeats 40000000 in
theorem conIR (l : Launch) (Z : State) (a0 : Array Value) (hw : ∀ d ∈ tables_1, d.before a0 Z = true) (n0 : Nat) (ws : List Jvm.Cond) (u0 : Addr) (F : List OEnt) (x : Addr) (fx : List OFEnt) (hxF : eO x "com/example/deadletter/deadletter/job/Job" fx ∈ F) (d : Addr) (mc : Int32) (us : List Addr) (hn : us.length < 10) (hU : ∀ (i : Nat) (y : Addr), us[i]? = some y → ∃ vs : List Value, eA d (.object "java/lang/Object") vs ∈ F ∧ vs[i]? = some (.ref y)) :
    OCon l Z n0 (⟨"java/util/ArrayList", "indexOfRange", "(Ljava/lang/Object;II)I"⟩ : MethodName) jdk_38_method_12_code 6 (some .int) ws ({ frames := 1, cells := 0, slots := 0, locals := 13 } : Room) #[(.ref u0), (.ref x), (.int (0 : Int32)), (.int (us.length).toInt32)] ([(eO u0 "java/util/ArrayList" [("java/util/AbstractList", "modCount", "I", (.int mc)), ("java/util/ArrayList", "elementData", "[Ljava/lang/Object;", (.ref d)), ("java/util/ArrayList", "size", "I", (.int (us.length).toInt32))])] ++ F) (fun v' es' => ∃ r : Int32, v' = some (.int r) ∧ es' = ([(eO u0 "java/util/ArrayList" [("java/util/AbstractList", "modCount", "I", (.int mc)), ("java/util/ArrayList", "elementData", "[Ljava/lang/Object;", (.ref d)), ("java/util/ArrayList", "size", "I", (.int (us.length).toInt32))])] ++ F) ∧ (r < 0 ↔ x ∉ us)) := by
  intro h0 hW0
  refine MetFree.of_bodySF pn_28 hisR ?_
  intro p e s m args below meth c s₁ Bd hml0 hP hK
  obtain ⟨rfl, hZ, hh⟩ := hP
  have hx := Bd.exec
  have hby := Bd.bytes
  have hml : c.maxLocals = 6 := hml0
  have hown : s.vm.findClass "java/util/ArrayList" = some m.cls := findClass_of_methodNamed Bd.named
  have hnm := (name_of_methodNamed Bd.named Bd.method).1
  have H0 : OHere p l e ({ frames := 1, cells := 0, slots := 0, locals := 13 } : Room) s m #[(.ref u0), (.ref x), (.int (0 : Int32)), (.int (us.length).toInt32)] below meth c Z n0 0 s₁ 0 0 ([(eO u0 "java/util/ArrayList" [("java/util/AbstractList", "modCount", "I", (.int mc)), ("java/util/ArrayList", "elementData", "[Ljava/lang/Object;", (.ref d)), ("java/util/ArrayList", "size", "I", (.int (us.length).toInt32))])] ++ F) := ⟨[], Stand.of_body Bd, by rw [show s₁.heap = h0 from by rw [← hh, Bd.state]; rfl]; exact hW0, Fr.nil _, Nat.zero_le _⟩
  show OEnds p e below s _ _ (fun v' h' L => Fr n0 L ∧ ∃ es', (fun v' es' => ∃ r : Int32, v' = some (.int r) ∧ es' = ([(eO u0 "java/util/ArrayList" [("java/util/AbstractList", "modCount", "I", (.int mc)), ("java/util/ArrayList", "elementData", "[Ljava/lang/Object;", (.ref d)), ("java/util/ArrayList", "size", "I", (.int (us.length).toInt32))])] ++ F) ∧ (r < 0 ↔ x ∉ us)) v' es' ∧ OWorld Z n0 h' es') _
  refine OEnds.pre (fun t k => castTop (ef_28 m u0 x (0 : Int32) (us.length).toInt32) k) ?_
  show OEnds p e below s _ _ _ (s₁.setTop (mkF m 0 #[vR u0, vR x, vI (0 : Int32), vI (us.length).toInt32, uN, uN] []))
  refine OEnds.pre (fun t_ k_ => XS.aloadN H0.here hx rfl (hb hby d28_0) rfl rfl k_) ?_
  show OEnds p e below s _ _ _ (s₁.setTop (mkF m 1 #[vR u0, vR x, vI (0 : Int32), vI (us.length).toInt32, uN, uN] [(.ref u0)]))
  obtain ⟨T1, H1, st1⟩ := OHere.getfield H0 hx hZ (O := "java/util/ArrayList") (q := 0) (f := 1) (v := (.ref d)) (fs := [("java/util/AbstractList", "modCount", "I", (.int mc)), ("java/util/ArrayList", "elementData", "[Ljava/lang/Object;", (.ref d)), ("java/util/ArrayList", "size", "I", (.int (us.length).toInt32))]) (C := "java/util/ArrayList") (pc := 1) (Ls := #[vR u0, vR x, vI (0 : Int32), vI (us.length).toInt32, uN, uN]) (rest := []) hown (tWd hw 54 rfl) Via.refl rfl rfl (hb hby d28_1)
  replace H1 : OHere p l e _ s m _ below meth c Z n0 0 T1 0 0 ([(eO u0 "java/util/ArrayList" [("java/util/AbstractList", "modCount", "I", (.int mc)), ("java/util/ArrayList", "elementData", "[Ljava/lang/Object;", (.ref d)), ("java/util/ArrayList", "size", "I", (.int (us.length).toInt32))])] ++ F) := H1
  refine OEnds.pre (fun t_ k_ => st1 _ k_) ?_
  show OEnds p e below s _ _ _ (T1.setTop (mkF m 4 #[vR u0, vR x, vI (0 : Int32), vI (us.length).toInt32, uN, uN] [(.ref d)]))
  refine OEnds.pre (fun t_ k_ => XS.astore H1.here hx rfl (hb hby d28_4) rfl rfl (l' := #[vR u0, vR x, vI (0 : Int32), vI (us.length).toInt32, vR d, uN]) rfl k_) ?_
  show OEnds p e below s _ _ _ (T1.setTop (mkF m 6 #[vR u0, vR x, vI (0 : Int32), vI (us.length).toInt32, vR d, uN] []))
  refine OEnds.pre (fun t_ k_ => XS.aloadN H1.here hx rfl (hb hby d28_6) rfl rfl k_) ?_
  show OEnds p e below s _ _ _ (T1.setTop (mkF m 7 #[vR u0, vR x, vI (0 : Int32), vI (us.length).toInt32, vR d, uN] [(.ref x)]))
  refine OEnds.pre (fun t_ k_ => XT.ifnonnullYes H1.here hx rfl (pc0 := 7) (pc' := 39) rfl (hb hby d28_7) rfl (by decide) (by decide) k_) ?_
  show OEnds p e below s _ _ _ (T1.setTop (mkF m 39 #[vR u0, vR x, vI (0 : Int32), vI (us.length).toInt32, vR d, uN] []))
  refine OEnds.pre (fun t_ k_ => XS.iloadN H1.here hx rfl (hb hby d28_39) rfl k_) ?_
  show OEnds p e below s _ _ _ (T1.setTop (mkF m 40 #[vR u0, vR x, vI (0 : Int32), vI (us.length).toInt32, vR d, uN] [(.int (0 : Int32))]))
  refine OEnds.pre (fun t_ k_ => XS.istore H1.here hx rfl (hb hby d28_40) rfl (l' := #[vR u0, vR x, vI (0 : Int32), vI (us.length).toInt32, vR d, vI (0 : Int32)]) rfl k_) ?_
  show OEnds p e below s _ _ _ (T1.setTop (mkF m 42 #[vR u0, vR x, vI (0 : Int32), vI (us.length).toInt32, vR d, vI (0 : Int32)] []))
  have loop : ∀ (j i : Nat) (T : State), i + j = us.length → x ∉ us.take i → OHere p l e ({ frames := 1, cells := 0, slots := 0, locals := 13 } : Room) s m #[(.ref u0), (.ref x), (.int (0 : Int32)), (.int (us.length).toInt32)] below meth c Z n0 0 T 0 0 ([(eO u0 "java/util/ArrayList" [("java/util/AbstractList", "modCount", "I", (.int mc)), ("java/util/ArrayList", "elementData", "[Ljava/lang/Object;", (.ref d)), ("java/util/ArrayList", "size", "I", (.int (us.length).toInt32))])] ++ F) → OEnds p e below s ({ frames := 1, cells := 0, slots := 0, locals := 13 } : Room).cells ({ frames := 1, cells := 0, slots := 0, locals := 13 } : Room).slots (fun v' h' L => Fr n0 L ∧ ∃ es', (fun v' es' => ∃ r : Int32, v' = some (.int r) ∧ es' = ([(eO u0 "java/util/ArrayList" [("java/util/AbstractList", "modCount", "I", (.int mc)), ("java/util/ArrayList", "elementData", "[Ljava/lang/Object;", (.ref d)), ("java/util/ArrayList", "size", "I", (.int (us.length).toInt32))])] ++ F) ∧ (r < 0 ↔ x ∉ us)) v' es' ∧ OWorld Z n0 h' es') (T.setTop (mkF m 42 #[vR u0, vR x, vI (0 : Int32), vI (us.length).toInt32, vR d, vI (i).toInt32] [])) := by
    intro j
    induction j with
    | zero =>
      intro i T hj hnt H
      have hi : i = us.length := by omega
      rw [hi, List.take_length] at hnt
      refine OEnds.pre (fun t_ k_ => XS.iload H.here hx rfl (hb hby d28_42) rfl k_) ?_
      show OEnds p e below s _ _ _ (T.setTop (mkF m 44 #[vR u0, vR x, vI (0 : Int32), vI (us.length).toInt32, vR d, vI (i).toInt32] [(.int (i).toInt32)]))
      refine OEnds.pre (fun t_ k_ => XS.iloadN H.here hx rfl (hb hby d28_44) rfl k_) ?_
      show OEnds p e below s _ _ _ (T.setTop (mkF m 45 #[vR u0, vR x, vI (0 : Int32), vI (us.length).toInt32, vR d, vI (i).toInt32] [(.int (us.length).toInt32), (.int (i).toInt32)]))
      refine OEnds.pre (fun t_ k_ => XS.icmpYes H.here hx rfl (pc0 := 45) (pc' := 69) rfl (hb hby d28_45) rfl (XT.ii_ge_t (fun q => absurd ((k_lt i (by omega) us.length (by omega)).mp q) (by omega))) (by decide) (by decide) k_) ?_
      show OEnds p e below s _ _ _ (T.setTop (mkF m 69 #[vR u0, vR x, vI (0 : Int32), vI (us.length).toInt32, vR d, vI (i).toInt32] []))
      refine OEnds.pre (fun t_ k_ => XT.iconstV H.here hx rfl (-1 : Int32) (hb hby d28_69) rfl k_) ?_
      show OEnds p e below s _ _ _ (T.setTop (mkF m 70 #[vR u0, vR x, vI (0 : Int32), vI (us.length).toInt32, vR d, vI (i).toInt32] [(.int (-1 : Int32))]))
      exact H.int hx Bd.notSynchronized Bd.returns (hb hby d28_70) (by decide) (by decide) (fun h L W N => ⟨N, _, ⟨_, rfl, rfl, fun _ => hnt, fun _ => by decide⟩, W⟩)
    | succ j ih =>
      intro i T hj hnt H
      have hi : i < us.length := by omega
      obtain ⟨y, hy⟩ : ∃ y, us[i]? = some y := ⟨_, List.getElem?_eq_getElem hi⟩
      obtain ⟨vs, hA, hvi⟩ := hU i y hy
      refine OEnds.pre (fun t_ k_ => XS.iload H.here hx rfl (hb hby d28_42) rfl k_) ?_
      show OEnds p e below s _ _ _ (T.setTop (mkF m 44 #[vR u0, vR x, vI (0 : Int32), vI (us.length).toInt32, vR d, vI (i).toInt32] [(.int (i).toInt32)]))
      refine OEnds.pre (fun t_ k_ => XS.iloadN H.here hx rfl (hb hby d28_44) rfl k_) ?_
      show OEnds p e below s _ _ _ (T.setTop (mkF m 45 #[vR u0, vR x, vI (0 : Int32), vI (us.length).toInt32, vR d, vI (i).toInt32] [(.int (us.length).toInt32), (.int (i).toInt32)]))
      refine OEnds.pre (fun t_ k_ => XS.icmpNo H.here hx rfl (hb hby d28_45) rfl (XT.ii_ge_f ((k_lt i (by omega) us.length (by omega)).mpr hi)) k_) ?_
      show OEnds p e below s _ _ _ (T.setTop (mkF m 48 #[vR u0, vR x, vI (0 : Int32), vI (us.length).toInt32, vR d, vI (i).toInt32] []))
      refine OEnds.pre (fun t_ k_ => XS.aloadN H.here hx rfl (hb hby d28_48) rfl rfl k_) ?_
      show OEnds p e below s _ _ _ (T.setTop (mkF m 49 #[vR u0, vR x, vI (0 : Int32), vI (us.length).toInt32, vR d, vI (i).toInt32] [(.ref x)]))
      refine OEnds.pre (fun t_ k_ => XS.aload H.here hx rfl (hb hby d28_49) rfl rfl k_) ?_
      show OEnds p e below s _ _ _ (T.setTop (mkF m 51 #[vR u0, vR x, vI (0 : Int32), vI (us.length).toInt32, vR d, vI (i).toInt32] [(.ref d), (.ref x)]))
      refine OEnds.pre (fun t_ k_ => XS.iload H.here hx rfl (hb hby d28_51) rfl k_) ?_
      show OEnds p e below s _ _ _ (T.setTop (mkF m 53 #[vR u0, vR x, vI (0 : Int32), vI (us.length).toInt32, vR d, vI (i).toInt32] [(.int (i).toInt32), (.ref d), (.ref x)]))
      refine OEnds.pre (fun t_ k_ => OHere.aaload H hx hZ (q := _) (i := i) (vs := vs) (v := (.ref y)) (C := "java/lang/Object") (memAt hA).choose_spec (k_nneg i (by omega)) (k_at i (by omega)) hvi (hb hby d28_53) k_) ?_
      show OEnds p e below s _ _ _ (T.setTop (mkF m 54 #[vR u0, vR x, vI (0 : Int32), vI (us.length).toInt32, vR d, vI (i).toInt32] [(.ref y), (.ref x)]))
      obtain ⟨T2, H2, st2⟩ := OHere.equalsO H hx hZ (q := _) (a := x) (v := (.ref y)) (fs := fx) (C := "com/example/deadletter/deadletter/job/Job") (W := 0) (pc := 54) (Ls := #[vR u0, vR x, vI (0 : Int32), vI (us.length).toInt32, vR d, vI (i).toInt32]) (rest := []) hown (tWd hw 229 rfl) (tWd hw 230 rfl) (tWd hw 232 rfl) (tWd hw 231 rfl) (tWd hw 233 rfl) eq_0 eq_1 eq_2 eq_5 eq_6 eq_9 eq_10 eq_pn (memAt hxF).choose_spec rfl (by decide) (by decide) (by rw [hml]; rfl) (lenOf pd_oLjava_lang_Object_cZ rfl) (Nat.le_of_eq rfl) (hb hby d28_54)
      replace H2 : OHere p l e _ s m _ below meth c Z n0 0 T2 0 0 ([(eO u0 "java/util/ArrayList" [("java/util/AbstractList", "modCount", "I", (.int mc)), ("java/util/ArrayList", "elementData", "[Ljava/lang/Object;", (.ref d)), ("java/util/ArrayList", "size", "I", (.int (us.length).toInt32))])] ++ F) := H2
      refine OEnds.pre (fun t_ k_ => st2 _ k_) ?_
      show OEnds p e below s _ _ _ (T2.setTop (mkF m 57 #[vR u0, vR x, vI (0 : Int32), vI (us.length).toInt32, vR d, vI (i).toInt32] [(.int (if ((.ref x) : Value) = (.ref y) then (1 : Int32) else (0 : Int32)))]))
      by_cases c1 : (if ((.ref x) : Value) = (.ref y) then (1 : Int32) else (0 : Int32)) = (0 : Int32)
      · refine OEnds.pre (fun t_ k_ => XS.ifYes H2.here hx rfl (pc0 := 57) (pc' := 63) rfl (hb hby d28_57) rfl (XT.i0_eq_t c1) (by decide) (by decide) k_) ?_
        show OEnds p e below s _ _ _ (T2.setTop (mkF m 63 #[vR u0, vR x, vI (0 : Int32), vI (us.length).toInt32, vR d, vI (i).toInt32] []))
        refine OEnds.pre (fun t_ k_ => XT.iincV H2.here hx rfl (l' := #[vR u0, vR x, vI (0 : Int32), vI (us.length).toInt32, vR d, vI ((i).toInt32 + (1 : Int32))]) (1 : Int32) (hb hby d28_63) rfl rfl rfl k_) ?_
        show OEnds p e below s _ _ _ (T2.setTop (mkF m 66 #[vR u0, vR x, vI (0 : Int32), vI (us.length).toInt32, vR d, vI ((i).toInt32 + (1 : Int32))] []))
        refine OEnds.pre (fun t_ k_ => XS.goto H2.here hx rfl (pc0 := 66) (pc' := 42) rfl (hb hby d28_66) (by decide) (by decide) k_) ?_
        show OEnds p e below s _ _ _ (T2.setTop (mkF m 42 #[vR u0, vR x, vI (0 : Int32), vI (us.length).toInt32, vR d, vI ((i).toInt32 + (1 : Int32))] []))
        rw [k_succ i (by omega)]
        exact ih (i + 1) _ (by omega) (notake hnt hy (by intro q; rw [if_pos (congrArg Value.ref q)] at c1; exact absurd c1 (by decide))) H2
      · refine OEnds.pre (fun t_ k_ => XS.ifNo H2.here hx rfl (hb hby d28_57) rfl (XT.i0_eq_f c1) k_) ?_
        show OEnds p e below s _ _ _ (T2.setTop (mkF m 60 #[vR u0, vR x, vI (0 : Int32), vI (us.length).toInt32, vR d, vI (i).toInt32] []))
        refine OEnds.pre (fun t_ k_ => XS.iload H2.here hx rfl (hb hby d28_60) rfl k_) ?_
        show OEnds p e below s _ _ _ (T2.setTop (mkF m 62 #[vR u0, vR x, vI (0 : Int32), vI (us.length).toInt32, vR d, vI (i).toInt32] [(.int (i).toInt32)]))
        have heq : y = x := Classical.byContradiction fun q => c1 (if_neg fun r => q (Value.ref.inj r).symm)
        exact H2.int hx Bd.notSynchronized Bd.returns (hb hby d28_62) (by decide) (by decide) (fun h L W N => ⟨N, _, ⟨_, rfl, rfl, fun q => absurd q (k_nneg i (by omega)), fun q => absurd (List.mem_of_getElem? (by rw [hy, heq])) q⟩, W⟩)
  exact loop us.length 0 _ (by omega) (by simp) H1
theorem d27_0 : decode jdk_38_method_11_code 0 = .ok (.aload_n 0, 1) := by decide +kernel
theorem d27_1 : decode jdk_38_method_11_code 1 = .ok (.aload_n 1, 1) := by decide +kernel
theorem d27_2 : decode jdk_38_method_11_code 2 = .ok (.iconst 0, 1) := by decide +kernel
theorem d27_3 : decode jdk_38_method_11_code 3 = .ok (.aload_n 0, 1) := by decide +kernel
theorem d27_4 : decode jdk_38_method_11_code 4 = .ok (.getfield 48, 3) := by decide +kernel
theorem d27_7 : decode jdk_38_method_11_code 7 = .ok (.invokevirtual 89, 3) := by decide +kernel
theorem d27_10 : decode jdk_38_method_11_code 10 = .ok (.ireturn, 1) := by decide +kernel
theorem pn_27 : plainFor (⟨"java/util/ArrayList", "indexOf", "(Ljava/lang/Object;)I"⟩ : MethodName) = true := by first | exact plainFor_of_name (by first | (simp [plainName, overriddenIn]; done) | decide +kernel) | decide +kernel
theorem ef_27 (m : MethodId) (x0 : Addr) (x1 : Addr) : entryFrame m #[(.ref x0), (.ref x1)] 2 = mkF m 0 #[.val (.ref x0), .val (.ref x1)] [] := by first | (simp [entryFrame, mkF, argsToLocals, Value.category]; done) | rfl
set_option maxRecDepth 65536 in
set_option maxHeartbeats 40000000 in
theorem conIO (l : Launch) (Z : State) (a0 : Array Value) (hw : ∀ d ∈ tables_1, d.before a0 Z = true) (n0 : Nat) (ws : List Jvm.Cond) (u0 : Addr) (F : List OEnt) (x : Addr) (fx : List OFEnt) (hxF : eO x "com/example/deadletter/deadletter/job/Job" fx ∈ F) (d : Addr) (mc : Int32) (us : List Addr) (hn : us.length < 10) (hU : ∀ (i : Nat) (y : Addr), us[i]? = some y → ∃ vs : List Value, eA d (.object "java/lang/Object") vs ∈ F ∧ vs[i]? = some (.ref y)) :
    OCon l Z n0 (⟨"java/util/ArrayList", "indexOf", "(Ljava/lang/Object;)I"⟩ : MethodName) jdk_38_method_11_code 2 (some .int) ws ({ frames := 2, cells := 0, slots := 0, locals := 30 } : Room) #[(.ref u0), (.ref x)] ([(eO u0 "java/util/ArrayList" [("java/util/AbstractList", "modCount", "I", (.int mc)), ("java/util/ArrayList", "elementData", "[Ljava/lang/Object;", (.ref d)), ("java/util/ArrayList", "size", "I", (.int (us.length).toInt32))])] ++ F) (fun v' es' => ∃ r : Int32, v' = some (.int r) ∧ es' = ([(eO u0 "java/util/ArrayList" [("java/util/AbstractList", "modCount", "I", (.int mc)), ("java/util/ArrayList", "elementData", "[Ljava/lang/Object;", (.ref d)), ("java/util/ArrayList", "size", "I", (.int (us.length).toInt32))])] ++ F) ∧ (r < 0 ↔ x ∉ us)) := by
  intro h0 hW0
  refine MetFree.of_bodySF pn_27 hisR ?_
  intro p e s m args below meth c s₁ Bd hml0 hP hK
  obtain ⟨rfl, hZ, hh⟩ := hP
  have hx := Bd.exec
  have hby := Bd.bytes
  have hml : c.maxLocals = 2 := hml0
  have hown : s.vm.findClass "java/util/ArrayList" = some m.cls := findClass_of_methodNamed Bd.named
  have hnm := (name_of_methodNamed Bd.named Bd.method).1
  have H0 : OHere p l e ({ frames := 2, cells := 0, slots := 0, locals := 30 } : Room) s m #[(.ref u0), (.ref x)] below meth c Z n0 0 s₁ 0 0 ([(eO u0 "java/util/ArrayList" [("java/util/AbstractList", "modCount", "I", (.int mc)), ("java/util/ArrayList", "elementData", "[Ljava/lang/Object;", (.ref d)), ("java/util/ArrayList", "size", "I", (.int (us.length).toInt32))])] ++ F) := ⟨[], Stand.of_body Bd, by rw [show s₁.heap = h0 from by rw [← hh, Bd.state]; rfl]; exact hW0, Fr.nil _, Nat.zero_le _⟩
  show OEnds p e below s _ _ (fun v' h' L => Fr n0 L ∧ ∃ es', (fun v' es' => ∃ r : Int32, v' = some (.int r) ∧ es' = ([(eO u0 "java/util/ArrayList" [("java/util/AbstractList", "modCount", "I", (.int mc)), ("java/util/ArrayList", "elementData", "[Ljava/lang/Object;", (.ref d)), ("java/util/ArrayList", "size", "I", (.int (us.length).toInt32))])] ++ F) ∧ (r < 0 ↔ x ∉ us)) v' es' ∧ OWorld Z n0 h' es') _
  refine OEnds.pre (fun t k => castTop (ef_27 m u0 x) k) ?_
  show OEnds p e below s _ _ _ (s₁.setTop (mkF m 0 #[vR u0, vR x] []))
  refine OEnds.pre (fun t_ k_ => XS.aloadN H0.here hx rfl (hb hby d27_0) rfl rfl k_) ?_
  show OEnds p e below s _ _ _ (s₁.setTop (mkF m 1 #[vR u0, vR x] [(.ref u0)]))
  refine OEnds.pre (fun t_ k_ => XS.aloadN H0.here hx rfl (hb hby d27_1) rfl rfl k_) ?_
  show OEnds p e below s _ _ _ (s₁.setTop (mkF m 2 #[vR u0, vR x] [(.ref x), (.ref u0)]))
  refine OEnds.pre (fun t_ k_ => XT.iconstV H0.here hx rfl (0 : Int32) (hb hby d27_2) rfl k_) ?_
  show OEnds p e below s _ _ _ (s₁.setTop (mkF m 3 #[vR u0, vR x] [(.int (0 : Int32)), (.ref x), (.ref u0)]))
  refine OEnds.pre (fun t_ k_ => XS.aloadN H0.here hx rfl (hb hby d27_3) rfl rfl k_) ?_
  show OEnds p e below s _ _ _ (s₁.setTop (mkF m 4 #[vR u0, vR x] [(.ref u0), (.int (0 : Int32)), (.ref x), (.ref u0)]))
  obtain ⟨T1, H1, st1⟩ := OHere.getfield H0 hx hZ (O := "java/util/ArrayList") (q := 0) (f := 2) (v := (.int (us.length).toInt32)) (fs := [("java/util/AbstractList", "modCount", "I", (.int mc)), ("java/util/ArrayList", "elementData", "[Ljava/lang/Object;", (.ref d)), ("java/util/ArrayList", "size", "I", (.int (us.length).toInt32))]) (C := "java/util/ArrayList") (pc := 4) (Ls := #[vR u0, vR x]) (rest := [(.int (0 : Int32)), (.ref x), (.ref u0)]) hown (tWd hw 63 rfl) Via.refl rfl rfl (hb hby d27_4)
  replace H1 : OHere p l e _ s m _ below meth c Z n0 0 T1 0 0 ([(eO u0 "java/util/ArrayList" [("java/util/AbstractList", "modCount", "I", (.int mc)), ("java/util/ArrayList", "elementData", "[Ljava/lang/Object;", (.ref d)), ("java/util/ArrayList", "size", "I", (.int (us.length).toInt32))])] ++ F) := H1
  refine OEnds.pre (fun t_ k_ => st1 _ k_) ?_
  show OEnds p e below s _ _ _ (T1.setTop (mkF m 7 #[vR u0, vR x] [(.int (us.length).toInt32), (.int (0 : Int32)), (.ref x), (.ref u0)]))
  obtain ⟨T3, _, _, ⟨rr2, rfl, rfl, hr2⟩, H3, st3⟩ := OHere.virtual H1 hx hZ (y := (⟨"java/util/ArrayList", "indexOfRange", "(Ljava/lang/Object;II)I"⟩ : MethodName)) (z := (⟨"java/util/ArrayList", "indexOfRange", "(Ljava/lang/Object;II)I"⟩ : MethodName)) (W := 0) (a := u0) (q := 0) (fs := [("java/util/AbstractList", "modCount", "I", (.int mc)), ("java/util/ArrayList", "elementData", "[Ljava/lang/Object;", (.ref d)), ("java/util/ArrayList", "size", "I", (.int (us.length).toInt32))]) hown (tWd hw 224 rfl) (tWd hw 225 rfl) (nf_sel (tWd hw 59 rfl) rfl) (tWd hw 227 rfl) (tWd hw 226 rfl) (tWd hw 34 rfl) (tWd hw 228 rfl) (by decide) rfl (conIR l Z a0 hw n0 [] u0 ([] ++ F) x fx (List.mem_append_right _ hxF) d mc us hn (fun i y q => (hU i y q).imp fun _ h => ⟨List.mem_append_right _ h.1, h.2⟩)) (by decide) (by decide) (pc := 7) (Ls := #[vR u0, vR x]) (argsL := [(.ref x), (.int (0 : Int32)), (.int (us.length).toInt32)]) (rest := []) (by rw [hml]; rfl) (lenOf pd_oLjava_lang_Object_IIcI rfl) rfl (Nat.le_of_eq rfl) (hb hby d27_7) (by decide) (by decide)
  replace H3 : OHere p l e _ s m _ below meth c Z n0 0 T3 0 0 ([(eO u0 "java/util/ArrayList" [("java/util/AbstractList", "modCount", "I", (.int mc)), ("java/util/ArrayList", "elementData", "[Ljava/lang/Object;", (.ref d)), ("java/util/ArrayList", "size", "I", (.int (us.length).toInt32))])] ++ F) := H3
  refine OEnds.pre (fun t_ k_ => st3 _ k_) ?_
  show OEnds p e below s _ _ _ (T3.setTop (mkF m 10 #[vR u0, vR x] [(.int rr2)]))
  exact H3.int hx Bd.notSynchronized Bd.returns (hb hby d27_10) (by decide) (by decide) (fun h L W N => ⟨N, _, ⟨rr2, rfl, rfl, hr2⟩, W⟩)
theorem d26_0 : decode jdk_38_method_10_code 0 = .ok (.aload_n 0, 1) := by decide +kernel
theorem d26_1 : decode jdk_38_method_10_code 1 = .ok (.aload_n 1, 1) := by decide +kernel
theorem d26_2 : decode jdk_38_method_10_code 2 = .ok (.invokevirtual 85, 3) := by decide +kernel
theorem d26_5 : decode jdk_38_method_10_code 5 = .ok (.ifCond .lt 7, 3) := by decide +kernel
theorem d26_8 : decode jdk_38_method_10_code 8 = .ok (.iconst 1, 1) := by decide +kernel
theorem d26_9 : decode jdk_38_method_10_code 9 = .ok (.goto 4, 3) := by decide +kernel
theorem d26_12 : decode jdk_38_method_10_code 12 = .ok (.iconst 0, 1) := by decide +kernel
theorem d26_13 : decode jdk_38_method_10_code 13 = .ok (.ireturn, 1) := by decide +kernel
theorem pn_26 : plainFor (⟨"java/util/ArrayList", "contains", "(Ljava/lang/Object;)Z"⟩ : MethodName) = true := by first | exact plainFor_of_name (by first | (simp [plainName, overriddenIn]; done) | decide +kernel) | decide +kernel
theorem ef_26 (m : MethodId) (x0 : Addr) (x1 : Addr) : entryFrame m #[(.ref x0), (.ref x1)] 2 = mkF m 0 #[.val (.ref x0), .val (.ref x1)] [] := by first | (simp [entryFrame, mkF, argsToLocals, Value.category]; done) | rfl
set_option maxRecDepth 65536 in
set_option maxHeartbeats 40000000 in
theorem conCo (l : Launch) (Z : State) (a0 : Array Value) (hw : ∀ d ∈ tables_1, d.before a0 Z = true) (n0 : Nat) (ws : List Jvm.Cond) (u0 : Addr) (F : List OEnt) (x : Addr) (fx : List OFEnt) (hxF : eO x "com/example/deadletter/deadletter/job/Job" fx ∈ F) (d : Addr) (mc : Int32) (us : List Addr) (hn : us.length < 10) (hU : ∀ (i : Nat) (y : Addr), us[i]? = some y → ∃ vs : List Value, eA d (.object "java/lang/Object") vs ∈ F ∧ vs[i]? = some (.ref y)) :
    OCon l Z n0 (⟨"java/util/ArrayList", "contains", "(Ljava/lang/Object;)Z"⟩ : MethodName) jdk_38_method_10_code 2 (some .boolean) ws ({ frames := 3, cells := 0, slots := 0, locals := 43 } : Room) #[(.ref u0), (.ref x)] ([(eO u0 "java/util/ArrayList" [("java/util/AbstractList", "modCount", "I", (.int mc)), ("java/util/ArrayList", "elementData", "[Ljava/lang/Object;", (.ref d)), ("java/util/ArrayList", "size", "I", (.int (us.length).toInt32))])] ++ F) (fun v' es' => v' = some (.int (if x ∈ us then (1 : Int32) else (0 : Int32))) ∧ es' = ([(eO u0 "java/util/ArrayList" [("java/util/AbstractList", "modCount", "I", (.int mc)), ("java/util/ArrayList", "elementData", "[Ljava/lang/Object;", (.ref d)), ("java/util/ArrayList", "size", "I", (.int (us.length).toInt32))])] ++ F)) := by
  intro h0 hW0
  refine MetFree.of_bodySF pn_26 hisR ?_
  intro p e s m args below meth c s₁ Bd hml0 hP hK
  obtain ⟨rfl, hZ, hh⟩ := hP
  have hx := Bd.exec
  have hby := Bd.bytes
  have hml : c.maxLocals = 2 := hml0
  have hown : s.vm.findClass "java/util/ArrayList" = some m.cls := findClass_of_methodNamed Bd.named
  have hnm := (name_of_methodNamed Bd.named Bd.method).1
  have H0 : OHere p l e ({ frames := 3, cells := 0, slots := 0, locals := 43 } : Room) s m #[(.ref u0), (.ref x)] below meth c Z n0 0 s₁ 0 0 ([(eO u0 "java/util/ArrayList" [("java/util/AbstractList", "modCount", "I", (.int mc)), ("java/util/ArrayList", "elementData", "[Ljava/lang/Object;", (.ref d)), ("java/util/ArrayList", "size", "I", (.int (us.length).toInt32))])] ++ F) := ⟨[], Stand.of_body Bd, by rw [show s₁.heap = h0 from by rw [← hh, Bd.state]; rfl]; exact hW0, Fr.nil _, Nat.zero_le _⟩
  show OEnds p e below s _ _ (fun v' h' L => Fr n0 L ∧ ∃ es', (fun v' es' => v' = some (.int (if x ∈ us then (1 : Int32) else (0 : Int32))) ∧ es' = ([(eO u0 "java/util/ArrayList" [("java/util/AbstractList", "modCount", "I", (.int mc)), ("java/util/ArrayList", "elementData", "[Ljava/lang/Object;", (.ref d)), ("java/util/ArrayList", "size", "I", (.int (us.length).toInt32))])] ++ F)) v' es' ∧ OWorld Z n0 h' es') _
  refine OEnds.pre (fun t k => castTop (ef_26 m u0 x) k) ?_
  show OEnds p e below s _ _ _ (s₁.setTop (mkF m 0 #[vR u0, vR x] []))
  refine OEnds.pre (fun t_ k_ => XS.aloadN H0.here hx rfl (hb hby d26_0) rfl rfl k_) ?_
  show OEnds p e below s _ _ _ (s₁.setTop (mkF m 1 #[vR u0, vR x] [(.ref u0)]))
  refine OEnds.pre (fun t_ k_ => XS.aloadN H0.here hx rfl (hb hby d26_1) rfl rfl k_) ?_
  show OEnds p e below s _ _ _ (s₁.setTop (mkF m 2 #[vR u0, vR x] [(.ref x), (.ref u0)]))
  obtain ⟨T2, _, _, ⟨rr1, rfl, rfl, hr1⟩, H2, st2⟩ := OHere.virtual H0 hx hZ (y := (⟨"java/util/ArrayList", "indexOf", "(Ljava/lang/Object;)I"⟩ : MethodName)) (z := (⟨"java/util/ArrayList", "indexOf", "(Ljava/lang/Object;)I"⟩ : MethodName)) (W := 0) (a := u0) (q := 0) (fs := [("java/util/AbstractList", "modCount", "I", (.int mc)), ("java/util/ArrayList", "elementData", "[Ljava/lang/Object;", (.ref d)), ("java/util/ArrayList", "size", "I", (.int (us.length).toInt32))]) hown (tWd hw 219 rfl) (tWd hw 220 rfl) (nf_sel (tWd hw 59 rfl) rfl) (tWd hw 222 rfl) (tWd hw 221 rfl) (tWd hw 34 rfl) (tWd hw 223 rfl) (by decide) rfl (conIO l Z a0 hw n0 [] u0 ([] ++ F) x fx (List.mem_append_right _ hxF) d mc us hn (fun i y q => (hU i y q).imp fun _ h => ⟨List.mem_append_right _ h.1, h.2⟩)) (by decide) (by decide) (pc := 2) (Ls := #[vR u0, vR x]) (argsL := [(.ref x)]) (rest := []) (by rw [hml]; rfl) (lenOf pd_oLjava_lang_Object_cI rfl) rfl (Nat.le_of_eq rfl) (hb hby d26_2) (by decide) (by decide)
  replace H2 : OHere p l e _ s m _ below meth c Z n0 0 T2 0 0 ([(eO u0 "java/util/ArrayList" [("java/util/AbstractList", "modCount", "I", (.int mc)), ("java/util/ArrayList", "elementData", "[Ljava/lang/Object;", (.ref d)), ("java/util/ArrayList", "size", "I", (.int (us.length).toInt32))])] ++ F) := H2
  refine OEnds.pre (fun t_ k_ => st2 _ k_) ?_
  show OEnds p e below s _ _ _ (T2.setTop (mkF m 5 #[vR u0, vR x] [(.int rr1)]))
  by_cases c1 : rr1 < (0 : Int32)
  · refine OEnds.pre (fun t_ k_ => XS.ifYes H2.here hx rfl (pc0 := 5) (pc' := 12) rfl (hb hby d26_5) rfl (XT.i0_lt_t c1) (by decide) (by decide) k_) ?_
    show OEnds p e below s _ _ _ (T2.setTop (mkF m 12 #[vR u0, vR x] []))
    refine OEnds.pre (fun t_ k_ => XT.iconstV H2.here hx rfl (0 : Int32) (hb hby d26_12) rfl k_) ?_
    show OEnds p e below s _ _ _ (T2.setTop (mkF m 13 #[vR u0, vR x] [(.int (0 : Int32))]))
    exact H2.nrw hx Bd.notSynchronized Bd.returns (by simp) (hb hby d26_13) (by decide) (by decide) (fun h L W N => ⟨N, _, ⟨by rw [if_neg (hr1.mp c1)]; rfl, rfl⟩, W⟩)
  · refine OEnds.pre (fun t_ k_ => XS.ifNo H2.here hx rfl (hb hby d26_5) rfl (XT.i0_lt_f c1) k_) ?_
    show OEnds p e below s _ _ _ (T2.setTop (mkF m 8 #[vR u0, vR x] []))
    refine OEnds.pre (fun t_ k_ => XT.iconstV H2.here hx rfl (1 : Int32) (hb hby d26_8) rfl k_) ?_
    show OEnds p e below s _ _ _ (T2.setTop (mkF m 9 #[vR u0, vR x] [(.int (1 : Int32))]))
    refine OEnds.pre (fun t_ k_ => XS.goto H2.here hx rfl (pc0 := 9) (pc' := 13) rfl (hb hby d26_9) (by decide) (by decide) k_) ?_
    show OEnds p e below s _ _ _ (T2.setTop (mkF m 13 #[vR u0, vR x] [(.int (1 : Int32))]))
    exact H2.nrw hx Bd.notSynchronized Bd.returns (by simp) (hb hby d26_13) (by decide) (by decide) (fun h L W N => ⟨N, _, ⟨by rw [if_pos (Decidable.byContradiction fun q => c1 (hr1.mpr q))]; rfl, rfl⟩, W⟩)
theorem pd_ocLjava_util_Iterator_ : parseMethodDescriptor "()Ljava/util/Iterator;" = some ⟨[], some (.object "java/util/Iterator")⟩ := by decide +kernel
theorem pd_ocZ : parseMethodDescriptor "()Z" = some ⟨[], some .boolean⟩ := by decide +kernel
def dq (R : List Addr) : List Value := R.map Value.ref ++ List.replicate (17 - R.length) Value.null
theorem dq_len {R : List Addr} (h : R.length < 17) : (dq R).length = 17 := by simp [dq]; omega
theorem dq_set {R : List Addr} (x : Addr) (h : R.length < 17) : (dq R).set R.length (.ref x) = dq (R ++ [x]) := by
  obtain ⟨k, hk⟩ : ∃ k, 17 - R.length = k + 1 := ⟨16 - R.length, by omega⟩
  have hk' : 17 - (R ++ [x]).length = k := by simp; omega
  unfold dq
  rw [hk, hk', List.set_append_right _ _ (by simp)]
  simp [List.replicate_succ]
def wj (tv : Value) (us : List Addr) : List Addr → List Addr × List Addr × Value → List Addr × List Addr × Value
  | [], q => q
  | x :: xs, q => wj tv us xs (if (.ref x : Value) = tv then (q.1, q.2.1, .ref x) else if x ∈ us then (q.1, q.2.1 ++ [x], q.2.2) else (q.1 ++ [x], q.2.1, q.2.2))
theorem wj_cons (tv : Value) (us : List Addr) (x : Addr) (xs : List Addr) (q : List Addr × List Addr × Value) : wj tv us (x :: xs) q = wj tv us xs (if (.ref x : Value) = tv then (q.1, q.2.1, .ref x) else if x ∈ us then (q.1, q.2.1 ++ [x], q.2.2) else (q.1 ++ [x], q.2.1, q.2.2)) := rfl
theorem st5 {a b c f x : Addr} {tv : Value} {w0 : Slot} (h : w0 = .unset ∨ ∃ z : Addr, w0 = .val (.ref z)) : storeLocals #[.val (.ref a), .val (.ref b), .val (.ref c), .val tv, .val (.ref f), w0] 5 (.ref x) = some #[.val (.ref a), .val (.ref b), .val (.ref c), .val tv, .val (.ref f), .val (.ref x)] := by
  rcases h with rfl | ⟨z, rfl⟩ <;> rfl
theorem d16_0 : decode prog_45_method_2_code 0 = .ok (.aload_n 1, 1) := by decide +kernel
theorem d16_1 : decode prog_45_method_2_code 1 = .ok (.invokeinterface 19 1, 5) := by decide +kernel
theorem d16_6 : decode prog_45_method_2_code 6 = .ok (.astore 4, 2) := by decide +kernel
theorem d16_8 : decode prog_45_method_2_code 8 = .ok (.aload 4, 2) := by decide +kernel
theorem d16_10 : decode prog_45_method_2_code 10 = .ok (.invokeinterface 25 1, 5) := by decide +kernel
theorem d16_15 : decode prog_45_method_2_code 15 = .ok (.ifCond .eq 71, 3) := by decide +kernel
theorem d16_18 : decode prog_45_method_2_code 18 = .ok (.aload 4, 2) := by decide +kernel
theorem d16_20 : decode prog_45_method_2_code 20 = .ok (.invokeinterface 31 1, 5) := by decide +kernel
theorem d16_25 : decode prog_45_method_2_code 25 = .ok (.checkcast 35, 3) := by decide +kernel
theorem d16_28 : decode prog_45_method_2_code 28 = .ok (.astore 5, 2) := by decide +kernel
theorem d16_30 : decode prog_45_method_2_code 30 = .ok (.aload 5, 2) := by decide +kernel
theorem d16_32 : decode prog_45_method_2_code 32 = .ok (.aload_n 3, 1) := by decide +kernel
theorem d16_33 : decode prog_45_method_2_code 33 = .ok (.if_acmp .ne 12, 3) := by decide +kernel
theorem d16_36 : decode prog_45_method_2_code 36 = .ok (.aload_n 0, 1) := by decide +kernel
theorem d16_37 : decode prog_45_method_2_code 37 = .ok (.aload 5, 2) := by decide +kernel
theorem d16_39 : decode prog_45_method_2_code 39 = .ok (.putfield 37, 3) := by decide +kernel
theorem d16_42 : decode prog_45_method_2_code 42 = .ok (.goto 41, 3) := by decide +kernel
theorem d16_45 : decode prog_45_method_2_code 45 = .ok (.aload_n 2, 1) := by decide +kernel
theorem d16_46 : decode prog_45_method_2_code 46 = .ok (.aload 5, 2) := by decide +kernel
theorem d16_48 : decode prog_45_method_2_code 48 = .ok (.invokeinterface 41 2, 5) := by decide +kernel
theorem d16_53 : decode prog_45_method_2_code 53 = .ok (.ifCond .eq 18, 3) := by decide +kernel
theorem d16_56 : decode prog_45_method_2_code 56 = .ok (.aload_n 0, 1) := by decide +kernel
theorem d16_57 : decode prog_45_method_2_code 57 = .ok (.getfield 16, 3) := by decide +kernel
theorem d16_60 : decode prog_45_method_2_code 60 = .ok (.aload 5, 2) := by decide +kernel
theorem d16_62 : decode prog_45_method_2_code 62 = .ok (.invokeinterface 47 2, 5) := by decide +kernel
theorem d16_67 : decode prog_45_method_2_code 67 = .ok (.pop, 1) := by decide +kernel
theorem d16_68 : decode prog_45_method_2_code 68 = .ok (.goto 15, 3) := by decide +kernel
theorem d16_71 : decode prog_45_method_2_code 71 = .ok (.aload_n 0, 1) := by decide +kernel
theorem d16_72 : decode prog_45_method_2_code 72 = .ok (.getfield 10, 3) := by decide +kernel
theorem d16_75 : decode prog_45_method_2_code 75 = .ok (.aload 5, 2) := by decide +kernel
theorem d16_77 : decode prog_45_method_2_code 77 = .ok (.invokeinterface 47 2, 5) := by decide +kernel
theorem d16_82 : decode prog_45_method_2_code 82 = .ok (.pop, 1) := by decide +kernel
theorem d16_83 : decode prog_45_method_2_code 83 = .ok (.goto (-75), 3) := by decide +kernel
theorem d16_86 : decode prog_45_method_2_code 86 = .ok (.return_, 1) := by decide +kernel
theorem pn_16 : plainFor (⟨"com/example/deadletter/deadletter/worker/WaitingJobs", "add", "(Ljava/util/List;Ljava/util/Collection;Lcom/example/deadletter/deadletter/job/Job;)V"⟩ : MethodName) = true := by first | exact plainFor_of_name (by first | (simp [plainName, overriddenIn]; done) | decide +kernel) | decide +kernel
theorem ef_16 (m : MethodId) (x0 : Addr) (x1 : Addr) (x2 : Addr) (x3 : Value) (h3 : x3.isRef = true) : entryFrame m #[(.ref x0), (.ref x1), (.ref x2), x3] 6 = mkF m 0 #[.val (.ref x0), .val (.ref x1), .val (.ref x2), .val x3, .unset, .unset] [] := by
  rcases ref_cases h3 with rfl | ⟨y3, rfl⟩ <;> rfl
set_option maxRecDepth 65536 in
set_option maxHeartbeats 40000000 in
theorem conWA (l : Launch) (Z : State) (a0 : Array Value) (hw : ∀ d ∈ tables_1, d.before a0 Z = true) (n0 : Nat) (ws : List Jvm.Cond) (u0 : Addr) (cl : Addr) (ul : Addr) (tv : Value) (F : List OEnt) (htv : tv.isRef = true) (xs us : List Addr) (dc du r dr k dk : Addr) (mc mu : Int32) (hnx : xs.length < 4) (hnu : us.length < 10) (hC : ∀ (i : Nat) (y : Addr), xs[i]? = some y → ∃ vs : List Value, eA dc (.object "java/lang/Object") vs ∈ F ∧ vs.length = 10 ∧ vs[i]? = some (.ref y)) (hU : ∀ (i : Nat) (y : Addr), us[i]? = some y → ∃ vs : List Value, eA du (.object "java/lang/Object") vs ∈ F ∧ vs[i]? = some (.ref y)) (hJ : ∀ x ∈ xs, ∃ fx : List OFEnt, eO x "com/example/deadletter/deadletter/job/Job" fx ∈ F) :
    OCon l Z n0 (⟨"com/example/deadletter/deadletter/worker/WaitingJobs", "add", "(Ljava/util/List;Ljava/util/Collection;Lcom/example/deadletter/deadletter/job/Job;)V"⟩ : MethodName) prog_45_method_2_code 6 none ws ({ frames := 4, cells := 1, slots := 4, locals := 56 } : Room) #[(.ref u0), (.ref cl), (.ref ul), tv] ([(eO u0 "com/example/deadletter/deadletter/worker/WaitingJobs" [("com/example/deadletter/deadletter/worker/WaitingJobs", "ready", "Ljava/util/Deque;", (.ref r)), ("com/example/deadletter/deadletter/worker/WaitingJobs", "toCount", "Ljava/util/Deque;", (.ref k)), ("com/example/deadletter/deadletter/worker/WaitingJobs", "takenOver", "Lcom/example/deadletter/deadletter/job/Job;", .null)]), (eO r "java/util/ArrayDeque" [("java/util/ArrayDeque", "elements", "[Ljava/lang/Object;", (.ref dr)), ("java/util/ArrayDeque", "tail", "I", (.int (([] : List Addr).length).toInt32)), ("java/util/ArrayDeque", "head", "I", (.int (0 : Int32)))]), (eA dr (.object "java/lang/Object") (dq ([] : List Addr))), (eO k "java/util/ArrayDeque" [("java/util/ArrayDeque", "elements", "[Ljava/lang/Object;", (.ref dk)), ("java/util/ArrayDeque", "tail", "I", (.int (([] : List Addr).length).toInt32)), ("java/util/ArrayDeque", "head", "I", (.int (0 : Int32)))]), (eA dk (.object "java/lang/Object") (dq ([] : List Addr))), (eO cl "java/util/ArrayList" [("java/util/AbstractList", "modCount", "I", (.int mc)), ("java/util/ArrayList", "elementData", "[Ljava/lang/Object;", (.ref dc)), ("java/util/ArrayList", "size", "I", (.int (xs.length).toInt32))]), (eO ul "java/util/ArrayList" [("java/util/AbstractList", "modCount", "I", (.int mu)), ("java/util/ArrayList", "elementData", "[Ljava/lang/Object;", (.ref du)), ("java/util/ArrayList", "size", "I", (.int (us.length).toInt32))])] ++ F) (fun v' es' => ∃ (b : Addr) (i : Nat) (lr : Int32) (R K : List Addr) (V : Value), v' = none ∧ (R, K, V) = wj tv us xs ([], [], .null) ∧ V.isRef = true ∧ es' = ([(eO b "java/util/ArrayList$Itr" [("java/util/ArrayList$Itr", "this$0", "Ljava/util/ArrayList;", (.ref cl)), ("java/util/ArrayList$Itr", "lastRet", "I", (.int lr)), ("java/util/ArrayList$Itr", "expectedModCount", "I", (.int mc)), ("java/util/ArrayList$Itr", "cursor", "I", (.int (i).toInt32))]), (eO u0 "com/example/deadletter/deadletter/worker/WaitingJobs" [("com/example/deadletter/deadletter/worker/WaitingJobs", "ready", "Ljava/util/Deque;", (.ref r)), ("com/example/deadletter/deadletter/worker/WaitingJobs", "toCount", "Ljava/util/Deque;", (.ref k)), ("com/example/deadletter/deadletter/worker/WaitingJobs", "takenOver", "Lcom/example/deadletter/deadletter/job/Job;", V)]), (eO r "java/util/ArrayDeque" [("java/util/ArrayDeque", "elements", "[Ljava/lang/Object;", (.ref dr)), ("java/util/ArrayDeque", "tail", "I", (.int (R.length).toInt32)), ("java/util/ArrayDeque", "head", "I", (.int (0 : Int32)))]), (eA dr (.object "java/lang/Object") (dq R)), (eO k "java/util/ArrayDeque" [("java/util/ArrayDeque", "elements", "[Ljava/lang/Object;", (.ref dk)), ("java/util/ArrayDeque", "tail", "I", (.int (K.length).toInt32)), ("java/util/ArrayDeque", "head", "I", (.int (0 : Int32)))]), (eA dk (.object "java/lang/Object") (dq K)), (eO cl "java/util/ArrayList" [("java/util/AbstractList", "modCount", "I", (.int mc)), ("java/util/ArrayList", "elementData", "[Ljava/lang/Object;", (.ref dc)), ("java/util/ArrayList", "size", "I", (.int (xs.length).toInt32))]), (eO ul "java/util/ArrayList" [("java/util/AbstractList", "modCount", "I", (.int mu)), ("java/util/ArrayList", "elementData", "[Ljava/lang/Object;", (.ref du)), ("java/util/ArrayList", "size", "I", (.int (us.length).toInt32))])] ++ F)) := by
  intro h0 hW0
  refine MetFree.of_bodySF pn_16 hisR ?_
  intro p e s m args below meth c s₁ Bd hml0 hP hK
  obtain ⟨rfl, hZ, hh⟩ := hP
  have hx := Bd.exec
  have hby := Bd.bytes
  have hml : c.maxLocals = 6 := hml0
  have hown : s.vm.findClass "com/example/deadletter/deadletter/worker/WaitingJobs" = some m.cls := findClass_of_methodNamed Bd.named
  have hnm := (name_of_methodNamed Bd.named Bd.method).1
  have H0 : OHere p l e ({ frames := 4, cells := 1, slots := 4, locals := 56 } : Room) s m #[(.ref u0), (.ref cl), (.ref ul), tv] below meth c Z n0 0 s₁ 0 0 ([(eO u0 "com/example/deadletter/deadletter/worker/WaitingJobs" [("com/example/deadletter/deadletter/worker/WaitingJobs", "ready", "Ljava/util/Deque;", (.ref r)), ("com/example/deadletter/deadletter/worker/WaitingJobs", "toCount", "Ljava/util/Deque;", (.ref k)), ("com/example/deadletter/deadletter/worker/WaitingJobs", "takenOver", "Lcom/example/deadletter/deadletter/job/Job;", .null)]), (eO r "java/util/ArrayDeque" [("java/util/ArrayDeque", "elements", "[Ljava/lang/Object;", (.ref dr)), ("java/util/ArrayDeque", "tail", "I", (.int (([] : List Addr).length).toInt32)), ("java/util/ArrayDeque", "head", "I", (.int (0 : Int32)))]), (eA dr (.object "java/lang/Object") (dq ([] : List Addr))), (eO k "java/util/ArrayDeque" [("java/util/ArrayDeque", "elements", "[Ljava/lang/Object;", (.ref dk)), ("java/util/ArrayDeque", "tail", "I", (.int (([] : List Addr).length).toInt32)), ("java/util/ArrayDeque", "head", "I", (.int (0 : Int32)))]), (eA dk (.object "java/lang/Object") (dq ([] : List Addr))), (eO cl "java/util/ArrayList" [("java/util/AbstractList", "modCount", "I", (.int mc)), ("java/util/ArrayList", "elementData", "[Ljava/lang/Object;", (.ref dc)), ("java/util/ArrayList", "size", "I", (.int (xs.length).toInt32))]), (eO ul "java/util/ArrayList" [("java/util/AbstractList", "modCount", "I", (.int mu)), ("java/util/ArrayList", "elementData", "[Ljava/lang/Object;", (.ref du)), ("java/util/ArrayList", "size", "I", (.int (us.length).toInt32))])] ++ F) := ⟨[], Stand.of_body Bd, by rw [show s₁.heap = h0 from by rw [← hh, Bd.state]; rfl]; exact hW0, Fr.nil _, Nat.zero_le _⟩
  show OEnds p e below s _ _ (fun v' h' L => Fr n0 L ∧ ∃ es', (fun v' es' => ∃ (b : Addr) (i : Nat) (lr : Int32) (R K : List Addr) (V : Value), v' = none ∧ (R, K, V) = wj tv us xs ([], [], .null) ∧ V.isRef = true ∧ es' = ([(eO b "java/util/ArrayList$Itr" [("java/util/ArrayList$Itr", "this$0", "Ljava/util/ArrayList;", (.ref cl)), ("java/util/ArrayList$Itr", "lastRet", "I", (.int lr)), ("java/util/ArrayList$Itr", "expectedModCount", "I", (.int mc)), ("java/util/ArrayList$Itr", "cursor", "I", (.int (i).toInt32))]), (eO u0 "com/example/deadletter/deadletter/worker/WaitingJobs" [("com/example/deadletter/deadletter/worker/WaitingJobs", "ready", "Ljava/util/Deque;", (.ref r)), ("com/example/deadletter/deadletter/worker/WaitingJobs", "toCount", "Ljava/util/Deque;", (.ref k)), ("com/example/deadletter/deadletter/worker/WaitingJobs", "takenOver", "Lcom/example/deadletter/deadletter/job/Job;", V)]), (eO r "java/util/ArrayDeque" [("java/util/ArrayDeque", "elements", "[Ljava/lang/Object;", (.ref dr)), ("java/util/ArrayDeque", "tail", "I", (.int (R.length).toInt32)), ("java/util/ArrayDeque", "head", "I", (.int (0 : Int32)))]), (eA dr (.object "java/lang/Object") (dq R)), (eO k "java/util/ArrayDeque" [("java/util/ArrayDeque", "elements", "[Ljava/lang/Object;", (.ref dk)), ("java/util/ArrayDeque", "tail", "I", (.int (K.length).toInt32)), ("java/util/ArrayDeque", "head", "I", (.int (0 : Int32)))]), (eA dk (.object "java/lang/Object") (dq K)), (eO cl "java/util/ArrayList" [("java/util/AbstractList", "modCount", "I", (.int mc)), ("java/util/ArrayList", "elementData", "[Ljava/lang/Object;", (.ref dc)), ("java/util/ArrayList", "size", "I", (.int (xs.length).toInt32))]), (eO ul "java/util/ArrayList" [("java/util/AbstractList", "modCount", "I", (.int mu)), ("java/util/ArrayList", "elementData", "[Ljava/lang/Object;", (.ref du)), ("java/util/ArrayList", "size", "I", (.int (us.length).toInt32))])] ++ F)) v' es' ∧ OWorld Z n0 h' es') _
  refine OEnds.pre (fun t k => castTop (ef_16 m u0 cl ul tv htv) k) ?_
  show OEnds p e below s _ _ _ (s₁.setTop (mkF m 0 #[vR u0, vR cl, vR ul, .val tv, uN, uN] []))
  refine OEnds.pre (fun t_ k_ => XS.aloadN H0.here hx rfl (hb hby d16_0) rfl rfl k_) ?_
  show OEnds p e below s _ _ _ (s₁.setTop (mkF m 1 #[vR u0, vR cl, vR ul, .val tv, uN, uN] [(.ref cl)]))
  have Hp2 : OHere p l e _ s m _ below meth c Z n0 0 s₁ 0 0 ([(eO cl "java/util/ArrayList" [("java/util/AbstractList", "modCount", "I", (.int mc)), ("java/util/ArrayList", "elementData", "[Ljava/lang/Object;", (.ref dc)), ("java/util/ArrayList", "size", "I", (.int (xs.length).toInt32))]), (eO u0 "com/example/deadletter/deadletter/worker/WaitingJobs" [("com/example/deadletter/deadletter/worker/WaitingJobs", "ready", "Ljava/util/Deque;", (.ref r)), ("com/example/deadletter/deadletter/worker/WaitingJobs", "toCount", "Ljava/util/Deque;", (.ref k)), ("com/example/deadletter/deadletter/worker/WaitingJobs", "takenOver", "Lcom/example/deadletter/deadletter/job/Job;", .null)]), (eO r "java/util/ArrayDeque" [("java/util/ArrayDeque", "elements", "[Ljava/lang/Object;", (.ref dr)), ("java/util/ArrayDeque", "tail", "I", (.int (([] : List Addr).length).toInt32)), ("java/util/ArrayDeque", "head", "I", (.int (0 : Int32)))]), (eA dr (.object "java/lang/Object") (dq ([] : List Addr))), (eO k "java/util/ArrayDeque" [("java/util/ArrayDeque", "elements", "[Ljava/lang/Object;", (.ref dk)), ("java/util/ArrayDeque", "tail", "I", (.int (([] : List Addr).length).toInt32)), ("java/util/ArrayDeque", "head", "I", (.int (0 : Int32)))]), (eA dk (.object "java/lang/Object") (dq ([] : List Addr))), (eO ul "java/util/ArrayList" [("java/util/AbstractList", "modCount", "I", (.int mu)), ("java/util/ArrayList", "elementData", "[Ljava/lang/Object;", (.ref du)), ("java/util/ArrayList", "size", "I", (.int (us.length).toInt32))])] ++ F) := OHere.pick H0 [5, 0, 1, 2, 3, 4, 6] (by decide) rfl
  obtain ⟨T3, _, _, ⟨bi1, rfl, rfl⟩, H3, st3⟩ := OHere.face Hp2 hx hZ (y := (⟨"java/util/List", "iterator", "()Ljava/util/Iterator;"⟩ : MethodName)) (z := (⟨"java/util/ArrayList", "iterator", "()Ljava/util/Iterator;"⟩ : MethodName)) (W := 0) (a := cl) (q := 0) (fs := [("java/util/AbstractList", "modCount", "I", (.int mc)), ("java/util/ArrayList", "elementData", "[Ljava/lang/Object;", (.ref dc)), ("java/util/ArrayList", "size", "I", (.int (xs.length).toInt32))]) hown (tWd hw 137 rfl) (tWd hw 138 rfl) (tWd hw 139 rfl) rfl (tWd hw 140 rfl) (tWd hw 141 rfl) (tWd hw 142 rfl) (tWd hw 143 rfl) (tWd hw 144 rfl) (tWd hw 34 rfl) (tWd hw 145 rfl) (by decide) rfl (conIt l Z a0 hw n0 [] cl ([(eO u0 "com/example/deadletter/deadletter/worker/WaitingJobs" [("com/example/deadletter/deadletter/worker/WaitingJobs", "ready", "Ljava/util/Deque;", (.ref r)), ("com/example/deadletter/deadletter/worker/WaitingJobs", "toCount", "Ljava/util/Deque;", (.ref k)), ("com/example/deadletter/deadletter/worker/WaitingJobs", "takenOver", "Lcom/example/deadletter/deadletter/job/Job;", .null)]), (eO r "java/util/ArrayDeque" [("java/util/ArrayDeque", "elements", "[Ljava/lang/Object;", (.ref dr)), ("java/util/ArrayDeque", "tail", "I", (.int (([] : List Addr).length).toInt32)), ("java/util/ArrayDeque", "head", "I", (.int (0 : Int32)))]), (eA dr (.object "java/lang/Object") (dq ([] : List Addr))), (eO k "java/util/ArrayDeque" [("java/util/ArrayDeque", "elements", "[Ljava/lang/Object;", (.ref dk)), ("java/util/ArrayDeque", "tail", "I", (.int (([] : List Addr).length).toInt32)), ("java/util/ArrayDeque", "head", "I", (.int (0 : Int32)))]), (eA dk (.object "java/lang/Object") (dq ([] : List Addr))), (eO ul "java/util/ArrayList" [("java/util/AbstractList", "modCount", "I", (.int mu)), ("java/util/ArrayList", "elementData", "[Ljava/lang/Object;", (.ref du)), ("java/util/ArrayList", "size", "I", (.int (us.length).toInt32))])] ++ F) dc mc (xs.length).toInt32) (by decide) (by decide) (pc := 1) (Ls := #[vR u0, vR cl, vR ul, .val tv, uN, uN]) (argsL := []) (rest := []) (by rw [hml]; rfl) (lenOf pd_ocLjava_util_Iterator_ rfl) rfl (Nat.le_of_eq rfl) (hb hby d16_1) (by decide) (by decide)
  replace H3 : OHere p l e _ s m _ below meth c Z n0 0 T3 1 4 ([(eO bi1 "java/util/ArrayList$Itr" [("java/util/ArrayList$Itr", "this$0", "Ljava/util/ArrayList;", (.ref cl)), ("java/util/ArrayList$Itr", "lastRet", "I", (.int (-1 : Int32))), ("java/util/ArrayList$Itr", "expectedModCount", "I", (.int mc)), ("java/util/ArrayList$Itr", "cursor", "I", (.int 0))]), (eO cl "java/util/ArrayList" [("java/util/AbstractList", "modCount", "I", (.int mc)), ("java/util/ArrayList", "elementData", "[Ljava/lang/Object;", (.ref dc)), ("java/util/ArrayList", "size", "I", (.int (xs.length).toInt32))]), (eO u0 "com/example/deadletter/deadletter/worker/WaitingJobs" [("com/example/deadletter/deadletter/worker/WaitingJobs", "ready", "Ljava/util/Deque;", (.ref r)), ("com/example/deadletter/deadletter/worker/WaitingJobs", "toCount", "Ljava/util/Deque;", (.ref k)), ("com/example/deadletter/deadletter/worker/WaitingJobs", "takenOver", "Lcom/example/deadletter/deadletter/job/Job;", .null)]), (eO r "java/util/ArrayDeque" [("java/util/ArrayDeque", "elements", "[Ljava/lang/Object;", (.ref dr)), ("java/util/ArrayDeque", "tail", "I", (.int (([] : List Addr).length).toInt32)), ("java/util/ArrayDeque", "head", "I", (.int (0 : Int32)))]), (eA dr (.object "java/lang/Object") (dq ([] : List Addr))), (eO k "java/util/ArrayDeque" [("java/util/ArrayDeque", "elements", "[Ljava/lang/Object;", (.ref dk)), ("java/util/ArrayDeque", "tail", "I", (.int (([] : List Addr).length).toInt32)), ("java/util/ArrayDeque", "head", "I", (.int (0 : Int32)))]), (eA dk (.object "java/lang/Object") (dq ([] : List Addr))), (eO ul "java/util/ArrayList" [("java/util/AbstractList", "modCount", "I", (.int mu)), ("java/util/ArrayList", "elementData", "[Ljava/lang/Object;", (.ref du)), ("java/util/ArrayList", "size", "I", (.int (us.length).toInt32))])] ++ F) := H3
  refine OEnds.pre (fun t_ k_ => st3 _ k_) ?_
  show OEnds p e below s _ _ _ (T3.setTop (mkF m 6 #[vR u0, vR cl, vR ul, .val tv, uN, uN] [(.ref bi1)]))
  refine OEnds.pre (fun t_ k_ => XS.astore H3.here hx rfl (hb hby d16_6) rfl rfl (l' := #[vR u0, vR cl, vR ul, .val tv, vR bi1, uN]) rfl k_) ?_
  show OEnds p e below s _ _ _ (T3.setTop (mkF m 8 #[vR u0, vR cl, vR ul, .val tv, vR bi1, uN] []))
  have loop : ∀ (ys : List Addr) (i : Nat) (R K : List Addr) (V : Value) (lr : Int32) (T : State) (w0 : Slot), (w0 = .unset ∨ ∃ z : Addr, w0 = .val (.ref z)) → xs.drop i = ys → i + ys.length = xs.length → R.length ≤ i → K.length ≤ i → V.isRef = true → wj tv us ys (R, K, V) = wj tv us xs ([], [], .null) → OHere p l e ({ frames := 4, cells := 1, slots := 4, locals := 56 } : Room) s m #[(.ref u0), (.ref cl), (.ref ul), tv] below meth c Z n0 0 T 1 4 ([(eO bi1 "java/util/ArrayList$Itr" [("java/util/ArrayList$Itr", "this$0", "Ljava/util/ArrayList;", (.ref cl)), ("java/util/ArrayList$Itr", "lastRet", "I", (.int lr)), ("java/util/ArrayList$Itr", "expectedModCount", "I", (.int mc)), ("java/util/ArrayList$Itr", "cursor", "I", (.int (i).toInt32))]), (eO u0 "com/example/deadletter/deadletter/worker/WaitingJobs" [("com/example/deadletter/deadletter/worker/WaitingJobs", "ready", "Ljava/util/Deque;", (.ref r)), ("com/example/deadletter/deadletter/worker/WaitingJobs", "toCount", "Ljava/util/Deque;", (.ref k)), ("com/example/deadletter/deadletter/worker/WaitingJobs", "takenOver", "Lcom/example/deadletter/deadletter/job/Job;", V)]), (eO r "java/util/ArrayDeque" [("java/util/ArrayDeque", "elements", "[Ljava/lang/Object;", (.ref dr)), ("java/util/ArrayDeque", "tail", "I", (.int (R.length).toInt32)), ("java/util/ArrayDeque", "head", "I", (.int (0 : Int32)))]), (eA dr (.object "java/lang/Object") (dq R)), (eO k "java/util/ArrayDeque" [("java/util/ArrayDeque", "elements", "[Ljava/lang/Object;", (.ref dk)), ("java/util/ArrayDeque", "tail", "I", (.int (K.length).toInt32)), ("java/util/ArrayDeque", "head", "I", (.int (0 : Int32)))]), (eA dk (.object "java/lang/Object") (dq K)), (eO cl "java/util/ArrayList" [("java/util/AbstractList", "modCount", "I", (.int mc)), ("java/util/ArrayList", "elementData", "[Ljava/lang/Object;", (.ref dc)), ("java/util/ArrayList", "size", "I", (.int (xs.length).toInt32))]), (eO ul "java/util/ArrayList" [("java/util/AbstractList", "modCount", "I", (.int mu)), ("java/util/ArrayList", "elementData", "[Ljava/lang/Object;", (.ref du)), ("java/util/ArrayList", "size", "I", (.int (us.length).toInt32))])] ++ F) → OEnds p e below s ({ frames := 4, cells := 1, slots := 4, locals := 56 } : Room).cells ({ frames := 4, cells := 1, slots := 4, locals := 56 } : Room).slots (fun v' h' L => Fr n0 L ∧ ∃ es', (fun v' es' => ∃ (b : Addr) (i : Nat) (lr : Int32) (R K : List Addr) (V : Value), v' = none ∧ (R, K, V) = wj tv us xs ([], [], .null) ∧ V.isRef = true ∧ es' = ([(eO b "java/util/ArrayList$Itr" [("java/util/ArrayList$Itr", "this$0", "Ljava/util/ArrayList;", (.ref cl)), ("java/util/ArrayList$Itr", "lastRet", "I", (.int lr)), ("java/util/ArrayList$Itr", "expectedModCount", "I", (.int mc)), ("java/util/ArrayList$Itr", "cursor", "I", (.int (i).toInt32))]), (eO u0 "com/example/deadletter/deadletter/worker/WaitingJobs" [("com/example/deadletter/deadletter/worker/WaitingJobs", "ready", "Ljava/util/Deque;", (.ref r)), ("com/example/deadletter/deadletter/worker/WaitingJobs", "toCount", "Ljava/util/Deque;", (.ref k)), ("com/example/deadletter/deadletter/worker/WaitingJobs", "takenOver", "Lcom/example/deadletter/deadletter/job/Job;", V)]), (eO r "java/util/ArrayDeque" [("java/util/ArrayDeque", "elements", "[Ljava/lang/Object;", (.ref dr)), ("java/util/ArrayDeque", "tail", "I", (.int (R.length).toInt32)), ("java/util/ArrayDeque", "head", "I", (.int (0 : Int32)))]), (eA dr (.object "java/lang/Object") (dq R)), (eO k "java/util/ArrayDeque" [("java/util/ArrayDeque", "elements", "[Ljava/lang/Object;", (.ref dk)), ("java/util/ArrayDeque", "tail", "I", (.int (K.length).toInt32)), ("java/util/ArrayDeque", "head", "I", (.int (0 : Int32)))]), (eA dk (.object "java/lang/Object") (dq K)), (eO cl "java/util/ArrayList" [("java/util/AbstractList", "modCount", "I", (.int mc)), ("java/util/ArrayList", "elementData", "[Ljava/lang/Object;", (.ref dc)), ("java/util/ArrayList", "size", "I", (.int (xs.length).toInt32))]), (eO ul "java/util/ArrayList" [("java/util/AbstractList", "modCount", "I", (.int mu)), ("java/util/ArrayList", "elementData", "[Ljava/lang/Object;", (.ref du)), ("java/util/ArrayList", "size", "I", (.int (us.length).toInt32))])] ++ F)) v' es' ∧ OWorld Z n0 h' es') (T.setTop (mkF m 8 #[.val (.ref u0), .val (.ref cl), .val (.ref ul), .val tv, .val (.ref bi1), w0] [])) := by
    intro ys
    induction ys with
    | nil =>
      intro i R K V lr T w0 hw0 hd hl hR hK hVr hf H
      have hi : i = xs.length := by simpa using hl
      refine OEnds.pre (fun t_ k_ => XS.aload H.here hx rfl (hb hby d16_8) rfl rfl k_) ?_
      show OEnds p e below s _ _ _ (T.setTop (mkF m 10 #[vR u0, vR cl, vR ul, .val tv, vR bi1, w0] [(.ref bi1)]))
      have Hp4 : OHere p l e _ s m _ below meth c Z n0 0 T 1 4 ([(eO bi1 "java/util/ArrayList$Itr" [("java/util/ArrayList$Itr", "this$0", "Ljava/util/ArrayList;", (.ref cl)), ("java/util/ArrayList$Itr", "lastRet", "I", (.int lr)), ("java/util/ArrayList$Itr", "expectedModCount", "I", (.int mc)), ("java/util/ArrayList$Itr", "cursor", "I", (.int (i).toInt32))]), (eO cl "java/util/ArrayList" [("java/util/AbstractList", "modCount", "I", (.int mc)), ("java/util/ArrayList", "elementData", "[Ljava/lang/Object;", (.ref dc)), ("java/util/ArrayList", "size", "I", (.int (xs.length).toInt32))]), (eO u0 "com/example/deadletter/deadletter/worker/WaitingJobs" [("com/example/deadletter/deadletter/worker/WaitingJobs", "ready", "Ljava/util/Deque;", (.ref r)), ("com/example/deadletter/deadletter/worker/WaitingJobs", "toCount", "Ljava/util/Deque;", (.ref k)), ("com/example/deadletter/deadletter/worker/WaitingJobs", "takenOver", "Lcom/example/deadletter/deadletter/job/Job;", V)]), (eO r "java/util/ArrayDeque" [("java/util/ArrayDeque", "elements", "[Ljava/lang/Object;", (.ref dr)), ("java/util/ArrayDeque", "tail", "I", (.int (R.length).toInt32)), ("java/util/ArrayDeque", "head", "I", (.int (0 : Int32)))]), (eA dr (.object "java/lang/Object") (dq R)), (eO k "java/util/ArrayDeque" [("java/util/ArrayDeque", "elements", "[Ljava/lang/Object;", (.ref dk)), ("java/util/ArrayDeque", "tail", "I", (.int (K.length).toInt32)), ("java/util/ArrayDeque", "head", "I", (.int (0 : Int32)))]), (eA dk (.object "java/lang/Object") (dq K)), (eO ul "java/util/ArrayList" [("java/util/AbstractList", "modCount", "I", (.int mu)), ("java/util/ArrayList", "elementData", "[Ljava/lang/Object;", (.ref du)), ("java/util/ArrayList", "size", "I", (.int (us.length).toInt32))])] ++ F) := OHere.pick H [0, 6, 1, 2, 3, 4, 5, 7] (by decide) rfl
      obtain ⟨T5, _, _, ⟨rfl, rfl⟩, H5, st5⟩ := OHere.face Hp4 hx hZ (y := (⟨"java/util/Iterator", "hasNext", "()Z"⟩ : MethodName)) (z := (⟨"java/util/ArrayList$Itr", "hasNext", "()Z"⟩ : MethodName)) (W := 0) (a := bi1) (q := 0) (fs := [("java/util/ArrayList$Itr", "this$0", "Ljava/util/ArrayList;", (.ref cl)), ("java/util/ArrayList$Itr", "lastRet", "I", (.int lr)), ("java/util/ArrayList$Itr", "expectedModCount", "I", (.int mc)), ("java/util/ArrayList$Itr", "cursor", "I", (.int (i).toInt32))]) hown (tWd hw 161 rfl) (tWd hw 162 rfl) (tWd hw 163 rfl) rfl (tWd hw 164 rfl) (tWd hw 165 rfl) (tWd hw 166 rfl) (tWd hw 167 rfl) (tWd hw 168 rfl) (tWd hw 148 rfl) (tWd hw 169 rfl) (by decide) rfl (conHNN l Z a0 hw n0 [] bi1 ([(eO u0 "com/example/deadletter/deadletter/worker/WaitingJobs" [("com/example/deadletter/deadletter/worker/WaitingJobs", "ready", "Ljava/util/Deque;", (.ref r)), ("com/example/deadletter/deadletter/worker/WaitingJobs", "toCount", "Ljava/util/Deque;", (.ref k)), ("com/example/deadletter/deadletter/worker/WaitingJobs", "takenOver", "Lcom/example/deadletter/deadletter/job/Job;", V)]), (eO r "java/util/ArrayDeque" [("java/util/ArrayDeque", "elements", "[Ljava/lang/Object;", (.ref dr)), ("java/util/ArrayDeque", "tail", "I", (.int (R.length).toInt32)), ("java/util/ArrayDeque", "head", "I", (.int (0 : Int32)))]), (eA dr (.object "java/lang/Object") (dq R)), (eO k "java/util/ArrayDeque" [("java/util/ArrayDeque", "elements", "[Ljava/lang/Object;", (.ref dk)), ("java/util/ArrayDeque", "tail", "I", (.int (K.length).toInt32)), ("java/util/ArrayDeque", "head", "I", (.int (0 : Int32)))]), (eA dk (.object "java/lang/Object") (dq K)), (eO ul "java/util/ArrayList" [("java/util/AbstractList", "modCount", "I", (.int mu)), ("java/util/ArrayList", "elementData", "[Ljava/lang/Object;", (.ref du)), ("java/util/ArrayList", "size", "I", (.int (us.length).toInt32))])] ++ F) cl dc mc lr i xs.length hi) (by decide) (by decide) (pc := 10) (Ls := #[vR u0, vR cl, vR ul, .val tv, vR bi1, w0]) (argsL := []) (rest := []) (by rw [hml]; rfl) (lenOf pd_ocZ rfl) rfl (Nat.le_of_eq rfl) (hb hby d16_10) (by decide) (by decide)
      replace H5 : OHere p l e _ s m _ below meth c Z n0 0 T5 1 4 ([(eO bi1 "java/util/ArrayList$Itr" [("java/util/ArrayList$Itr", "this$0", "Ljava/util/ArrayList;", (.ref cl)), ("java/util/ArrayList$Itr", "lastRet", "I", (.int lr)), ("java/util/ArrayList$Itr", "expectedModCount", "I", (.int mc)), ("java/util/ArrayList$Itr", "cursor", "I", (.int (i).toInt32))]), (eO cl "java/util/ArrayList" [("java/util/AbstractList", "modCount", "I", (.int mc)), ("java/util/ArrayList", "elementData", "[Ljava/lang/Object;", (.ref dc)), ("java/util/ArrayList", "size", "I", (.int (xs.length).toInt32))]), (eO u0 "com/example/deadletter/deadletter/worker/WaitingJobs" [("com/example/deadletter/deadletter/worker/WaitingJobs", "ready", "Ljava/util/Deque;", (.ref r)), ("com/example/deadletter/deadletter/worker/WaitingJobs", "toCount", "Ljava/util/Deque;", (.ref k)), ("com/example/deadletter/deadletter/worker/WaitingJobs", "takenOver", "Lcom/example/deadletter/deadletter/job/Job;", V)]), (eO r "java/util/ArrayDeque" [("java/util/ArrayDeque", "elements", "[Ljava/lang/Object;", (.ref dr)), ("java/util/ArrayDeque", "tail", "I", (.int (R.length).toInt32)), ("java/util/ArrayDeque", "head", "I", (.int (0 : Int32)))]), (eA dr (.object "java/lang/Object") (dq R)), (eO k "java/util/ArrayDeque" [("java/util/ArrayDeque", "elements", "[Ljava/lang/Object;", (.ref dk)), ("java/util/ArrayDeque", "tail", "I", (.int (K.length).toInt32)), ("java/util/ArrayDeque", "head", "I", (.int (0 : Int32)))]), (eA dk (.object "java/lang/Object") (dq K)), (eO ul "java/util/ArrayList" [("java/util/AbstractList", "modCount", "I", (.int mu)), ("java/util/ArrayList", "elementData", "[Ljava/lang/Object;", (.ref du)), ("java/util/ArrayList", "size", "I", (.int (us.length).toInt32))])] ++ F) := H5
      refine OEnds.pre (fun t_ k_ => st5 _ k_) ?_
      show OEnds p e below s _ _ _ (T5.setTop (mkF m 15 #[vR u0, vR cl, vR ul, .val tv, vR bi1, w0] [(.int (0 : Int32))]))
      refine OEnds.pre (fun t_ k_ => XS.ifYes H5.here hx rfl (pc0 := 15) (pc' := 86) rfl (hb hby d16_15) rfl (XT.i0_eq_t (by decide)) (by decide) (by decide) k_) ?_
      show OEnds p e below s _ _ _ (T5.setTop (mkF m 86 #[vR u0, vR cl, vR ul, .val tv, vR bi1, w0] []))
      have Hq6 : OHere p l e _ s m _ below meth c Z n0 0 T5 1 4 ([(eO bi1 "java/util/ArrayList$Itr" [("java/util/ArrayList$Itr", "this$0", "Ljava/util/ArrayList;", (.ref cl)), ("java/util/ArrayList$Itr", "lastRet", "I", (.int lr)), ("java/util/ArrayList$Itr", "expectedModCount", "I", (.int mc)), ("java/util/ArrayList$Itr", "cursor", "I", (.int (i).toInt32))]), (eO u0 "com/example/deadletter/deadletter/worker/WaitingJobs" [("com/example/deadletter/deadletter/worker/WaitingJobs", "ready", "Ljava/util/Deque;", (.ref r)), ("com/example/deadletter/deadletter/worker/WaitingJobs", "toCount", "Ljava/util/Deque;", (.ref k)), ("com/example/deadletter/deadletter/worker/WaitingJobs", "takenOver", "Lcom/example/deadletter/deadletter/job/Job;", V)]), (eO r "java/util/ArrayDeque" [("java/util/ArrayDeque", "elements", "[Ljava/lang/Object;", (.ref dr)), ("java/util/ArrayDeque", "tail", "I", (.int (R.length).toInt32)), ("java/util/ArrayDeque", "head", "I", (.int (0 : Int32)))]), (eA dr (.object "java/lang/Object") (dq R)), (eO k "java/util/ArrayDeque" [("java/util/ArrayDeque", "elements", "[Ljava/lang/Object;", (.ref dk)), ("java/util/ArrayDeque", "tail", "I", (.int (K.length).toInt32)), ("java/util/ArrayDeque", "head", "I", (.int (0 : Int32)))]), (eA dk (.object "java/lang/Object") (dq K)), (eO cl "java/util/ArrayList" [("java/util/AbstractList", "modCount", "I", (.int mc)), ("java/util/ArrayList", "elementData", "[Ljava/lang/Object;", (.ref dc)), ("java/util/ArrayList", "size", "I", (.int (xs.length).toInt32))]), (eO ul "java/util/ArrayList" [("java/util/AbstractList", "modCount", "I", (.int mu)), ("java/util/ArrayList", "elementData", "[Ljava/lang/Object;", (.ref du)), ("java/util/ArrayList", "size", "I", (.int (us.length).toInt32))])] ++ F) := OHere.pick H5 [0, 2, 3, 4, 5, 6, 1, 7] (by decide) rfl
      exact Hq6.ret hx Bd.notSynchronized Bd.returns (hb hby d16_86) (by decide) (by decide) (fun h L W N => ⟨N, _, ⟨_, _, _, R, K, V, rfl, hf, hVr, rfl⟩, W⟩)
    | cons x ys ih =>
      intro i R K V lr T w0 hw0 hd hl hR hK hVr hf H
      have hi : i < xs.length := by simp at hl; omega
      have hxi : xs[i]? = some x := by have q := List.getElem?_drop (xs := xs) (i := i) (j := 0); rw [hd] at q; simpa using q.symm
      obtain ⟨vs, hA, hvl, hvi⟩ := hC i x hxi
      obtain ⟨fx, hxF⟩ := hJ x (List.mem_of_getElem? hxi)
      refine OEnds.pre (fun t_ k_ => XS.aload H.here hx rfl (hb hby d16_8) rfl rfl k_) ?_
      show OEnds p e below s _ _ _ (T.setTop (mkF m 10 #[vR u0, vR cl, vR ul, .val tv, vR bi1, w0] [(.ref bi1)]))
      have Hp7 : OHere p l e _ s m _ below meth c Z n0 0 T 1 4 ([(eO bi1 "java/util/ArrayList$Itr" [("java/util/ArrayList$Itr", "this$0", "Ljava/util/ArrayList;", (.ref cl)), ("java/util/ArrayList$Itr", "lastRet", "I", (.int lr)), ("java/util/ArrayList$Itr", "expectedModCount", "I", (.int mc)), ("java/util/ArrayList$Itr", "cursor", "I", (.int (i).toInt32))]), (eO cl "java/util/ArrayList" [("java/util/AbstractList", "modCount", "I", (.int mc)), ("java/util/ArrayList", "elementData", "[Ljava/lang/Object;", (.ref dc)), ("java/util/ArrayList", "size", "I", (.int (xs.length).toInt32))]), (eO u0 "com/example/deadletter/deadletter/worker/WaitingJobs" [("com/example/deadletter/deadletter/worker/WaitingJobs", "ready", "Ljava/util/Deque;", (.ref r)), ("com/example/deadletter/deadletter/worker/WaitingJobs", "toCount", "Ljava/util/Deque;", (.ref k)), ("com/example/deadletter/deadletter/worker/WaitingJobs", "takenOver", "Lcom/example/deadletter/deadletter/job/Job;", V)]), (eO r "java/util/ArrayDeque" [("java/util/ArrayDeque", "elements", "[Ljava/lang/Object;", (.ref dr)), ("java/util/ArrayDeque", "tail", "I", (.int (R.length).toInt32)), ("java/util/ArrayDeque", "head", "I", (.int (0 : Int32)))]), (eA dr (.object "java/lang/Object") (dq R)), (eO k "java/util/ArrayDeque" [("java/util/ArrayDeque", "elements", "[Ljava/lang/Object;", (.ref dk)), ("java/util/ArrayDeque", "tail", "I", (.int (K.length).toInt32)), ("java/util/ArrayDeque", "head", "I", (.int (0 : Int32)))]), (eA dk (.object "java/lang/Object") (dq K)), (eO ul "java/util/ArrayList" [("java/util/AbstractList", "modCount", "I", (.int mu)), ("java/util/ArrayList", "elementData", "[Ljava/lang/Object;", (.ref du)), ("java/util/ArrayList", "size", "I", (.int (us.length).toInt32))])] ++ F) := OHere.pick H [0, 6, 1, 2, 3, 4, 5, 7] (by decide) rfl
      obtain ⟨T8, _, _, ⟨rfl, rfl⟩, H8, st8⟩ := OHere.face Hp7 hx hZ (y := (⟨"java/util/Iterator", "hasNext", "()Z"⟩ : MethodName)) (z := (⟨"java/util/ArrayList$Itr", "hasNext", "()Z"⟩ : MethodName)) (W := 0) (a := bi1) (q := 0) (fs := [("java/util/ArrayList$Itr", "this$0", "Ljava/util/ArrayList;", (.ref cl)), ("java/util/ArrayList$Itr", "lastRet", "I", (.int lr)), ("java/util/ArrayList$Itr", "expectedModCount", "I", (.int mc)), ("java/util/ArrayList$Itr", "cursor", "I", (.int (i).toInt32))]) hown (tWd hw 161 rfl) (tWd hw 162 rfl) (tWd hw 163 rfl) rfl (tWd hw 164 rfl) (tWd hw 165 rfl) (tWd hw 166 rfl) (tWd hw 167 rfl) (tWd hw 168 rfl) (tWd hw 148 rfl) (tWd hw 169 rfl) (by decide) rfl (conHNY l Z a0 hw n0 [] bi1 ([(eO u0 "com/example/deadletter/deadletter/worker/WaitingJobs" [("com/example/deadletter/deadletter/worker/WaitingJobs", "ready", "Ljava/util/Deque;", (.ref r)), ("com/example/deadletter/deadletter/worker/WaitingJobs", "toCount", "Ljava/util/Deque;", (.ref k)), ("com/example/deadletter/deadletter/worker/WaitingJobs", "takenOver", "Lcom/example/deadletter/deadletter/job/Job;", V)]), (eO r "java/util/ArrayDeque" [("java/util/ArrayDeque", "elements", "[Ljava/lang/Object;", (.ref dr)), ("java/util/ArrayDeque", "tail", "I", (.int (R.length).toInt32)), ("java/util/ArrayDeque", "head", "I", (.int (0 : Int32)))]), (eA dr (.object "java/lang/Object") (dq R)), (eO k "java/util/ArrayDeque" [("java/util/ArrayDeque", "elements", "[Ljava/lang/Object;", (.ref dk)), ("java/util/ArrayDeque", "tail", "I", (.int (K.length).toInt32)), ("java/util/ArrayDeque", "head", "I", (.int (0 : Int32)))]), (eA dk (.object "java/lang/Object") (dq K)), (eO ul "java/util/ArrayList" [("java/util/AbstractList", "modCount", "I", (.int mu)), ("java/util/ArrayList", "elementData", "[Ljava/lang/Object;", (.ref du)), ("java/util/ArrayList", "size", "I", (.int (us.length).toInt32))])] ++ F) cl dc mc lr i xs.length ⟨hi, by omega⟩) (by decide) (by decide) (pc := 10) (Ls := #[vR u0, vR cl, vR ul, .val tv, vR bi1, w0]) (argsL := []) (rest := []) (by rw [hml]; rfl) (lenOf pd_ocZ rfl) rfl (Nat.le_of_eq rfl) (hb hby d16_10) (by decide) (by decide)
      replace H8 : OHere p l e _ s m _ below meth c Z n0 0 T8 1 4 ([(eO bi1 "java/util/ArrayList$Itr" [("java/util/ArrayList$Itr", "this$0", "Ljava/util/ArrayList;", (.ref cl)), ("java/util/ArrayList$Itr", "lastRet", "I", (.int lr)), ("java/util/ArrayList$Itr", "expectedModCount", "I", (.int mc)), ("java/util/ArrayList$Itr", "cursor", "I", (.int (i).toInt32))]), (eO cl "java/util/ArrayList" [("java/util/AbstractList", "modCount", "I", (.int mc)), ("java/util/ArrayList", "elementData", "[Ljava/lang/Object;", (.ref dc)), ("java/util/ArrayList", "size", "I", (.int (xs.length).toInt32))]), (eO u0 "com/example/deadletter/deadletter/worker/WaitingJobs" [("com/example/deadletter/deadletter/worker/WaitingJobs", "ready", "Ljava/util/Deque;", (.ref r)), ("com/example/deadletter/deadletter/worker/WaitingJobs", "toCount", "Ljava/util/Deque;", (.ref k)), ("com/example/deadletter/deadletter/worker/WaitingJobs", "takenOver", "Lcom/example/deadletter/deadletter/job/Job;", V)]), (eO r "java/util/ArrayDeque" [("java/util/ArrayDeque", "elements", "[Ljava/lang/Object;", (.ref dr)), ("java/util/ArrayDeque", "tail", "I", (.int (R.length).toInt32)), ("java/util/ArrayDeque", "head", "I", (.int (0 : Int32)))]), (eA dr (.object "java/lang/Object") (dq R)), (eO k "java/util/ArrayDeque" [("java/util/ArrayDeque", "elements", "[Ljava/lang/Object;", (.ref dk)), ("java/util/ArrayDeque", "tail", "I", (.int (K.length).toInt32)), ("java/util/ArrayDeque", "head", "I", (.int (0 : Int32)))]), (eA dk (.object "java/lang/Object") (dq K)), (eO ul "java/util/ArrayList" [("java/util/AbstractList", "modCount", "I", (.int mu)), ("java/util/ArrayList", "elementData", "[Ljava/lang/Object;", (.ref du)), ("java/util/ArrayList", "size", "I", (.int (us.length).toInt32))])] ++ F) := H8
      refine OEnds.pre (fun t_ k_ => st8 _ k_) ?_
      show OEnds p e below s _ _ _ (T8.setTop (mkF m 15 #[vR u0, vR cl, vR ul, .val tv, vR bi1, w0] [(.int (1 : Int32))]))
      refine OEnds.pre (fun t_ k_ => XS.ifNo H8.here hx rfl (hb hby d16_15) rfl (XT.i0_eq_f (by decide)) k_) ?_
      show OEnds p e below s _ _ _ (T8.setTop (mkF m 18 #[vR u0, vR cl, vR ul, .val tv, vR bi1, w0] []))
      refine OEnds.pre (fun t_ k_ => XS.aload H8.here hx rfl (hb hby d16_18) rfl rfl k_) ?_
      show OEnds p e below s _ _ _ (T8.setTop (mkF m 20 #[vR u0, vR cl, vR ul, .val tv, vR bi1, w0] [(.ref bi1)]))
      obtain ⟨T9, _, _, ⟨rfl, rfl⟩, H9, st9⟩ := OHere.face H8 hx hZ (y := (⟨"java/util/Iterator", "next", "()Ljava/lang/Object;"⟩ : MethodName)) (z := (⟨"java/util/ArrayList$Itr", "next", "()Ljava/lang/Object;"⟩ : MethodName)) (W := 0) (a := bi1) (q := 0) (fs := [("java/util/ArrayList$Itr", "this$0", "Ljava/util/ArrayList;", (.ref cl)), ("java/util/ArrayList$Itr", "lastRet", "I", (.int lr)), ("java/util/ArrayList$Itr", "expectedModCount", "I", (.int mc)), ("java/util/ArrayList$Itr", "cursor", "I", (.int (i).toInt32))]) hown (tWd hw 194 rfl) (tWd hw 195 rfl) (tWd hw 196 rfl) rfl (tWd hw 197 rfl) (tWd hw 198 rfl) (tWd hw 199 rfl) (tWd hw 200 rfl) (tWd hw 168 rfl) (tWd hw 148 rfl) (tWd hw 201 rfl) (by decide) rfl (conNx l Z a0 hw n0 [] bi1 ([(eO u0 "com/example/deadletter/deadletter/worker/WaitingJobs" [("com/example/deadletter/deadletter/worker/WaitingJobs", "ready", "Ljava/util/Deque;", (.ref r)), ("com/example/deadletter/deadletter/worker/WaitingJobs", "toCount", "Ljava/util/Deque;", (.ref k)), ("com/example/deadletter/deadletter/worker/WaitingJobs", "takenOver", "Lcom/example/deadletter/deadletter/job/Job;", V)]), (eO r "java/util/ArrayDeque" [("java/util/ArrayDeque", "elements", "[Ljava/lang/Object;", (.ref dr)), ("java/util/ArrayDeque", "tail", "I", (.int (R.length).toInt32)), ("java/util/ArrayDeque", "head", "I", (.int (0 : Int32)))]), (eA dr (.object "java/lang/Object") (dq R)), (eO k "java/util/ArrayDeque" [("java/util/ArrayDeque", "elements", "[Ljava/lang/Object;", (.ref dk)), ("java/util/ArrayDeque", "tail", "I", (.int (K.length).toInt32)), ("java/util/ArrayDeque", "head", "I", (.int (0 : Int32)))]), (eA dk (.object "java/lang/Object") (dq K)), (eO ul "java/util/ArrayList" [("java/util/AbstractList", "modCount", "I", (.int mu)), ("java/util/ArrayList", "elementData", "[Ljava/lang/Object;", (.ref du)), ("java/util/ArrayList", "size", "I", (.int (us.length).toInt32))])] ++ F) cl dc mc lr i xs.length vs x ⟨hi, by omega⟩ (List.mem_append_right _ hA) hvl hvi) (by decide) (by decide) (pc := 20) (Ls := #[vR u0, vR cl, vR ul, .val tv, vR bi1, w0]) (argsL := []) (rest := []) (by rw [hml]; rfl) (lenOf pd_ocLjava_lang_Object_ rfl) rfl (Nat.le_of_eq rfl) (hb hby d16_20) (by decide) (by decide)
      replace H9 : OHere p l e _ s m _ below meth c Z n0 0 T9 1 4 ([(eO bi1 "java/util/ArrayList$Itr" [("java/util/ArrayList$Itr", "this$0", "Ljava/util/ArrayList;", (.ref cl)), ("java/util/ArrayList$Itr", "lastRet", "I", (.int (i).toInt32)), ("java/util/ArrayList$Itr", "expectedModCount", "I", (.int mc)), ("java/util/ArrayList$Itr", "cursor", "I", (.int (i + 1).toInt32))]), (eO cl "java/util/ArrayList" [("java/util/AbstractList", "modCount", "I", (.int mc)), ("java/util/ArrayList", "elementData", "[Ljava/lang/Object;", (.ref dc)), ("java/util/ArrayList", "size", "I", (.int (xs.length).toInt32))]), (eO u0 "com/example/deadletter/deadletter/worker/WaitingJobs" [("com/example/deadletter/deadletter/worker/WaitingJobs", "ready", "Ljava/util/Deque;", (.ref r)), ("com/example/deadletter/deadletter/worker/WaitingJobs", "toCount", "Ljava/util/Deque;", (.ref k)), ("com/example/deadletter/deadletter/worker/WaitingJobs", "takenOver", "Lcom/example/deadletter/deadletter/job/Job;", V)]), (eO r "java/util/ArrayDeque" [("java/util/ArrayDeque", "elements", "[Ljava/lang/Object;", (.ref dr)), ("java/util/ArrayDeque", "tail", "I", (.int (R.length).toInt32)), ("java/util/ArrayDeque", "head", "I", (.int (0 : Int32)))]), (eA dr (.object "java/lang/Object") (dq R)), (eO k "java/util/ArrayDeque" [("java/util/ArrayDeque", "elements", "[Ljava/lang/Object;", (.ref dk)), ("java/util/ArrayDeque", "tail", "I", (.int (K.length).toInt32)), ("java/util/ArrayDeque", "head", "I", (.int (0 : Int32)))]), (eA dk (.object "java/lang/Object") (dq K)), (eO ul "java/util/ArrayList" [("java/util/AbstractList", "modCount", "I", (.int mu)), ("java/util/ArrayList", "elementData", "[Ljava/lang/Object;", (.ref du)), ("java/util/ArrayList", "size", "I", (.int (us.length).toInt32))])] ++ F) := H9
      refine OEnds.pre (fun t_ k_ => st9 _ k_) ?_
      show OEnds p e below s _ _ _ (T9.setTop (mkF m 25 #[vR u0, vR cl, vR ul, .val tv, vR bi1, w0] [(.ref x)]))
      obtain ⟨T10, H10, st10⟩ := OHere.cast H9 hx hZ (q := _) (fs := fx) (pc := 25) (Ls := #[vR u0, vR cl, vR ul, .val tv, vR bi1, w0]) (rest := []) hown (tWd hw 208 rfl) (memAt hxF).choose_spec (hb hby d16_25)
      replace H10 : OHere p l e _ s m _ below meth c Z n0 0 T10 1 4 ([(eO bi1 "java/util/ArrayList$Itr" [("java/util/ArrayList$Itr", "this$0", "Ljava/util/ArrayList;", (.ref cl)), ("java/util/ArrayList$Itr", "lastRet", "I", (.int (i).toInt32)), ("java/util/ArrayList$Itr", "expectedModCount", "I", (.int mc)), ("java/util/ArrayList$Itr", "cursor", "I", (.int (i + 1).toInt32))]), (eO cl "java/util/ArrayList" [("java/util/AbstractList", "modCount", "I", (.int mc)), ("java/util/ArrayList", "elementData", "[Ljava/lang/Object;", (.ref dc)), ("java/util/ArrayList", "size", "I", (.int (xs.length).toInt32))]), (eO u0 "com/example/deadletter/deadletter/worker/WaitingJobs" [("com/example/deadletter/deadletter/worker/WaitingJobs", "ready", "Ljava/util/Deque;", (.ref r)), ("com/example/deadletter/deadletter/worker/WaitingJobs", "toCount", "Ljava/util/Deque;", (.ref k)), ("com/example/deadletter/deadletter/worker/WaitingJobs", "takenOver", "Lcom/example/deadletter/deadletter/job/Job;", V)]), (eO r "java/util/ArrayDeque" [("java/util/ArrayDeque", "elements", "[Ljava/lang/Object;", (.ref dr)), ("java/util/ArrayDeque", "tail", "I", (.int (R.length).toInt32)), ("java/util/ArrayDeque", "head", "I", (.int (0 : Int32)))]), (eA dr (.object "java/lang/Object") (dq R)), (eO k "java/util/ArrayDeque" [("java/util/ArrayDeque", "elements", "[Ljava/lang/Object;", (.ref dk)), ("java/util/ArrayDeque", "tail", "I", (.int (K.length).toInt32)), ("java/util/ArrayDeque", "head", "I", (.int (0 : Int32)))]), (eA dk (.object "java/lang/Object") (dq K)), (eO ul "java/util/ArrayList" [("java/util/AbstractList", "modCount", "I", (.int mu)), ("java/util/ArrayList", "elementData", "[Ljava/lang/Object;", (.ref du)), ("java/util/ArrayList", "size", "I", (.int (us.length).toInt32))])] ++ F) := H10
      refine OEnds.pre (fun t_ k_ => st10 _ k_) ?_
      show OEnds p e below s _ _ _ (T10.setTop (mkF m 28 #[vR u0, vR cl, vR ul, .val tv, vR bi1, w0] [(.ref x)]))
      refine OEnds.pre (fun t_ k_ => XS.astore H10.here hx rfl (hb hby d16_28) rfl rfl (l' := #[vR u0, vR cl, vR ul, .val tv, vR bi1, vR x]) (st5 hw0) k_) ?_
      show OEnds p e below s _ _ _ (T10.setTop (mkF m 30 #[vR u0, vR cl, vR ul, .val tv, vR bi1, vR x] []))
      refine OEnds.pre (fun t_ k_ => XS.aload H10.here hx rfl (hb hby d16_30) rfl rfl k_) ?_
      show OEnds p e below s _ _ _ (T10.setTop (mkF m 32 #[vR u0, vR cl, vR ul, .val tv, vR bi1, vR x] [(.ref x)]))
      refine OEnds.pre (fun t_ k_ => XS.aloadN H10.here hx rfl (hb hby d16_32) rfl htv k_) ?_
      show OEnds p e below s _ _ _ (T10.setTop (mkF m 33 #[vR u0, vR cl, vR ul, .val tv, vR bi1, vR x] [tv, (.ref x)]))
      by_cases c1 : ((.ref x) : Value) = tv
      · refine OEnds.pre (fun t_ k_ => XT.acmpNo H10.here hx rfl (hb hby d16_33) rfl rfl htv (XT.aa_ne_f c1) k_) ?_
        show OEnds p e below s _ _ _ (T10.setTop (mkF m 36 #[vR u0, vR cl, vR ul, .val tv, vR bi1, vR x] []))
        refine OEnds.pre (fun t_ k_ => XS.aloadN H10.here hx rfl (hb hby d16_36) rfl rfl k_) ?_
        show OEnds p e below s _ _ _ (T10.setTop (mkF m 37 #[vR u0, vR cl, vR ul, .val tv, vR bi1, vR x] [(.ref u0)]))
        refine OEnds.pre (fun t_ k_ => XS.aload H10.here hx rfl (hb hby d16_37) rfl rfl k_) ?_
        show OEnds p e below s _ _ _ (T10.setTop (mkF m 39 #[vR u0, vR cl, vR ul, .val tv, vR bi1, vR x] [(.ref x), (.ref u0)]))
        obtain ⟨T11, H11, st11⟩ := OHere.putfield H10 hx hZ (O := "com/example/deadletter/deadletter/worker/WaitingJobs") (q := 2) (f := 2) (v := (.ref x)) (C := "com/example/deadletter/deadletter/worker/WaitingJobs") (ty := (.object "com/example/deadletter/deadletter/job/Job")) (pc := 39) (Ls := #[vR u0, vR cl, vR ul, .val tv, vR bi1, vR x]) (rest := []) hown (tWd hw 130 rfl) Via.refl (fs := [("com/example/deadletter/deadletter/worker/WaitingJobs", "ready", "Ljava/util/Deque;", (.ref r)), ("com/example/deadletter/deadletter/worker/WaitingJobs", "toCount", "Ljava/util/Deque;", (.ref k)), ("com/example/deadletter/deadletter/worker/WaitingJobs", "takenOver", "Lcom/example/deadletter/deadletter/job/Job;", V)]) rfl rfl (Or.inl (tWd hw 131 rfl)) (tWd hw 88 rfl) (by decide) rfl rfl (hb hby d16_39)
        replace H11 : OHere p l e _ s m _ below meth c Z n0 0 T11 1 4 ([(eO bi1 "java/util/ArrayList$Itr" [("java/util/ArrayList$Itr", "this$0", "Ljava/util/ArrayList;", (.ref cl)), ("java/util/ArrayList$Itr", "lastRet", "I", (.int (i).toInt32)), ("java/util/ArrayList$Itr", "expectedModCount", "I", (.int mc)), ("java/util/ArrayList$Itr", "cursor", "I", (.int (i + 1).toInt32))]), (eO cl "java/util/ArrayList" [("java/util/AbstractList", "modCount", "I", (.int mc)), ("java/util/ArrayList", "elementData", "[Ljava/lang/Object;", (.ref dc)), ("java/util/ArrayList", "size", "I", (.int (xs.length).toInt32))]), (eO u0 "com/example/deadletter/deadletter/worker/WaitingJobs" [("com/example/deadletter/deadletter/worker/WaitingJobs", "ready", "Ljava/util/Deque;", (.ref r)), ("com/example/deadletter/deadletter/worker/WaitingJobs", "toCount", "Ljava/util/Deque;", (.ref k)), ("com/example/deadletter/deadletter/worker/WaitingJobs", "takenOver", "Lcom/example/deadletter/deadletter/job/Job;", (.ref x))]), (eO r "java/util/ArrayDeque" [("java/util/ArrayDeque", "elements", "[Ljava/lang/Object;", (.ref dr)), ("java/util/ArrayDeque", "tail", "I", (.int (R.length).toInt32)), ("java/util/ArrayDeque", "head", "I", (.int (0 : Int32)))]), (eA dr (.object "java/lang/Object") (dq R)), (eO k "java/util/ArrayDeque" [("java/util/ArrayDeque", "elements", "[Ljava/lang/Object;", (.ref dk)), ("java/util/ArrayDeque", "tail", "I", (.int (K.length).toInt32)), ("java/util/ArrayDeque", "head", "I", (.int (0 : Int32)))]), (eA dk (.object "java/lang/Object") (dq K)), (eO ul "java/util/ArrayList" [("java/util/AbstractList", "modCount", "I", (.int mu)), ("java/util/ArrayList", "elementData", "[Ljava/lang/Object;", (.ref du)), ("java/util/ArrayList", "size", "I", (.int (us.length).toInt32))])] ++ F) := H11
        refine OEnds.pre (fun t_ k_ => st11 _ k_) ?_
        show OEnds p e below s _ _ _ (T11.setTop (mkF m 42 #[vR u0, vR cl, vR ul, .val tv, vR bi1, vR x] []))
        refine OEnds.pre (fun t_ k_ => XS.goto H11.here hx rfl (pc0 := 42) (pc' := 83) rfl (hb hby d16_42) (by decide) (by decide) k_) ?_
        show OEnds p e below s _ _ _ (T11.setTop (mkF m 83 #[vR u0, vR cl, vR ul, .val tv, vR bi1, vR x] []))
        refine OEnds.pre (fun t_ k_ => XS.goto H11.here hx rfl (pc0 := 83) (pc' := 8) rfl (hb hby d16_83) (by decide) (by decide) k_) ?_
        show OEnds p e below s _ _ _ (T11.setTop (mkF m 8 #[vR u0, vR cl, vR ul, .val tv, vR bi1, vR x] []))
        have Hq12 : OHere p l e _ s m _ below meth c Z n0 0 T11 1 4 ([(eO bi1 "java/util/ArrayList$Itr" [("java/util/ArrayList$Itr", "this$0", "Ljava/util/ArrayList;", (.ref cl)), ("java/util/ArrayList$Itr", "lastRet", "I", (.int (i).toInt32)), ("java/util/ArrayList$Itr", "expectedModCount", "I", (.int mc)), ("java/util/ArrayList$Itr", "cursor", "I", (.int (i + 1).toInt32))]), (eO u0 "com/example/deadletter/deadletter/worker/WaitingJobs" [("com/example/deadletter/deadletter/worker/WaitingJobs", "ready", "Ljava/util/Deque;", (.ref r)), ("com/example/deadletter/deadletter/worker/WaitingJobs", "toCount", "Ljava/util/Deque;", (.ref k)), ("com/example/deadletter/deadletter/worker/WaitingJobs", "takenOver", "Lcom/example/deadletter/deadletter/job/Job;", (.ref x))]), (eO r "java/util/ArrayDeque" [("java/util/ArrayDeque", "elements", "[Ljava/lang/Object;", (.ref dr)), ("java/util/ArrayDeque", "tail", "I", (.int (R.length).toInt32)), ("java/util/ArrayDeque", "head", "I", (.int (0 : Int32)))]), (eA dr (.object "java/lang/Object") (dq R)), (eO k "java/util/ArrayDeque" [("java/util/ArrayDeque", "elements", "[Ljava/lang/Object;", (.ref dk)), ("java/util/ArrayDeque", "tail", "I", (.int (K.length).toInt32)), ("java/util/ArrayDeque", "head", "I", (.int (0 : Int32)))]), (eA dk (.object "java/lang/Object") (dq K)), (eO cl "java/util/ArrayList" [("java/util/AbstractList", "modCount", "I", (.int mc)), ("java/util/ArrayList", "elementData", "[Ljava/lang/Object;", (.ref dc)), ("java/util/ArrayList", "size", "I", (.int (xs.length).toInt32))]), (eO ul "java/util/ArrayList" [("java/util/AbstractList", "modCount", "I", (.int mu)), ("java/util/ArrayList", "elementData", "[Ljava/lang/Object;", (.ref du)), ("java/util/ArrayList", "size", "I", (.int (us.length).toInt32))])] ++ F) := OHere.pick H11 [0, 2, 3, 4, 5, 6, 1, 7] (by decide) rfl
        exact ih (i + 1) R K (.ref x) _ _ _ (Or.inr ⟨x, rfl⟩) (by rw [List.drop_add_one_eq_tail_drop, hd]; rfl) (by simp at hl; omega) (by first | omega | (simp; omega)) (by first | omega | (simp; omega)) rfl (by rw [← hf]; rw [wj_cons, if_pos c1]) Hq12
      · refine OEnds.pre (fun t_ k_ => XT.acmpYes H10.here hx rfl (pc0 := 33) (pc' := 45) rfl (hb hby d16_33) rfl rfl htv (XT.aa_ne_t c1) (by decide) (by decide) k_) ?_
        show OEnds p e below s _ _ _ (T10.setTop (mkF m 45 #[vR u0, vR cl, vR ul, .val tv, vR bi1, vR x] []))
        refine OEnds.pre (fun t_ k_ => XS.aloadN H10.here hx rfl (hb hby d16_45) rfl rfl k_) ?_
        show OEnds p e below s _ _ _ (T10.setTop (mkF m 46 #[vR u0, vR cl, vR ul, .val tv, vR bi1, vR x] [(.ref ul)]))
        refine OEnds.pre (fun t_ k_ => XS.aload H10.here hx rfl (hb hby d16_46) rfl rfl k_) ?_
        show OEnds p e below s _ _ _ (T10.setTop (mkF m 48 #[vR u0, vR cl, vR ul, .val tv, vR bi1, vR x] [(.ref x), (.ref ul)]))
        have Hp13 : OHere p l e _ s m _ below meth c Z n0 0 T10 1 4 ([(eO ul "java/util/ArrayList" [("java/util/AbstractList", "modCount", "I", (.int mu)), ("java/util/ArrayList", "elementData", "[Ljava/lang/Object;", (.ref du)), ("java/util/ArrayList", "size", "I", (.int (us.length).toInt32))]), (eO bi1 "java/util/ArrayList$Itr" [("java/util/ArrayList$Itr", "this$0", "Ljava/util/ArrayList;", (.ref cl)), ("java/util/ArrayList$Itr", "lastRet", "I", (.int (i).toInt32)), ("java/util/ArrayList$Itr", "expectedModCount", "I", (.int mc)), ("java/util/ArrayList$Itr", "cursor", "I", (.int (i + 1).toInt32))]), (eO cl "java/util/ArrayList" [("java/util/AbstractList", "modCount", "I", (.int mc)), ("java/util/ArrayList", "elementData", "[Ljava/lang/Object;", (.ref dc)), ("java/util/ArrayList", "size", "I", (.int (xs.length).toInt32))]), (eO u0 "com/example/deadletter/deadletter/worker/WaitingJobs" [("com/example/deadletter/deadletter/worker/WaitingJobs", "ready", "Ljava/util/Deque;", (.ref r)), ("com/example/deadletter/deadletter/worker/WaitingJobs", "toCount", "Ljava/util/Deque;", (.ref k)), ("com/example/deadletter/deadletter/worker/WaitingJobs", "takenOver", "Lcom/example/deadletter/deadletter/job/Job;", V)]), (eO r "java/util/ArrayDeque" [("java/util/ArrayDeque", "elements", "[Ljava/lang/Object;", (.ref dr)), ("java/util/ArrayDeque", "tail", "I", (.int (R.length).toInt32)), ("java/util/ArrayDeque", "head", "I", (.int (0 : Int32)))]), (eA dr (.object "java/lang/Object") (dq R)), (eO k "java/util/ArrayDeque" [("java/util/ArrayDeque", "elements", "[Ljava/lang/Object;", (.ref dk)), ("java/util/ArrayDeque", "tail", "I", (.int (K.length).toInt32)), ("java/util/ArrayDeque", "head", "I", (.int (0 : Int32)))]), (eA dk (.object "java/lang/Object") (dq K))] ++ F) := OHere.pick H10 [7, 0, 1, 2, 3, 4, 5, 6] (by decide) rfl
        obtain ⟨T14, _, _, ⟨rfl, rfl⟩, H14, st14⟩ := OHere.face Hp13 hx hZ (y := (⟨"java/util/Collection", "contains", "(Ljava/lang/Object;)Z"⟩ : MethodName)) (z := (⟨"java/util/ArrayList", "contains", "(Ljava/lang/Object;)Z"⟩ : MethodName)) (W := 0) (a := ul) (q := 0) (fs := [("java/util/AbstractList", "modCount", "I", (.int mu)), ("java/util/ArrayList", "elementData", "[Ljava/lang/Object;", (.ref du)), ("java/util/ArrayList", "size", "I", (.int (us.length).toInt32))]) hown (tWd hw 210 rfl) (tWd hw 211 rfl) (tWd hw 212 rfl) rfl (tWd hw 213 rfl) (tWd hw 214 rfl) (tWd hw 215 rfl) (tWd hw 216 rfl) (tWd hw 217 rfl) (tWd hw 34 rfl) (tWd hw 218 rfl) (by decide) rfl (conCo l Z a0 hw n0 [] ul ([(eO bi1 "java/util/ArrayList$Itr" [("java/util/ArrayList$Itr", "this$0", "Ljava/util/ArrayList;", (.ref cl)), ("java/util/ArrayList$Itr", "lastRet", "I", (.int (i).toInt32)), ("java/util/ArrayList$Itr", "expectedModCount", "I", (.int mc)), ("java/util/ArrayList$Itr", "cursor", "I", (.int (i + 1).toInt32))]), (eO cl "java/util/ArrayList" [("java/util/AbstractList", "modCount", "I", (.int mc)), ("java/util/ArrayList", "elementData", "[Ljava/lang/Object;", (.ref dc)), ("java/util/ArrayList", "size", "I", (.int (xs.length).toInt32))]), (eO u0 "com/example/deadletter/deadletter/worker/WaitingJobs" [("com/example/deadletter/deadletter/worker/WaitingJobs", "ready", "Ljava/util/Deque;", (.ref r)), ("com/example/deadletter/deadletter/worker/WaitingJobs", "toCount", "Ljava/util/Deque;", (.ref k)), ("com/example/deadletter/deadletter/worker/WaitingJobs", "takenOver", "Lcom/example/deadletter/deadletter/job/Job;", V)]), (eO r "java/util/ArrayDeque" [("java/util/ArrayDeque", "elements", "[Ljava/lang/Object;", (.ref dr)), ("java/util/ArrayDeque", "tail", "I", (.int (R.length).toInt32)), ("java/util/ArrayDeque", "head", "I", (.int (0 : Int32)))]), (eA dr (.object "java/lang/Object") (dq R)), (eO k "java/util/ArrayDeque" [("java/util/ArrayDeque", "elements", "[Ljava/lang/Object;", (.ref dk)), ("java/util/ArrayDeque", "tail", "I", (.int (K.length).toInt32)), ("java/util/ArrayDeque", "head", "I", (.int (0 : Int32)))]), (eA dk (.object "java/lang/Object") (dq K))] ++ F) x fx (List.mem_append_right _ hxF) du mu us hnu (fun i y q => (hU i y q).imp fun _ h => ⟨List.mem_append_right _ h.1, h.2⟩)) (by decide) (by decide) (pc := 48) (Ls := #[vR u0, vR cl, vR ul, .val tv, vR bi1, vR x]) (argsL := [(.ref x)]) (rest := []) (by rw [hml]; rfl) (lenOf pd_oLjava_lang_Object_cZ rfl) rfl (Nat.le_of_eq rfl) (hb hby d16_48) (by decide) (by decide)
        replace H14 : OHere p l e _ s m _ below meth c Z n0 0 T14 1 4 ([(eO ul "java/util/ArrayList" [("java/util/AbstractList", "modCount", "I", (.int mu)), ("java/util/ArrayList", "elementData", "[Ljava/lang/Object;", (.ref du)), ("java/util/ArrayList", "size", "I", (.int (us.length).toInt32))]), (eO bi1 "java/util/ArrayList$Itr" [("java/util/ArrayList$Itr", "this$0", "Ljava/util/ArrayList;", (.ref cl)), ("java/util/ArrayList$Itr", "lastRet", "I", (.int (i).toInt32)), ("java/util/ArrayList$Itr", "expectedModCount", "I", (.int mc)), ("java/util/ArrayList$Itr", "cursor", "I", (.int (i + 1).toInt32))]), (eO cl "java/util/ArrayList" [("java/util/AbstractList", "modCount", "I", (.int mc)), ("java/util/ArrayList", "elementData", "[Ljava/lang/Object;", (.ref dc)), ("java/util/ArrayList", "size", "I", (.int (xs.length).toInt32))]), (eO u0 "com/example/deadletter/deadletter/worker/WaitingJobs" [("com/example/deadletter/deadletter/worker/WaitingJobs", "ready", "Ljava/util/Deque;", (.ref r)), ("com/example/deadletter/deadletter/worker/WaitingJobs", "toCount", "Ljava/util/Deque;", (.ref k)), ("com/example/deadletter/deadletter/worker/WaitingJobs", "takenOver", "Lcom/example/deadletter/deadletter/job/Job;", V)]), (eO r "java/util/ArrayDeque" [("java/util/ArrayDeque", "elements", "[Ljava/lang/Object;", (.ref dr)), ("java/util/ArrayDeque", "tail", "I", (.int (R.length).toInt32)), ("java/util/ArrayDeque", "head", "I", (.int (0 : Int32)))]), (eA dr (.object "java/lang/Object") (dq R)), (eO k "java/util/ArrayDeque" [("java/util/ArrayDeque", "elements", "[Ljava/lang/Object;", (.ref dk)), ("java/util/ArrayDeque", "tail", "I", (.int (K.length).toInt32)), ("java/util/ArrayDeque", "head", "I", (.int (0 : Int32)))]), (eA dk (.object "java/lang/Object") (dq K))] ++ F) := H14
        refine OEnds.pre (fun t_ k_ => st14 _ k_) ?_
        show OEnds p e below s _ _ _ (T14.setTop (mkF m 53 #[vR u0, vR cl, vR ul, .val tv, vR bi1, vR x] [(.int (if x ∈ us then (1 : Int32) else (0 : Int32)))]))
        by_cases c2 : (if x ∈ us then (1 : Int32) else (0 : Int32)) = (0 : Int32)
        · refine OEnds.pre (fun t_ k_ => XS.ifYes H14.here hx rfl (pc0 := 53) (pc' := 71) rfl (hb hby d16_53) rfl (XT.i0_eq_t c2) (by decide) (by decide) k_) ?_
          show OEnds p e below s _ _ _ (T14.setTop (mkF m 71 #[vR u0, vR cl, vR ul, .val tv, vR bi1, vR x] []))
          refine OEnds.pre (fun t_ k_ => XS.aloadN H14.here hx rfl (hb hby d16_71) rfl rfl k_) ?_
          show OEnds p e below s _ _ _ (T14.setTop (mkF m 72 #[vR u0, vR cl, vR ul, .val tv, vR bi1, vR x] [(.ref u0)]))
          obtain ⟨T15, H15, st15⟩ := OHere.getfield H14 hx hZ (O := "com/example/deadletter/deadletter/worker/WaitingJobs") (q := 3) (f := 0) (v := (.ref r)) (fs := [("com/example/deadletter/deadletter/worker/WaitingJobs", "ready", "Ljava/util/Deque;", (.ref r)), ("com/example/deadletter/deadletter/worker/WaitingJobs", "toCount", "Ljava/util/Deque;", (.ref k)), ("com/example/deadletter/deadletter/worker/WaitingJobs", "takenOver", "Lcom/example/deadletter/deadletter/job/Job;", V)]) (C := "com/example/deadletter/deadletter/worker/WaitingJobs") (pc := 72) (Ls := #[vR u0, vR cl, vR ul, .val tv, vR bi1, vR x]) (rest := []) hown (tWd hw 105 rfl) Via.refl rfl rfl (hb hby d16_72)
          replace H15 : OHere p l e _ s m _ below meth c Z n0 0 T15 1 4 ([(eO ul "java/util/ArrayList" [("java/util/AbstractList", "modCount", "I", (.int mu)), ("java/util/ArrayList", "elementData", "[Ljava/lang/Object;", (.ref du)), ("java/util/ArrayList", "size", "I", (.int (us.length).toInt32))]), (eO bi1 "java/util/ArrayList$Itr" [("java/util/ArrayList$Itr", "this$0", "Ljava/util/ArrayList;", (.ref cl)), ("java/util/ArrayList$Itr", "lastRet", "I", (.int (i).toInt32)), ("java/util/ArrayList$Itr", "expectedModCount", "I", (.int mc)), ("java/util/ArrayList$Itr", "cursor", "I", (.int (i + 1).toInt32))]), (eO cl "java/util/ArrayList" [("java/util/AbstractList", "modCount", "I", (.int mc)), ("java/util/ArrayList", "elementData", "[Ljava/lang/Object;", (.ref dc)), ("java/util/ArrayList", "size", "I", (.int (xs.length).toInt32))]), (eO u0 "com/example/deadletter/deadletter/worker/WaitingJobs" [("com/example/deadletter/deadletter/worker/WaitingJobs", "ready", "Ljava/util/Deque;", (.ref r)), ("com/example/deadletter/deadletter/worker/WaitingJobs", "toCount", "Ljava/util/Deque;", (.ref k)), ("com/example/deadletter/deadletter/worker/WaitingJobs", "takenOver", "Lcom/example/deadletter/deadletter/job/Job;", V)]), (eO r "java/util/ArrayDeque" [("java/util/ArrayDeque", "elements", "[Ljava/lang/Object;", (.ref dr)), ("java/util/ArrayDeque", "tail", "I", (.int (R.length).toInt32)), ("java/util/ArrayDeque", "head", "I", (.int (0 : Int32)))]), (eA dr (.object "java/lang/Object") (dq R)), (eO k "java/util/ArrayDeque" [("java/util/ArrayDeque", "elements", "[Ljava/lang/Object;", (.ref dk)), ("java/util/ArrayDeque", "tail", "I", (.int (K.length).toInt32)), ("java/util/ArrayDeque", "head", "I", (.int (0 : Int32)))]), (eA dk (.object "java/lang/Object") (dq K))] ++ F) := H15
          refine OEnds.pre (fun t_ k_ => st15 _ k_) ?_
          show OEnds p e below s _ _ _ (T15.setTop (mkF m 75 #[vR u0, vR cl, vR ul, .val tv, vR bi1, vR x] [(.ref r)]))
          refine OEnds.pre (fun t_ k_ => XS.aload H15.here hx rfl (hb hby d16_75) rfl rfl k_) ?_
          show OEnds p e below s _ _ _ (T15.setTop (mkF m 77 #[vR u0, vR cl, vR ul, .val tv, vR bi1, vR x] [(.ref x), (.ref r)]))
          have Hp16 : OHere p l e _ s m _ below meth c Z n0 0 T15 1 4 ([(eO r "java/util/ArrayDeque" [("java/util/ArrayDeque", "elements", "[Ljava/lang/Object;", (.ref dr)), ("java/util/ArrayDeque", "tail", "I", (.int (R.length).toInt32)), ("java/util/ArrayDeque", "head", "I", (.int (0 : Int32)))]), (eA dr (.object "java/lang/Object") (dq R)), (eO ul "java/util/ArrayList" [("java/util/AbstractList", "modCount", "I", (.int mu)), ("java/util/ArrayList", "elementData", "[Ljava/lang/Object;", (.ref du)), ("java/util/ArrayList", "size", "I", (.int (us.length).toInt32))]), (eO bi1 "java/util/ArrayList$Itr" [("java/util/ArrayList$Itr", "this$0", "Ljava/util/ArrayList;", (.ref cl)), ("java/util/ArrayList$Itr", "lastRet", "I", (.int (i).toInt32)), ("java/util/ArrayList$Itr", "expectedModCount", "I", (.int mc)), ("java/util/ArrayList$Itr", "cursor", "I", (.int (i + 1).toInt32))]), (eO cl "java/util/ArrayList" [("java/util/AbstractList", "modCount", "I", (.int mc)), ("java/util/ArrayList", "elementData", "[Ljava/lang/Object;", (.ref dc)), ("java/util/ArrayList", "size", "I", (.int (xs.length).toInt32))]), (eO u0 "com/example/deadletter/deadletter/worker/WaitingJobs" [("com/example/deadletter/deadletter/worker/WaitingJobs", "ready", "Ljava/util/Deque;", (.ref r)), ("com/example/deadletter/deadletter/worker/WaitingJobs", "toCount", "Ljava/util/Deque;", (.ref k)), ("com/example/deadletter/deadletter/worker/WaitingJobs", "takenOver", "Lcom/example/deadletter/deadletter/job/Job;", V)]), (eO k "java/util/ArrayDeque" [("java/util/ArrayDeque", "elements", "[Ljava/lang/Object;", (.ref dk)), ("java/util/ArrayDeque", "tail", "I", (.int (K.length).toInt32)), ("java/util/ArrayDeque", "head", "I", (.int (0 : Int32)))]), (eA dk (.object "java/lang/Object") (dq K))] ++ F) := OHere.pick H15 [4, 5, 0, 1, 2, 3, 6, 7] (by decide) rfl
          obtain ⟨T17, _, _, ⟨rfl, rfl⟩, H17, st17⟩ := OHere.face Hp16 hx hZ (y := (⟨"java/util/Deque", "add", "(Ljava/lang/Object;)Z"⟩ : MethodName)) (z := (⟨"java/util/ArrayDeque", "add", "(Ljava/lang/Object;)Z"⟩ : MethodName)) (W := 0) (a := r) (q := 0) (fs := [("java/util/ArrayDeque", "elements", "[Ljava/lang/Object;", (.ref dr)), ("java/util/ArrayDeque", "tail", "I", (.int (R.length).toInt32)), ("java/util/ArrayDeque", "head", "I", (.int (0 : Int32)))]) hown (tWd hw 234 rfl) (tWd hw 235 rfl) (tWd hw 236 rfl) rfl (tWd hw 237 rfl) (tWd hw 238 rfl) (tWd hw 239 rfl) (tWd hw 240 rfl) (tWd hw 121 rfl) (tWd hw 96 rfl) (tWd hw 241 rfl) (by decide) rfl (conADa l Z a0 hw n0 [] r ([(eO ul "java/util/ArrayList" [("java/util/AbstractList", "modCount", "I", (.int mu)), ("java/util/ArrayList", "elementData", "[Ljava/lang/Object;", (.ref du)), ("java/util/ArrayList", "size", "I", (.int (us.length).toInt32))]), (eO bi1 "java/util/ArrayList$Itr" [("java/util/ArrayList$Itr", "this$0", "Ljava/util/ArrayList;", (.ref cl)), ("java/util/ArrayList$Itr", "lastRet", "I", (.int (i).toInt32)), ("java/util/ArrayList$Itr", "expectedModCount", "I", (.int mc)), ("java/util/ArrayList$Itr", "cursor", "I", (.int (i + 1).toInt32))]), (eO cl "java/util/ArrayList" [("java/util/AbstractList", "modCount", "I", (.int mc)), ("java/util/ArrayList", "elementData", "[Ljava/lang/Object;", (.ref dc)), ("java/util/ArrayList", "size", "I", (.int (xs.length).toInt32))]), (eO u0 "com/example/deadletter/deadletter/worker/WaitingJobs" [("com/example/deadletter/deadletter/worker/WaitingJobs", "ready", "Ljava/util/Deque;", (.ref r)), ("com/example/deadletter/deadletter/worker/WaitingJobs", "toCount", "Ljava/util/Deque;", (.ref k)), ("com/example/deadletter/deadletter/worker/WaitingJobs", "takenOver", "Lcom/example/deadletter/deadletter/job/Job;", V)]), (eO k "java/util/ArrayDeque" [("java/util/ArrayDeque", "elements", "[Ljava/lang/Object;", (.ref dk)), ("java/util/ArrayDeque", "tail", "I", (.int (K.length).toInt32)), ("java/util/ArrayDeque", "head", "I", (.int (0 : Int32)))]), (eA dk (.object "java/lang/Object") (dq K))] ++ F) x fx (List.mem_append_right _ hxF) dr (dq R) R.length (dq_len (by omega)) (by omega)) (by decide) (by decide) (pc := 77) (Ls := #[vR u0, vR cl, vR ul, .val tv, vR bi1, vR x]) (argsL := [(.ref x)]) (rest := []) (by rw [hml]; rfl) (lenOf pd_oLjava_lang_Object_cZ rfl) rfl (Nat.le_of_eq rfl) (hb hby d16_77) (by decide) (by decide)
          replace H17 : OHere p l e _ s m _ below meth c Z n0 0 T17 1 4 ([(eO r "java/util/ArrayDeque" [("java/util/ArrayDeque", "elements", "[Ljava/lang/Object;", (.ref dr)), ("java/util/ArrayDeque", "tail", "I", (.int (R.length + 1).toInt32)), ("java/util/ArrayDeque", "head", "I", (.int (0 : Int32)))]), (eA dr (.object "java/lang/Object") ((dq R).set R.length (.ref x))), (eO ul "java/util/ArrayList" [("java/util/AbstractList", "modCount", "I", (.int mu)), ("java/util/ArrayList", "elementData", "[Ljava/lang/Object;", (.ref du)), ("java/util/ArrayList", "size", "I", (.int (us.length).toInt32))]), (eO bi1 "java/util/ArrayList$Itr" [("java/util/ArrayList$Itr", "this$0", "Ljava/util/ArrayList;", (.ref cl)), ("java/util/ArrayList$Itr", "lastRet", "I", (.int (i).toInt32)), ("java/util/ArrayList$Itr", "expectedModCount", "I", (.int mc)), ("java/util/ArrayList$Itr", "cursor", "I", (.int (i + 1).toInt32))]), (eO cl "java/util/ArrayList" [("java/util/AbstractList", "modCount", "I", (.int mc)), ("java/util/ArrayList", "elementData", "[Ljava/lang/Object;", (.ref dc)), ("java/util/ArrayList", "size", "I", (.int (xs.length).toInt32))]), (eO u0 "com/example/deadletter/deadletter/worker/WaitingJobs" [("com/example/deadletter/deadletter/worker/WaitingJobs", "ready", "Ljava/util/Deque;", (.ref r)), ("com/example/deadletter/deadletter/worker/WaitingJobs", "toCount", "Ljava/util/Deque;", (.ref k)), ("com/example/deadletter/deadletter/worker/WaitingJobs", "takenOver", "Lcom/example/deadletter/deadletter/job/Job;", V)]), (eO k "java/util/ArrayDeque" [("java/util/ArrayDeque", "elements", "[Ljava/lang/Object;", (.ref dk)), ("java/util/ArrayDeque", "tail", "I", (.int (K.length).toInt32)), ("java/util/ArrayDeque", "head", "I", (.int (0 : Int32)))]), (eA dk (.object "java/lang/Object") (dq K))] ++ F) := H17
          refine OEnds.pre (fun t_ k_ => st17 _ k_) ?_
          show OEnds p e below s _ _ _ (T17.setTop (mkF m 82 #[vR u0, vR cl, vR ul, .val tv, vR bi1, vR x] [(.int (1 : Int32))]))
          refine OEnds.pre (fun t_ k_ => XT.pop H17.here hx rfl (hb hby d16_82) rfl rfl k_) ?_
          show OEnds p e below s _ _ _ (T17.setTop (mkF m 83 #[vR u0, vR cl, vR ul, .val tv, vR bi1, vR x] []))
          refine OEnds.pre (fun t_ k_ => XS.goto H17.here hx rfl (pc0 := 83) (pc' := 8) rfl (hb hby d16_83) (by decide) (by decide) k_) ?_
          show OEnds p e below s _ _ _ (T17.setTop (mkF m 8 #[vR u0, vR cl, vR ul, .val tv, vR bi1, vR x] []))
          have Hq18 : OHere p l e _ s m _ below meth c Z n0 0 T17 1 4 ([(eO bi1 "java/util/ArrayList$Itr" [("java/util/ArrayList$Itr", "this$0", "Ljava/util/ArrayList;", (.ref cl)), ("java/util/ArrayList$Itr", "lastRet", "I", (.int (i).toInt32)), ("java/util/ArrayList$Itr", "expectedModCount", "I", (.int mc)), ("java/util/ArrayList$Itr", "cursor", "I", (.int (i + 1).toInt32))]), (eO u0 "com/example/deadletter/deadletter/worker/WaitingJobs" [("com/example/deadletter/deadletter/worker/WaitingJobs", "ready", "Ljava/util/Deque;", (.ref r)), ("com/example/deadletter/deadletter/worker/WaitingJobs", "toCount", "Ljava/util/Deque;", (.ref k)), ("com/example/deadletter/deadletter/worker/WaitingJobs", "takenOver", "Lcom/example/deadletter/deadletter/job/Job;", V)]), (eO r "java/util/ArrayDeque" [("java/util/ArrayDeque", "elements", "[Ljava/lang/Object;", (.ref dr)), ("java/util/ArrayDeque", "tail", "I", (.int (R.length + 1).toInt32)), ("java/util/ArrayDeque", "head", "I", (.int (0 : Int32)))]), (eA dr (.object "java/lang/Object") ((dq R).set R.length (.ref x))), (eO k "java/util/ArrayDeque" [("java/util/ArrayDeque", "elements", "[Ljava/lang/Object;", (.ref dk)), ("java/util/ArrayDeque", "tail", "I", (.int (K.length).toInt32)), ("java/util/ArrayDeque", "head", "I", (.int (0 : Int32)))]), (eA dk (.object "java/lang/Object") (dq K)), (eO cl "java/util/ArrayList" [("java/util/AbstractList", "modCount", "I", (.int mc)), ("java/util/ArrayList", "elementData", "[Ljava/lang/Object;", (.ref dc)), ("java/util/ArrayList", "size", "I", (.int (xs.length).toInt32))]), (eO ul "java/util/ArrayList" [("java/util/AbstractList", "modCount", "I", (.int mu)), ("java/util/ArrayList", "elementData", "[Ljava/lang/Object;", (.ref du)), ("java/util/ArrayList", "size", "I", (.int (us.length).toInt32))])] ++ F) := OHere.pick H17 [3, 5, 0, 1, 6, 7, 4, 2] (by decide) rfl
          rw [dq_set x (by omega), show R.length + 1 = (R ++ [x]).length from by simp] at Hq18
          exact ih (i + 1) (R ++ [x]) K V _ _ _ (Or.inr ⟨x, rfl⟩) (by rw [List.drop_add_one_eq_tail_drop, hd]; rfl) (by simp at hl; omega) (by first | omega | (simp; omega)) (by first | omega | (simp; omega)) hVr (by rw [← hf]; rw [wj_cons, if_neg c1, if_neg (fun q => absurd ((if_pos q).symm.trans c2) (by decide))]) Hq18
        · refine OEnds.pre (fun t_ k_ => XS.ifNo H14.here hx rfl (hb hby d16_53) rfl (XT.i0_eq_f c2) k_) ?_
          show OEnds p e below s _ _ _ (T14.setTop (mkF m 56 #[vR u0, vR cl, vR ul, .val tv, vR bi1, vR x] []))
          refine OEnds.pre (fun t_ k_ => XS.aloadN H14.here hx rfl (hb hby d16_56) rfl rfl k_) ?_
          show OEnds p e below s _ _ _ (T14.setTop (mkF m 57 #[vR u0, vR cl, vR ul, .val tv, vR bi1, vR x] [(.ref u0)]))
          obtain ⟨T19, H19, st19⟩ := OHere.getfield H14 hx hZ (O := "com/example/deadletter/deadletter/worker/WaitingJobs") (q := 3) (f := 1) (v := (.ref k)) (fs := [("com/example/deadletter/deadletter/worker/WaitingJobs", "ready", "Ljava/util/Deque;", (.ref r)), ("com/example/deadletter/deadletter/worker/WaitingJobs", "toCount", "Ljava/util/Deque;", (.ref k)), ("com/example/deadletter/deadletter/worker/WaitingJobs", "takenOver", "Lcom/example/deadletter/deadletter/job/Job;", V)]) (C := "com/example/deadletter/deadletter/worker/WaitingJobs") (pc := 57) (Ls := #[vR u0, vR cl, vR ul, .val tv, vR bi1, vR x]) (rest := []) hown (tWd hw 107 rfl) Via.refl rfl rfl (hb hby d16_57)
          replace H19 : OHere p l e _ s m _ below meth c Z n0 0 T19 1 4 ([(eO ul "java/util/ArrayList" [("java/util/AbstractList", "modCount", "I", (.int mu)), ("java/util/ArrayList", "elementData", "[Ljava/lang/Object;", (.ref du)), ("java/util/ArrayList", "size", "I", (.int (us.length).toInt32))]), (eO bi1 "java/util/ArrayList$Itr" [("java/util/ArrayList$Itr", "this$0", "Ljava/util/ArrayList;", (.ref cl)), ("java/util/ArrayList$Itr", "lastRet", "I", (.int (i).toInt32)), ("java/util/ArrayList$Itr", "expectedModCount", "I", (.int mc)), ("java/util/ArrayList$Itr", "cursor", "I", (.int (i + 1).toInt32))]), (eO cl "java/util/ArrayList" [("java/util/AbstractList", "modCount", "I", (.int mc)), ("java/util/ArrayList", "elementData", "[Ljava/lang/Object;", (.ref dc)), ("java/util/ArrayList", "size", "I", (.int (xs.length).toInt32))]), (eO u0 "com/example/deadletter/deadletter/worker/WaitingJobs" [("com/example/deadletter/deadletter/worker/WaitingJobs", "ready", "Ljava/util/Deque;", (.ref r)), ("com/example/deadletter/deadletter/worker/WaitingJobs", "toCount", "Ljava/util/Deque;", (.ref k)), ("com/example/deadletter/deadletter/worker/WaitingJobs", "takenOver", "Lcom/example/deadletter/deadletter/job/Job;", V)]), (eO r "java/util/ArrayDeque" [("java/util/ArrayDeque", "elements", "[Ljava/lang/Object;", (.ref dr)), ("java/util/ArrayDeque", "tail", "I", (.int (R.length).toInt32)), ("java/util/ArrayDeque", "head", "I", (.int (0 : Int32)))]), (eA dr (.object "java/lang/Object") (dq R)), (eO k "java/util/ArrayDeque" [("java/util/ArrayDeque", "elements", "[Ljava/lang/Object;", (.ref dk)), ("java/util/ArrayDeque", "tail", "I", (.int (K.length).toInt32)), ("java/util/ArrayDeque", "head", "I", (.int (0 : Int32)))]), (eA dk (.object "java/lang/Object") (dq K))] ++ F) := H19
          refine OEnds.pre (fun t_ k_ => st19 _ k_) ?_
          show OEnds p e below s _ _ _ (T19.setTop (mkF m 60 #[vR u0, vR cl, vR ul, .val tv, vR bi1, vR x] [(.ref k)]))
          refine OEnds.pre (fun t_ k_ => XS.aload H19.here hx rfl (hb hby d16_60) rfl rfl k_) ?_
          show OEnds p e below s _ _ _ (T19.setTop (mkF m 62 #[vR u0, vR cl, vR ul, .val tv, vR bi1, vR x] [(.ref x), (.ref k)]))
          have Hp20 : OHere p l e _ s m _ below meth c Z n0 0 T19 1 4 ([(eO k "java/util/ArrayDeque" [("java/util/ArrayDeque", "elements", "[Ljava/lang/Object;", (.ref dk)), ("java/util/ArrayDeque", "tail", "I", (.int (K.length).toInt32)), ("java/util/ArrayDeque", "head", "I", (.int (0 : Int32)))]), (eA dk (.object "java/lang/Object") (dq K)), (eO ul "java/util/ArrayList" [("java/util/AbstractList", "modCount", "I", (.int mu)), ("java/util/ArrayList", "elementData", "[Ljava/lang/Object;", (.ref du)), ("java/util/ArrayList", "size", "I", (.int (us.length).toInt32))]), (eO bi1 "java/util/ArrayList$Itr" [("java/util/ArrayList$Itr", "this$0", "Ljava/util/ArrayList;", (.ref cl)), ("java/util/ArrayList$Itr", "lastRet", "I", (.int (i).toInt32)), ("java/util/ArrayList$Itr", "expectedModCount", "I", (.int mc)), ("java/util/ArrayList$Itr", "cursor", "I", (.int (i + 1).toInt32))]), (eO cl "java/util/ArrayList" [("java/util/AbstractList", "modCount", "I", (.int mc)), ("java/util/ArrayList", "elementData", "[Ljava/lang/Object;", (.ref dc)), ("java/util/ArrayList", "size", "I", (.int (xs.length).toInt32))]), (eO u0 "com/example/deadletter/deadletter/worker/WaitingJobs" [("com/example/deadletter/deadletter/worker/WaitingJobs", "ready", "Ljava/util/Deque;", (.ref r)), ("com/example/deadletter/deadletter/worker/WaitingJobs", "toCount", "Ljava/util/Deque;", (.ref k)), ("com/example/deadletter/deadletter/worker/WaitingJobs", "takenOver", "Lcom/example/deadletter/deadletter/job/Job;", V)]), (eO r "java/util/ArrayDeque" [("java/util/ArrayDeque", "elements", "[Ljava/lang/Object;", (.ref dr)), ("java/util/ArrayDeque", "tail", "I", (.int (R.length).toInt32)), ("java/util/ArrayDeque", "head", "I", (.int (0 : Int32)))]), (eA dr (.object "java/lang/Object") (dq R))] ++ F) := OHere.pick H19 [6, 7, 0, 1, 2, 3, 4, 5] (by decide) rfl
          obtain ⟨T21, _, _, ⟨rfl, rfl⟩, H21, st21⟩ := OHere.face Hp20 hx hZ (y := (⟨"java/util/Deque", "add", "(Ljava/lang/Object;)Z"⟩ : MethodName)) (z := (⟨"java/util/ArrayDeque", "add", "(Ljava/lang/Object;)Z"⟩ : MethodName)) (W := 0) (a := k) (q := 0) (fs := [("java/util/ArrayDeque", "elements", "[Ljava/lang/Object;", (.ref dk)), ("java/util/ArrayDeque", "tail", "I", (.int (K.length).toInt32)), ("java/util/ArrayDeque", "head", "I", (.int (0 : Int32)))]) hown (tWd hw 234 rfl) (tWd hw 235 rfl) (tWd hw 236 rfl) rfl (tWd hw 237 rfl) (tWd hw 238 rfl) (tWd hw 239 rfl) (tWd hw 240 rfl) (tWd hw 121 rfl) (tWd hw 96 rfl) (tWd hw 241 rfl) (by decide) rfl (conADa l Z a0 hw n0 [] k ([(eO ul "java/util/ArrayList" [("java/util/AbstractList", "modCount", "I", (.int mu)), ("java/util/ArrayList", "elementData", "[Ljava/lang/Object;", (.ref du)), ("java/util/ArrayList", "size", "I", (.int (us.length).toInt32))]), (eO bi1 "java/util/ArrayList$Itr" [("java/util/ArrayList$Itr", "this$0", "Ljava/util/ArrayList;", (.ref cl)), ("java/util/ArrayList$Itr", "lastRet", "I", (.int (i).toInt32)), ("java/util/ArrayList$Itr", "expectedModCount", "I", (.int mc)), ("java/util/ArrayList$Itr", "cursor", "I", (.int (i + 1).toInt32))]), (eO cl "java/util/ArrayList" [("java/util/AbstractList", "modCount", "I", (.int mc)), ("java/util/ArrayList", "elementData", "[Ljava/lang/Object;", (.ref dc)), ("java/util/ArrayList", "size", "I", (.int (xs.length).toInt32))]), (eO u0 "com/example/deadletter/deadletter/worker/WaitingJobs" [("com/example/deadletter/deadletter/worker/WaitingJobs", "ready", "Ljava/util/Deque;", (.ref r)), ("com/example/deadletter/deadletter/worker/WaitingJobs", "toCount", "Ljava/util/Deque;", (.ref k)), ("com/example/deadletter/deadletter/worker/WaitingJobs", "takenOver", "Lcom/example/deadletter/deadletter/job/Job;", V)]), (eO r "java/util/ArrayDeque" [("java/util/ArrayDeque", "elements", "[Ljava/lang/Object;", (.ref dr)), ("java/util/ArrayDeque", "tail", "I", (.int (R.length).toInt32)), ("java/util/ArrayDeque", "head", "I", (.int (0 : Int32)))]), (eA dr (.object "java/lang/Object") (dq R))] ++ F) x fx (List.mem_append_right _ hxF) dk (dq K) K.length (dq_len (by omega)) (by omega)) (by decide) (by decide) (pc := 62) (Ls := #[vR u0, vR cl, vR ul, .val tv, vR bi1, vR x]) (argsL := [(.ref x)]) (rest := []) (by rw [hml]; rfl) (lenOf pd_oLjava_lang_Object_cZ rfl) rfl (Nat.le_of_eq rfl) (hb hby d16_62) (by decide) (by decide)
          replace H21 : OHere p l e _ s m _ below meth c Z n0 0 T21 1 4 ([(eO k "java/util/ArrayDeque" [("java/util/ArrayDeque", "elements", "[Ljava/lang/Object;", (.ref dk)), ("java/util/ArrayDeque", "tail", "I", (.int (K.length + 1).toInt32)), ("java/util/ArrayDeque", "head", "I", (.int (0 : Int32)))]), (eA dk (.object "java/lang/Object") ((dq K).set K.length (.ref x))), (eO ul "java/util/ArrayList" [("java/util/AbstractList", "modCount", "I", (.int mu)), ("java/util/ArrayList", "elementData", "[Ljava/lang/Object;", (.ref du)), ("java/util/ArrayList", "size", "I", (.int (us.length).toInt32))]), (eO bi1 "java/util/ArrayList$Itr" [("java/util/ArrayList$Itr", "this$0", "Ljava/util/ArrayList;", (.ref cl)), ("java/util/ArrayList$Itr", "lastRet", "I", (.int (i).toInt32)), ("java/util/ArrayList$Itr", "expectedModCount", "I", (.int mc)), ("java/util/ArrayList$Itr", "cursor", "I", (.int (i + 1).toInt32))]), (eO cl "java/util/ArrayList" [("java/util/AbstractList", "modCount", "I", (.int mc)), ("java/util/ArrayList", "elementData", "[Ljava/lang/Object;", (.ref dc)), ("java/util/ArrayList", "size", "I", (.int (xs.length).toInt32))]), (eO u0 "com/example/deadletter/deadletter/worker/WaitingJobs" [("com/example/deadletter/deadletter/worker/WaitingJobs", "ready", "Ljava/util/Deque;", (.ref r)), ("com/example/deadletter/deadletter/worker/WaitingJobs", "toCount", "Ljava/util/Deque;", (.ref k)), ("com/example/deadletter/deadletter/worker/WaitingJobs", "takenOver", "Lcom/example/deadletter/deadletter/job/Job;", V)]), (eO r "java/util/ArrayDeque" [("java/util/ArrayDeque", "elements", "[Ljava/lang/Object;", (.ref dr)), ("java/util/ArrayDeque", "tail", "I", (.int (R.length).toInt32)), ("java/util/ArrayDeque", "head", "I", (.int (0 : Int32)))]), (eA dr (.object "java/lang/Object") (dq R))] ++ F) := H21
          refine OEnds.pre (fun t_ k_ => st21 _ k_) ?_
          show OEnds p e below s _ _ _ (T21.setTop (mkF m 67 #[vR u0, vR cl, vR ul, .val tv, vR bi1, vR x] [(.int (1 : Int32))]))
          refine OEnds.pre (fun t_ k_ => XT.pop H21.here hx rfl (hb hby d16_67) rfl rfl k_) ?_
          show OEnds p e below s _ _ _ (T21.setTop (mkF m 68 #[vR u0, vR cl, vR ul, .val tv, vR bi1, vR x] []))
          refine OEnds.pre (fun t_ k_ => XS.goto H21.here hx rfl (pc0 := 68) (pc' := 83) rfl (hb hby d16_68) (by decide) (by decide) k_) ?_
          show OEnds p e below s _ _ _ (T21.setTop (mkF m 83 #[vR u0, vR cl, vR ul, .val tv, vR bi1, vR x] []))
          refine OEnds.pre (fun t_ k_ => XS.goto H21.here hx rfl (pc0 := 83) (pc' := 8) rfl (hb hby d16_83) (by decide) (by decide) k_) ?_
          show OEnds p e below s _ _ _ (T21.setTop (mkF m 8 #[vR u0, vR cl, vR ul, .val tv, vR bi1, vR x] []))
          have Hq22 : OHere p l e _ s m _ below meth c Z n0 0 T21 1 4 ([(eO bi1 "java/util/ArrayList$Itr" [("java/util/ArrayList$Itr", "this$0", "Ljava/util/ArrayList;", (.ref cl)), ("java/util/ArrayList$Itr", "lastRet", "I", (.int (i).toInt32)), ("java/util/ArrayList$Itr", "expectedModCount", "I", (.int mc)), ("java/util/ArrayList$Itr", "cursor", "I", (.int (i + 1).toInt32))]), (eO u0 "com/example/deadletter/deadletter/worker/WaitingJobs" [("com/example/deadletter/deadletter/worker/WaitingJobs", "ready", "Ljava/util/Deque;", (.ref r)), ("com/example/deadletter/deadletter/worker/WaitingJobs", "toCount", "Ljava/util/Deque;", (.ref k)), ("com/example/deadletter/deadletter/worker/WaitingJobs", "takenOver", "Lcom/example/deadletter/deadletter/job/Job;", V)]), (eO r "java/util/ArrayDeque" [("java/util/ArrayDeque", "elements", "[Ljava/lang/Object;", (.ref dr)), ("java/util/ArrayDeque", "tail", "I", (.int (R.length).toInt32)), ("java/util/ArrayDeque", "head", "I", (.int (0 : Int32)))]), (eA dr (.object "java/lang/Object") (dq R)), (eO k "java/util/ArrayDeque" [("java/util/ArrayDeque", "elements", "[Ljava/lang/Object;", (.ref dk)), ("java/util/ArrayDeque", "tail", "I", (.int (K.length + 1).toInt32)), ("java/util/ArrayDeque", "head", "I", (.int (0 : Int32)))]), (eA dk (.object "java/lang/Object") ((dq K).set K.length (.ref x))), (eO cl "java/util/ArrayList" [("java/util/AbstractList", "modCount", "I", (.int mc)), ("java/util/ArrayList", "elementData", "[Ljava/lang/Object;", (.ref dc)), ("java/util/ArrayList", "size", "I", (.int (xs.length).toInt32))]), (eO ul "java/util/ArrayList" [("java/util/AbstractList", "modCount", "I", (.int mu)), ("java/util/ArrayList", "elementData", "[Ljava/lang/Object;", (.ref du)), ("java/util/ArrayList", "size", "I", (.int (us.length).toInt32))])] ++ F) := OHere.pick H21 [3, 5, 6, 7, 0, 1, 4, 2] (by decide) rfl
          rw [dq_set x (by omega), show K.length + 1 = (K ++ [x]).length from by simp] at Hq22
          exact ih (i + 1) R (K ++ [x]) V _ _ _ (Or.inr ⟨x, rfl⟩) (by rw [List.drop_add_one_eq_tail_drop, hd]; rfl) (by simp at hl; omega) (by first | omega | (simp; omega)) (by first | omega | (simp; omega)) hVr (by rw [← hf]; rw [wj_cons, if_neg c1, if_pos (Decidable.byContradiction fun q => c2 (if_neg q))]) Hq22
  exact loop xs 0 [] [] .null _ _ _ (Or.inl rfl) rfl (by simp) (by simp) (by simp) rfl rfl (OHere.pick H3 [0, 2, 3, 4, 5, 6, 1, 7] (by decide) rfl)

theorem and3 (x : Int32) : x &&& 3 = 0 ∨ x &&& 3 = 1 ∨ x &&& 3 = 2 ∨ x &&& 3 = 3 := by
  have h := Jvm.Kit.i32_mask x 3 (k := 2) (by decide) (by decide)
  have h1 : (x &&& 3).toInt = 0 ∨ (x &&& 3).toInt = 1 ∨ (x &&& 3).toInt = 2 ∨ (x &&& 3).toInt = 3 := by omega
  rcases h1 with q | q | q | q
  · exact Or.inl (Int32.toInt_inj.mp (by rw [q]; rfl))
  · exact Or.inr (Or.inl (Int32.toInt_inj.mp (by rw [q]; rfl)))
  · exact Or.inr (Or.inr (Or.inl (Int32.toInt_inj.mp (by rw [q]; rfl))))
  · exact Or.inr (Or.inr (Or.inr (Int32.toInt_inj.mp (by rw [q]; rfl))))
theorem rem3 (x : Int32) : (x &&& 3) % 3 = 0 ∨ (x &&& 3) % 3 = 1 ∨ (x &&& 3) % 3 = 2 := by
  rcases and3 x with q | q | q | q <;> rw [q] <;> decide
theorem sub_k : ∀ k < 16, f15 (k : Nat).toInt32 0 17 = k.toInt32 := by decide
theorem sub_1 : ∀ k < 16, 0 < k → f15 (k : Nat).toInt32 1 17 = k.toInt32 + -1 := by decide
theorem pos_k : ∀ k < 16, 0 < k → (0 : Int32) < (k : Nat).toInt32 := by decide
theorem i_succ (k : Nat) : k.toInt32 + 1 = (k + 1).toInt32 := (Int32.ofNat_add k 1).symm
theorem dq_0 {R : List Addr} (h : R = []) : (dq R)[0]? = some Value.null := by subst h; rfl
theorem dq_1 {R : List Addr} (h : ¬ R = []) : ∃ y, y ∈ R ∧ (dq R)[0]? = some (Value.ref y) := by
  cases R with
  | nil => exact absurd rfl h
  | cons y R => exact ⟨y, List.mem_cons_self, by simp [dq]⟩
theorem hC_of {d : Addr} {xs : List Addr} {F : List OEnt} (hx : xs.length ≤ 10) : ∀ (i : Nat) (y : Addr), xs[i]? = some y → ∃ vs : List Value, eA d (.object "java/lang/Object") vs ∈ [eA d (.object "java/lang/Object") (xs.map Value.ref ++ List.replicate (10 - xs.length) Value.null)] ++ F ∧ vs.length = 10 ∧ vs[i]? = some (.ref y) := fun i y h => by
  refine ⟨_, List.mem_append_left _ (List.mem_singleton.mpr rfl), by simp; omega, ?_⟩
  have hl := (List.getElem?_eq_some_iff.mp h).1
  rw [List.getElem?_append_left (by simpa using hl)]
  simp [h]
theorem wj_snoc (tv : Value) (us : List Addr) (x : Addr) : ∀ (ys : List Addr) (q : List Addr × List Addr × Value), wj tv us (ys ++ [x]) q = wj tv us [x] (wj tv us ys q)
  | [], _ => rfl
  | y :: ys, q => wj_snoc tv us x ys _
def Cn (tv : Value) (us ys : List Addr) (r c k : Int32) : Prop := r = (wj tv us ys ([], [], .null)).1.length.toInt32 ∧ c = (wj tv us ys ([], [], .null)).2.1.length.toInt32 ∧ k = nb (wj tv us ys ([], [], .null)).2.2
theorem cn_nil {tv : Value} {us : List Addr} : Cn tv us [] 0 0 0 := ⟨rfl, rfl, rfl⟩
section
variable {tv : Value} {us ys : List Addr} {r c k : Int32} {x : Addr}
theorem cn_t (h : Cn tv us ys r c k) (q : (.ref x : Value) = tv) : Cn tv us (ys ++ [x]) r c 1 := by
  unfold Cn at *
  rw [wj_snoc, wj_cons, if_pos q]
  exact ⟨h.1, h.2.1, rfl⟩
theorem cn_c (h : Cn tv us ys r c k) (q : ¬ (.ref x : Value) = tv) (m : x ∈ us) : Cn tv us (ys ++ [x]) r (c + 1) k := by
  unfold Cn at *
  rw [wj_snoc, wj_cons, if_neg q, if_pos m]
  refine ⟨h.1, ?_, h.2.2⟩
  show c + 1 = (_ ++ [x]).length.toInt32
  rw [List.length_append, h.2.1]
  exact i_succ _
theorem cn_r (h : Cn tv us ys r c k) (q : ¬ (.ref x : Value) = tv) (m : ¬ x ∈ us) : Cn tv us (ys ++ [x]) (r + 1) c k := by
  unfold Cn at *
  rw [wj_snoc, wj_cons, if_neg q, if_neg m]
  refine ⟨?_, h.2.1, h.2.2⟩
  show r + 1 = (_ ++ [x]).length.toInt32
  rw [List.length_append, h.1]
  exact i_succ _
end
section
variable {nn tt ci : Int32} {j0 j1 j2 jc : Addr} {xs us R K : List Addr} {tv V : Value}
def XS (nn : Int32) (j0 j1 j2 : Addr) (xs : List Addr) : Prop := (nn = 0 ∧ xs = []) ∨ (nn = 1 ∧ xs = [j0]) ∨ (nn = 2 ∧ xs = [j0, j1]) ∨ (nn = 3 ∧ xs = [j0, j1, j2])
def TK (tt : Int32) (j0 j1 j2 : Addr) (tv : Value) : Prop := (tt = 0 ∧ tv = .ref j0) ∨ (tt = 1 ∧ tv = .ref j1) ∨ (tt = 2 ∧ tv = .ref j2) ∨ (tt = 3 ∧ tv = .null)
def JC (ci : Int32) (j0 j1 j2 jc : Addr) : Prop := (ci = 0 ∧ jc = j0) ∨ (ci = 1 ∧ jc = j1) ∨ (ci = 2 ∧ jc = j2)
theorem XS.len (h : XS nn j0 j1 j2 xs) : xs.length < 4 := by rcases h with ⟨-, rfl⟩ | ⟨-, rfl⟩ | ⟨-, rfl⟩ | ⟨-, rfl⟩ <;> simp
theorem XS.mem (h : XS nn j0 j1 j2 xs) {x : Addr} (hx : x ∈ xs) : x = j0 ∨ x = j1 ∨ x = j2 := by
  have q : ∀ y ∈ xs, y ∈ [j0, j1, j2] := by rcases h with ⟨-, rfl⟩ | ⟨-, rfl⟩ | ⟨-, rfl⟩ | ⟨-, rfl⟩ <;> simp
  simpa using q x hx
theorem XS.a1 (h : XS nn j0 j1 j2 xs) (q : 0 < nn) : xs.take 1 = [] ++ [j0] := by rcases h with ⟨rfl, rfl⟩ | ⟨rfl, rfl⟩ | ⟨rfl, rfl⟩ | ⟨rfl, rfl⟩ <;> first | rfl | exact absurd q (by decide)
theorem XS.b1 (h : XS nn j0 j1 j2 xs) (q : ¬ 0 < nn) : xs.take 1 = [] := by rcases h with ⟨rfl, rfl⟩ | ⟨rfl, rfl⟩ | ⟨rfl, rfl⟩ | ⟨rfl, rfl⟩ <;> first | rfl | exact absurd (by decide) q
theorem XS.a2 (h : XS nn j0 j1 j2 xs) (q : 1 < nn) : xs.take 2 = xs.take 1 ++ [j1] := by rcases h with ⟨rfl, rfl⟩ | ⟨rfl, rfl⟩ | ⟨rfl, rfl⟩ | ⟨rfl, rfl⟩ <;> first | rfl | exact absurd q (by decide)
theorem XS.b2 (h : XS nn j0 j1 j2 xs) (q : ¬ 1 < nn) : xs.take 2 = xs.take 1 := by rcases h with ⟨rfl, rfl⟩ | ⟨rfl, rfl⟩ | ⟨rfl, rfl⟩ | ⟨rfl, rfl⟩ <;> first | rfl | exact absurd (by decide) q
theorem XS.a3 (h : XS nn j0 j1 j2 xs) (q : 2 < nn) : xs = xs.take 2 ++ [j2] := by rcases h with ⟨rfl, rfl⟩ | ⟨rfl, rfl⟩ | ⟨rfl, rfl⟩ | ⟨rfl, rfl⟩ <;> first | rfl | exact absurd q (by decide)
theorem XS.b3 (h : XS nn j0 j1 j2 xs) (q : ¬ 2 < nn) : xs = xs.take 2 := by rcases h with ⟨rfl, rfl⟩ | ⟨rfl, rfl⟩ | ⟨rfl, rfl⟩ | ⟨rfl, rfl⟩ <;> first | rfl | exact absurd (by decide) q
theorem ref_ne {a b : Addr} (h : a ≠ b) : ¬ (.ref a : Value) = .ref b := fun q => h (Value.ref.inj q)
theorem TK.ref (h : TK tt j0 j1 j2 tv) : tv.isRef = true := by rcases h with ⟨-, rfl⟩ | ⟨-, rfl⟩ | ⟨-, rfl⟩ | ⟨-, rfl⟩ <;> rfl
theorem TK.iff (h : TK tt j0 j1 j2 tv) (h01 : j0 ≠ j1) (h02 : j0 ≠ j2) (h12 : j1 ≠ j2) (c : JC ci j0 j1 j2 jc) : ci = tt ↔ (.ref jc : Value) = tv := by
  rcases h with ⟨rfl, rfl⟩ | ⟨rfl, rfl⟩ | ⟨rfl, rfl⟩ | ⟨rfl, rfl⟩ <;> rcases c with ⟨rfl, rfl⟩ | ⟨rfl, rfl⟩ | ⟨rfl, rfl⟩ <;>
    first | exact iff_of_true rfl rfl | exact iff_of_false (by decide) (ref_ne (by first | assumption | exact Ne.symm (by assumption))) | exact iff_of_false (by decide) (by simp)
theorem wj_facts (hx : XS nn j0 j1 j2 xs) (ht : TK tt j0 j1 j2 tv) (h01 : j0 ≠ j1) (h02 : j0 ≠ j2) (h12 : j1 ≠ j2) (h : (R, K, V) = wj tv us xs ([], [], .null)) :
    R.length < 4 ∧ K.length < 4 ∧ R.length.toInt32 + K.length.toInt32 + nb V = nn ∧ (V = .null ∨ V = tv) ∧ ∀ x ∈ R, x ∈ xs := by
  have e01 := h01.symm
  have e02 := h02.symm
  have e12 := h12.symm
  rcases hx with ⟨rfl, rfl⟩ | ⟨rfl, rfl⟩ | ⟨rfl, rfl⟩ | ⟨rfl, rfl⟩ <;> rcases ht with ⟨-, rfl⟩ | ⟨-, rfl⟩ | ⟨-, rfl⟩ | ⟨-, rfl⟩ <;>
    by_cases m0 : j0 ∈ us <;> by_cases m1 : j1 ∈ us <;> by_cases m2 : j2 ∈ us <;>
    simp [wj, m0, m1, m2, h01, h02, h12, e01, e02, e12] at h <;> (obtain ⟨rfl, rfl, rfl⟩ := h) <;> simp <;> first | decide | rfl
end
theorem pd_ocLcom_example_deadletter_deadletter_job_Job_ : parseMethodDescriptor "()Lcom/example/deadletter/deadletter/job/Job;" = some ⟨[], some (.object "com/example/deadletter/deadletter/job/Job")⟩ := by decide +kernel
theorem pd_oLcom_example_deadletter_deadletter_job_Job_cV : parseMethodDescriptor "(Lcom/example/deadletter/deadletter/job/Job;)V" = some ⟨[(.object "com/example/deadletter/deadletter/job/Job")], none⟩ := by decide +kernel
theorem pd_oLjava_util_List_Ljava_util_Collection_Lcom_example_deadletter_deadletter_job_Job_cV : parseMethodDescriptor "(Ljava/util/List;Ljava/util/Collection;Lcom/example/deadletter/deadletter/job/Job;)V" = some ⟨[(.object "java/util/List"), (.object "java/util/Collection"), (.object "com/example/deadletter/deadletter/job/Job")], none⟩ := by decide +kernel
theorem pd_oLjava_util_UUID_Ljava_lang_String_Ljava_lang_String_IIILjava_lang_String_cV : parseMethodDescriptor "(Ljava/util/UUID;Ljava/lang/String;Ljava/lang/String;IIILjava/lang/String;)V" = some ⟨[(.object "java/util/UUID"), (.object "java/lang/String"), (.object "java/lang/String"), .int, .int, .int, (.object "java/lang/String")], none⟩ := by decide +kernel
theorem pn_0 : plainFor x = true := by first | exact plainFor_of_name (by first | (simp [plainName, overriddenIn]; done) | decide +kernel) | decide +kernel
theorem ef_0 (m : MethodId) (x0 : Int32) (x1 : Int32) (x2 : Int32) (x3 : Int32) : entryFrame m #[(.int x0), (.int x1), (.int x2), (.int x3)] maxLocals = mkF m 0 #[.val (.int x0), .val (.int x1), .val (.int x2), .val (.int x3), .unset, .unset, .unset, .unset, .unset, .unset, .unset, .unset, .unset, .unset, .unset, .unset, .unset, .unset, .unset, .unset, .unset, .unset, .unset, .unset, .unset] [] := by first | (simp [entryFrame, mkF, argsToLocals, Value.category, maxLocals]; done) | rfl
set_option maxRecDepth 65536 in
set_option maxHeartbeats 40000000 in
theorem con0 (l : Launch) (Z : State) (a0 : Array Value) (hw : ∀ d ∈ tables_1, d.before a0 Z = true) (n0 : Nat) (ws : List Jvm.Cond) (u0 u1 u2 u3 : Int32) (dd : Addr) (hSt : Sta Z Z.heap "java/util/ArrayList" "DEFAULTCAPACITY_EMPTY_ELEMENTDATA" "[Ljava/lang/Object;" (.ref dd)) (hDd : OOldArr Z dd "java/lang/Object" 0) (wS : ∀ a ∈ Bundle.stringAtoms, a.before a0 Z = true) (h0 : Heap) (hW0 : OWorld Z n0 h0 []) :
    MetFree l x (head1 (Jvm.Cond.code x code maxLocals ret :: ws) room_1) (fun a U => a = #[(.int u0), (.int u1), (.int u2), (.int u3)] ∧ Z.Warmed39 U.vm ∧ U.heap = h0) (fun _ _ _ _ _ => True) (fun _ U o U' => ∃ v L, o = .returned v ∧ (Fr n0 L ∧ v = some (.int 1)) ∧ ReturnedEndW U o U' L room_1.cells room_1.slots) := by
  refine MetFree.of_bodySF pn_0 hisR ?_
  intro p e s m args below meth c s₁ Bd hml0 hP hK
  obtain ⟨rfl, hZ, hh⟩ := hP
  have hx := Bd.exec
  have hby := Bd.bytes
  have hml : c.maxLocals = 25 := hml0
  have hown : s.vm.findClass "com/example/deadletter/deadletter/worker/WaitingJobsSizePinLaw" = some m.cls := findClass_of_methodNamed Bd.named
  have hS0 : s.Since s.vm 0 := (State.WarmedH.refl s).since 0
  have H0 : OHere p l e room_1 (s.setVm s.vm) m #[(.int u0), (.int u1), (.int u2), (.int u3)] below meth c Z n0 0 s₁ 0 0 ([] ++ []) := ⟨[], Stand.of_body Bd, by rw [show s₁.heap = h0 from by rw [← hh, Bd.state]; rfl]; exact hW0, Fr.nil _, Nat.zero_le _⟩
  show OEndsW p e below s _ _ (fun v' h' L => Fr n0 L ∧ v' = some (.int 1)) _
  refine OEndsW.pre (fun t k => castTop (ef_0 m u0 u1 u2 u3) k) ?_
  show OEndsW p e below s _ _ _ (s₁.setTop (mkF m 0 #[vI u0, vI u1, vI u2, vI u3, uN, uN, uN, uN, uN, uN, uN, uN, uN, uN, uN, uN, uN, uN, uN, uN, uN, uN, uN, uN, uN] []))
  refine OEndsW.pre (fun t_ k_ => XS.iloadN H0.here hx rfl (hb hby at_0) rfl k_) ?_
  show OEndsW p e below s _ _ _ (s₁.setTop (mkF m 1 #[vI u0, vI u1, vI u2, vI u3, uN, uN, uN, uN, uN, uN, uN, uN, uN, uN, uN, uN, uN, uN, uN, uN, uN, uN, uN, uN, uN] [(.int u0)]))
  refine OEndsW.pre (fun t_ k_ => XT.iconstV H0.here hx rfl (3 : Int32) (hb hby at_1) rfl k_) ?_
  show OEndsW p e below s _ _ _ (s₁.setTop (mkF m 2 #[vI u0, vI u1, vI u2, vI u3, uN, uN, uN, uN, uN, uN, uN, uN, uN, uN, uN, uN, uN, uN, uN, uN, uN, uN, uN, uN, uN] [(.int (3 : Int32)), (.int u0)]))
  refine OEndsW.pre (fun t_ k_ => XS.iand H0.here hx rfl (hb hby at_2) rfl k_) ?_
  show OEndsW p e below s _ _ _ (s₁.setTop (mkF m 3 #[vI u0, vI u1, vI u2, vI u3, uN, uN, uN, uN, uN, uN, uN, uN, uN, uN, uN, uN, uN, uN, uN, uN, uN, uN, uN, uN, uN] [(.int (u0 &&& (3 : Int32)))]))
  generalize hnnE : (u0 &&& (3 : Int32)) = nn
  have hnn : nn = 0 ∨ nn = 1 ∨ nn = 2 ∨ nn = 3 := by rw [← hnnE]; exact (and3 u0)
  refine OEndsW.pre (fun t_ k_ => XS.istore H0.here hx rfl (hb hby at_3) rfl (l' := #[vI u0, vI u1, vI u2, vI u3, vI nn, uN, uN, uN, uN, uN, uN, uN, uN, uN, uN, uN, uN, uN, uN, uN, uN, uN, uN, uN, uN]) rfl k_) ?_
  show OEndsW p e below s _ _ _ (s₁.setTop (mkF m 5 #[vI u0, vI u1, vI u2, vI u3, vI nn, uN, uN, uN, uN, uN, uN, uN, uN, uN, uN, uN, uN, uN, uN, uN, uN, uN, uN, uN, uN] []))
  obtain ⟨T2, b1, H2, st2⟩ := OHere.new H0 hx hZ (pc := 5) (Ls := #[vI u0, vI u1, vI u2, vI u3, vI nn, uN, uN, uN, uN, uN, uN, uN, uN, uN, uN, uN, uN, uN, uN, uN, uN, uN, uN, uN, uN]) (rest := []) hown (tWd hw 0 rfl) (tWd hw 1 rfl) (tWd hw 2 rfl) [("com/example/deadletter/deadletter/job/Job", "id", "Ljava/util/UUID;", .null), ("com/example/deadletter/deadletter/job/Job", "queue", "Ljava/lang/String;", .null), ("com/example/deadletter/deadletter/job/Job", "payload", "Ljava/lang/String;", .null), ("com/example/deadletter/deadletter/job/Job", "attempt", "I", (.int 0)), ("com/example/deadletter/deadletter/job/Job", "maxAttempts", "I", (.int 0)), ("com/example/deadletter/deadletter/job/Job", "claim", "I", (.int 0)), ("com/example/deadletter/deadletter/job/Job", "schedule", "Ljava/lang/String;", .null)] ⟨⟨Or.inr (tWd hw 19 rfl), (.object "java/util/UUID"), by decide, rfl⟩, ⟨Or.inr (tWd hw 21 rfl), (.object "java/lang/String"), by decide, rfl⟩, ⟨Or.inr (tWd hw 23 rfl), (.object "java/lang/String"), by decide, rfl⟩, ⟨Or.inr (tWd hw 25 rfl), .int, by decide, rfl⟩, ⟨Or.inr (tWd hw 27 rfl), .int, by decide, rfl⟩, ⟨Or.inr (tWd hw 29 rfl), .int, by decide, rfl⟩, ⟨Or.inr (tWd hw 31 rfl), (.object "java/lang/String"), by decide, rfl⟩, trivial⟩ (by first | decide | simp) (hb hby at_5) (by decide) (by decide)
  replace H2 : OHere p l e _ (s.setVm s.vm) m _ below meth c Z n0 0 T2 1 7 ([(eO b1 "com/example/deadletter/deadletter/job/Job" [("com/example/deadletter/deadletter/job/Job", "id", "Ljava/util/UUID;", .null), ("com/example/deadletter/deadletter/job/Job", "queue", "Ljava/lang/String;", .null), ("com/example/deadletter/deadletter/job/Job", "payload", "Ljava/lang/String;", .null), ("com/example/deadletter/deadletter/job/Job", "attempt", "I", (.int 0)), ("com/example/deadletter/deadletter/job/Job", "maxAttempts", "I", (.int 0)), ("com/example/deadletter/deadletter/job/Job", "claim", "I", (.int 0)), ("com/example/deadletter/deadletter/job/Job", "schedule", "Ljava/lang/String;", .null)])] ++ []) := H2
  refine OEndsW.pre (fun t_ k_ => st2 _ k_) ?_
  show OEndsW p e below s _ _ _ (T2.setTop (mkF m 8 #[vI u0, vI u1, vI u2, vI u3, vI nn, uN, uN, uN, uN, uN, uN, uN, uN, uN, uN, uN, uN, uN, uN, uN, uN, uN, uN, uN, uN] [(.ref b1)]))
  refine OEndsW.pre (fun t_ k_ => XS.dup H2.here hx rfl (hb hby at_8) rfl rfl k_) ?_
  show OEndsW p e below s _ _ _ (T2.setTop (mkF m 9 #[vI u0, vI u1, vI u2, vI u3, vI nn, uN, uN, uN, uN, uN, uN, uN, uN, uN, uN, uN, uN, uN, uN, uN, uN, uN, uN, uN, uN] [(.ref b1), (.ref b1)]))
  refine OEndsW.pre (fun t_ k_ => XS.aconstNull H2.here hx rfl (hb hby at_9) k_) ?_
  show OEndsW p e below s _ _ _ (T2.setTop (mkF m 10 #[vI u0, vI u1, vI u2, vI u3, vI nn, uN, uN, uN, uN, uN, uN, uN, uN, uN, uN, uN, uN, uN, uN, uN, uN, uN, uN, uN, uN] [.null, (.ref b1), (.ref b1)]))
  obtain ⟨T3, bs3, ks3, hS3, hZ3, hown3, H3, st3⟩ := OHere.ldcS H2 hS0 hx hZ (own := "com/example/deadletter/deadletter/worker/WaitingJobsSizePinLaw") (text := "q") (index := 9) (u := 4) (pc := 10) (Ls := #[vI u0, vI u1, vI u2, vI u3, vI nn, uN, uN, uN, uN, uN, uN, uN, uN, uN, uN, uN, uN, uN, uN, uN, uN, uN, uN, uN, uN]) (rest := [.null, (.ref b1), (.ref b1)]) hown (tWd hw 3 rfl) wS (hb hby at_10) (by decide) (by decide) (by decide) (by decide)
  refine OEndsW.pre (fun t_ k_ => st3 _ k_) ?_
  show OEndsW p e below s _ _ _ (T3.setTop (mkF m 12 #[vI u0, vI u1, vI u2, vI u3, vI nn, uN, uN, uN, uN, uN, uN, uN, uN, uN, uN, uN, uN, uN, uN, uN, uN, uN, uN, uN, uN] [(.ref bs3), .null, (.ref b1), (.ref b1)]))
  obtain ⟨T4, bs4, ks4, hS4, hZ4, hown4, H4, st4⟩ := OHere.ldcS H3 hS3 hx hZ3 (own := "com/example/deadletter/deadletter/worker/WaitingJobsSizePinLaw") (text := "p") (index := 11) (u := 4) (pc := 12) (Ls := #[vI u0, vI u1, vI u2, vI u3, vI nn, uN, uN, uN, uN, uN, uN, uN, uN, uN, uN, uN, uN, uN, uN, uN, uN, uN, uN, uN, uN]) (rest := [(.ref bs3), .null, (.ref b1), (.ref b1)]) hown3 (tWd hw 11 rfl) wS (hb hby at_12) (by decide) (by decide) (by decide) (by decide)
  refine OEndsW.pre (fun t_ k_ => st4 _ k_) ?_
  show OEndsW p e below s _ _ _ (T4.setTop (mkF m 14 #[vI u0, vI u1, vI u2, vI u3, vI nn, uN, uN, uN, uN, uN, uN, uN, uN, uN, uN, uN, uN, uN, uN, uN, uN, uN, uN, uN, uN] [(.ref bs4), (.ref bs3), .null, (.ref b1), (.ref b1)]))
  refine OEndsW.pre (fun t_ k_ => XT.iconstV H4.here hx rfl (1 : Int32) (hb hby at_14) rfl k_) ?_
  show OEndsW p e below s _ _ _ (T4.setTop (mkF m 15 #[vI u0, vI u1, vI u2, vI u3, vI nn, uN, uN, uN, uN, uN, uN, uN, uN, uN, uN, uN, uN, uN, uN, uN, uN, uN, uN, uN, uN] [(.int (1 : Int32)), (.ref bs4), (.ref bs3), .null, (.ref b1), (.ref b1)]))
  refine OEndsW.pre (fun t_ k_ => XT.iconstV H4.here hx rfl (1 : Int32) (hb hby at_15) rfl k_) ?_
  show OEndsW p e below s _ _ _ (T4.setTop (mkF m 16 #[vI u0, vI u1, vI u2, vI u3, vI nn, uN, uN, uN, uN, uN, uN, uN, uN, uN, uN, uN, uN, uN, uN, uN, uN, uN, uN, uN, uN] [(.int (1 : Int32)), (.int (1 : Int32)), (.ref bs4), (.ref bs3), .null, (.ref b1), (.ref b1)]))
  refine OEndsW.pre (fun t_ k_ => XT.iconstV H4.here hx rfl (1 : Int32) (hb hby at_16) rfl k_) ?_
  show OEndsW p e below s _ _ _ (T4.setTop (mkF m 17 #[vI u0, vI u1, vI u2, vI u3, vI nn, uN, uN, uN, uN, uN, uN, uN, uN, uN, uN, uN, uN, uN, uN, uN, uN, uN, uN, uN, uN] [(.int (1 : Int32)), (.int (1 : Int32)), (.int (1 : Int32)), (.ref bs4), (.ref bs3), .null, (.ref b1), (.ref b1)]))
  refine OEndsW.pre (fun t_ k_ => XS.aconstNull H4.here hx rfl (hb hby at_17) k_) ?_
  show OEndsW p e below s _ _ _ (T4.setTop (mkF m 18 #[vI u0, vI u1, vI u2, vI u3, vI nn, uN, uN, uN, uN, uN, uN, uN, uN, uN, uN, uN, uN, uN, uN, uN, uN, uN, uN, uN, uN] [.null, (.int (1 : Int32)), (.int (1 : Int32)), (.int (1 : Int32)), (.ref bs4), (.ref bs3), .null, (.ref b1), (.ref b1)]))
  obtain ⟨T5, _, _, ⟨rfl, rfl⟩, H5, st5⟩ := OHere.special H4 hx hZ4 (y := (⟨"com/example/deadletter/deadletter/job/Job", "<init>", "(Ljava/util/UUID;Ljava/lang/String;Ljava/lang/String;IIILjava/lang/String;)V"⟩ : MethodName)) rfl (W := 1) (a := b1) hown4 (tWd hw 12 rfl) (tWd hw 13 rfl) (tWd hw 2 rfl) (tWd hw 14 rfl) (by decide) (conJob l Z a0 hw n0 [] b1 bs3 bs4 ([] ++ [])) (by decide) (by decide) (pc := 18) (Ls := #[vI u0, vI u1, vI u2, vI u3, vI nn, uN, uN, uN, uN, uN, uN, uN, uN, uN, uN, uN, uN, uN, uN, uN, uN, uN, uN, uN, uN]) (argsL := [.null, (.ref bs3), (.ref bs4), (.int (1 : Int32)), (.int (1 : Int32)), (.int (1 : Int32)), .null]) (rest := [(.ref b1)]) (by rw [hml]; rfl) (lenOf pd_oLjava_util_UUID_Ljava_lang_String_Ljava_lang_String_IIILjava_lang_String_cV rfl) rfl (Nat.le_of_eq rfl) (hb hby at_18) (by decide) (by decide)
  replace H5 : OHere p l e _ (s.setVm T4.vm) m _ below meth c Z n0 ks4 T5 5 23 ([(eO b1 "com/example/deadletter/deadletter/job/Job" [("com/example/deadletter/deadletter/job/Job", "id", "Ljava/util/UUID;", .null), ("com/example/deadletter/deadletter/job/Job", "queue", "Ljava/lang/String;", (.ref bs3)), ("com/example/deadletter/deadletter/job/Job", "payload", "Ljava/lang/String;", (.ref bs4)), ("com/example/deadletter/deadletter/job/Job", "attempt", "I", (.int (1 : Int32))), ("com/example/deadletter/deadletter/job/Job", "maxAttempts", "I", (.int (1 : Int32))), ("com/example/deadletter/deadletter/job/Job", "claim", "I", (.int (1 : Int32))), ("com/example/deadletter/deadletter/job/Job", "schedule", "Ljava/lang/String;", .null)])] ++ []) := H5
  refine OEndsW.pre (fun t_ k_ => st5 _ k_) ?_
  show OEndsW p e below s _ _ _ (T5.setTop (mkF m 21 #[vI u0, vI u1, vI u2, vI u3, vI nn, uN, uN, uN, uN, uN, uN, uN, uN, uN, uN, uN, uN, uN, uN, uN, uN, uN, uN, uN, uN] [(.ref b1)]))
  refine OEndsW.pre (fun t_ k_ => XS.astore H5.here hx rfl (hb hby at_21) rfl rfl (l' := #[vI u0, vI u1, vI u2, vI u3, vI nn, vR b1, uN, uN, uN, uN, uN, uN, uN, uN, uN, uN, uN, uN, uN, uN, uN, uN, uN, uN, uN]) rfl k_) ?_
  show OEndsW p e below s _ _ _ (T5.setTop (mkF m 23 #[vI u0, vI u1, vI u2, vI u3, vI nn, vR b1, uN, uN, uN, uN, uN, uN, uN, uN, uN, uN, uN, uN, uN, uN, uN, uN, uN, uN, uN] []))
  obtain ⟨T7, b6, H7, st7⟩ := OHere.new H5 hx hZ4 (pc := 23) (Ls := #[vI u0, vI u1, vI u2, vI u3, vI nn, vR b1, uN, uN, uN, uN, uN, uN, uN, uN, uN, uN, uN, uN, uN, uN, uN, uN, uN, uN, uN]) (rest := []) hown4 (tWd hw 0 rfl) (tWd hw 1 rfl) (tWd hw 2 rfl) [("com/example/deadletter/deadletter/job/Job", "id", "Ljava/util/UUID;", .null), ("com/example/deadletter/deadletter/job/Job", "queue", "Ljava/lang/String;", .null), ("com/example/deadletter/deadletter/job/Job", "payload", "Ljava/lang/String;", .null), ("com/example/deadletter/deadletter/job/Job", "attempt", "I", (.int 0)), ("com/example/deadletter/deadletter/job/Job", "maxAttempts", "I", (.int 0)), ("com/example/deadletter/deadletter/job/Job", "claim", "I", (.int 0)), ("com/example/deadletter/deadletter/job/Job", "schedule", "Ljava/lang/String;", .null)] ⟨⟨Or.inr (tWd hw 19 rfl), (.object "java/util/UUID"), by decide, rfl⟩, ⟨Or.inr (tWd hw 21 rfl), (.object "java/lang/String"), by decide, rfl⟩, ⟨Or.inr (tWd hw 23 rfl), (.object "java/lang/String"), by decide, rfl⟩, ⟨Or.inr (tWd hw 25 rfl), .int, by decide, rfl⟩, ⟨Or.inr (tWd hw 27 rfl), .int, by decide, rfl⟩, ⟨Or.inr (tWd hw 29 rfl), .int, by decide, rfl⟩, ⟨Or.inr (tWd hw 31 rfl), (.object "java/lang/String"), by decide, rfl⟩, trivial⟩ (by first | decide | simp) (hb hby at_23) (by decide) (by decide)
  replace H7 : OHere p l e _ (s.setVm T4.vm) m _ below meth c Z n0 ks4 T7 6 30 ([(eO b6 "com/example/deadletter/deadletter/job/Job" [("com/example/deadletter/deadletter/job/Job", "id", "Ljava/util/UUID;", .null), ("com/example/deadletter/deadletter/job/Job", "queue", "Ljava/lang/String;", .null), ("com/example/deadletter/deadletter/job/Job", "payload", "Ljava/lang/String;", .null), ("com/example/deadletter/deadletter/job/Job", "attempt", "I", (.int 0)), ("com/example/deadletter/deadletter/job/Job", "maxAttempts", "I", (.int 0)), ("com/example/deadletter/deadletter/job/Job", "claim", "I", (.int 0)), ("com/example/deadletter/deadletter/job/Job", "schedule", "Ljava/lang/String;", .null)]), (eO b1 "com/example/deadletter/deadletter/job/Job" [("com/example/deadletter/deadletter/job/Job", "id", "Ljava/util/UUID;", .null), ("com/example/deadletter/deadletter/job/Job", "queue", "Ljava/lang/String;", (.ref bs3)), ("com/example/deadletter/deadletter/job/Job", "payload", "Ljava/lang/String;", (.ref bs4)), ("com/example/deadletter/deadletter/job/Job", "attempt", "I", (.int (1 : Int32))), ("com/example/deadletter/deadletter/job/Job", "maxAttempts", "I", (.int (1 : Int32))), ("com/example/deadletter/deadletter/job/Job", "claim", "I", (.int (1 : Int32))), ("com/example/deadletter/deadletter/job/Job", "schedule", "Ljava/lang/String;", .null)])] ++ []) := H7
  refine OEndsW.pre (fun t_ k_ => st7 _ k_) ?_
  show OEndsW p e below s _ _ _ (T7.setTop (mkF m 26 #[vI u0, vI u1, vI u2, vI u3, vI nn, vR b1, uN, uN, uN, uN, uN, uN, uN, uN, uN, uN, uN, uN, uN, uN, uN, uN, uN, uN, uN] [(.ref b6)]))
  refine OEndsW.pre (fun t_ k_ => XS.dup H7.here hx rfl (hb hby at_26) rfl rfl k_) ?_
  show OEndsW p e below s _ _ _ (T7.setTop (mkF m 27 #[vI u0, vI u1, vI u2, vI u3, vI nn, vR b1, uN, uN, uN, uN, uN, uN, uN, uN, uN, uN, uN, uN, uN, uN, uN, uN, uN, uN, uN] [(.ref b6), (.ref b6)]))
  refine OEndsW.pre (fun t_ k_ => XS.aconstNull H7.here hx rfl (hb hby at_27) k_) ?_
  show OEndsW p e below s _ _ _ (T7.setTop (mkF m 28 #[vI u0, vI u1, vI u2, vI u3, vI nn, vR b1, uN, uN, uN, uN, uN, uN, uN, uN, uN, uN, uN, uN, uN, uN, uN, uN, uN, uN, uN] [.null, (.ref b6), (.ref b6)]))
  obtain ⟨T8, bs8, ks8, hS8, hZ8, hown8, H8, st8⟩ := OHere.ldcS H7 hS4 hx hZ4 (own := "com/example/deadletter/deadletter/worker/WaitingJobsSizePinLaw") (text := "q") (index := 9) (u := 4) (pc := 28) (Ls := #[vI u0, vI u1, vI u2, vI u3, vI nn, vR b1, uN, uN, uN, uN, uN, uN, uN, uN, uN, uN, uN, uN, uN, uN, uN, uN, uN, uN, uN]) (rest := [.null, (.ref b6), (.ref b6)]) hown4 (tWd hw 3 rfl) wS (hb hby at_28) (by decide) (by decide) (by decide) (by decide)
  refine OEndsW.pre (fun t_ k_ => st8 _ k_) ?_
  show OEndsW p e below s _ _ _ (T8.setTop (mkF m 30 #[vI u0, vI u1, vI u2, vI u3, vI nn, vR b1, uN, uN, uN, uN, uN, uN, uN, uN, uN, uN, uN, uN, uN, uN, uN, uN, uN, uN, uN] [(.ref bs8), .null, (.ref b6), (.ref b6)]))
  obtain ⟨T9, bs9, ks9, hS9, hZ9, hown9, H9, st9⟩ := OHere.ldcS H8 hS8 hx hZ8 (own := "com/example/deadletter/deadletter/worker/WaitingJobsSizePinLaw") (text := "p") (index := 11) (u := 4) (pc := 30) (Ls := #[vI u0, vI u1, vI u2, vI u3, vI nn, vR b1, uN, uN, uN, uN, uN, uN, uN, uN, uN, uN, uN, uN, uN, uN, uN, uN, uN, uN, uN]) (rest := [(.ref bs8), .null, (.ref b6), (.ref b6)]) hown8 (tWd hw 11 rfl) wS (hb hby at_30) (by decide) (by decide) (by decide) (by decide)
  refine OEndsW.pre (fun t_ k_ => st9 _ k_) ?_
  show OEndsW p e below s _ _ _ (T9.setTop (mkF m 32 #[vI u0, vI u1, vI u2, vI u3, vI nn, vR b1, uN, uN, uN, uN, uN, uN, uN, uN, uN, uN, uN, uN, uN, uN, uN, uN, uN, uN, uN] [(.ref bs9), (.ref bs8), .null, (.ref b6), (.ref b6)]))
  refine OEndsW.pre (fun t_ k_ => XT.iconstV H9.here hx rfl (1 : Int32) (hb hby at_32) rfl k_) ?_
  show OEndsW p e below s _ _ _ (T9.setTop (mkF m 33 #[vI u0, vI u1, vI u2, vI u3, vI nn, vR b1, uN, uN, uN, uN, uN, uN, uN, uN, uN, uN, uN, uN, uN, uN, uN, uN, uN, uN, uN] [(.int (1 : Int32)), (.ref bs9), (.ref bs8), .null, (.ref b6), (.ref b6)]))
  refine OEndsW.pre (fun t_ k_ => XT.iconstV H9.here hx rfl (1 : Int32) (hb hby at_33) rfl k_) ?_
  show OEndsW p e below s _ _ _ (T9.setTop (mkF m 34 #[vI u0, vI u1, vI u2, vI u3, vI nn, vR b1, uN, uN, uN, uN, uN, uN, uN, uN, uN, uN, uN, uN, uN, uN, uN, uN, uN, uN, uN] [(.int (1 : Int32)), (.int (1 : Int32)), (.ref bs9), (.ref bs8), .null, (.ref b6), (.ref b6)]))
  refine OEndsW.pre (fun t_ k_ => XT.iconstV H9.here hx rfl (1 : Int32) (hb hby at_34) rfl k_) ?_
  show OEndsW p e below s _ _ _ (T9.setTop (mkF m 35 #[vI u0, vI u1, vI u2, vI u3, vI nn, vR b1, uN, uN, uN, uN, uN, uN, uN, uN, uN, uN, uN, uN, uN, uN, uN, uN, uN, uN, uN] [(.int (1 : Int32)), (.int (1 : Int32)), (.int (1 : Int32)), (.ref bs9), (.ref bs8), .null, (.ref b6), (.ref b6)]))
  refine OEndsW.pre (fun t_ k_ => XS.aconstNull H9.here hx rfl (hb hby at_35) k_) ?_
  show OEndsW p e below s _ _ _ (T9.setTop (mkF m 36 #[vI u0, vI u1, vI u2, vI u3, vI nn, vR b1, uN, uN, uN, uN, uN, uN, uN, uN, uN, uN, uN, uN, uN, uN, uN, uN, uN, uN, uN] [.null, (.int (1 : Int32)), (.int (1 : Int32)), (.int (1 : Int32)), (.ref bs9), (.ref bs8), .null, (.ref b6), (.ref b6)]))
  obtain ⟨T10, _, _, ⟨rfl, rfl⟩, H10, st10⟩ := OHere.special H9 hx hZ9 (y := (⟨"com/example/deadletter/deadletter/job/Job", "<init>", "(Ljava/util/UUID;Ljava/lang/String;Ljava/lang/String;IIILjava/lang/String;)V"⟩ : MethodName)) rfl (W := 1) (a := b6) hown9 (tWd hw 12 rfl) (tWd hw 13 rfl) (tWd hw 2 rfl) (tWd hw 14 rfl) (by decide) (conJob l Z a0 hw n0 [] b6 bs8 bs9 ([(eO b1 "com/example/deadletter/deadletter/job/Job" [("com/example/deadletter/deadletter/job/Job", "id", "Ljava/util/UUID;", .null), ("com/example/deadletter/deadletter/job/Job", "queue", "Ljava/lang/String;", (.ref bs3)), ("com/example/deadletter/deadletter/job/Job", "payload", "Ljava/lang/String;", (.ref bs4)), ("com/example/deadletter/deadletter/job/Job", "attempt", "I", (.int (1 : Int32))), ("com/example/deadletter/deadletter/job/Job", "maxAttempts", "I", (.int (1 : Int32))), ("com/example/deadletter/deadletter/job/Job", "claim", "I", (.int (1 : Int32))), ("com/example/deadletter/deadletter/job/Job", "schedule", "Ljava/lang/String;", .null)])] ++ [])) (by decide) (by decide) (pc := 36) (Ls := #[vI u0, vI u1, vI u2, vI u3, vI nn, vR b1, uN, uN, uN, uN, uN, uN, uN, uN, uN, uN, uN, uN, uN, uN, uN, uN, uN, uN, uN]) (argsL := [.null, (.ref bs8), (.ref bs9), (.int (1 : Int32)), (.int (1 : Int32)), (.int (1 : Int32)), .null]) (rest := [(.ref b6)]) (by rw [hml]; rfl) (lenOf pd_oLjava_util_UUID_Ljava_lang_String_Ljava_lang_String_IIILjava_lang_String_cV rfl) rfl (Nat.le_of_eq rfl) (hb hby at_36) (by decide) (by decide)
  replace H10 : OHere p l e _ (s.setVm T9.vm) m _ below meth c Z n0 ks9 T10 10 46 ([(eO b6 "com/example/deadletter/deadletter/job/Job" [("com/example/deadletter/deadletter/job/Job", "id", "Ljava/util/UUID;", .null), ("com/example/deadletter/deadletter/job/Job", "queue", "Ljava/lang/String;", (.ref bs8)), ("com/example/deadletter/deadletter/job/Job", "payload", "Ljava/lang/String;", (.ref bs9)), ("com/example/deadletter/deadletter/job/Job", "attempt", "I", (.int (1 : Int32))), ("com/example/deadletter/deadletter/job/Job", "maxAttempts", "I", (.int (1 : Int32))), ("com/example/deadletter/deadletter/job/Job", "claim", "I", (.int (1 : Int32))), ("com/example/deadletter/deadletter/job/Job", "schedule", "Ljava/lang/String;", .null)]), (eO b1 "com/example/deadletter/deadletter/job/Job" [("com/example/deadletter/deadletter/job/Job", "id", "Ljava/util/UUID;", .null), ("com/example/deadletter/deadletter/job/Job", "queue", "Ljava/lang/String;", (.ref bs3)), ("com/example/deadletter/deadletter/job/Job", "payload", "Ljava/lang/String;", (.ref bs4)), ("com/example/deadletter/deadletter/job/Job", "attempt", "I", (.int (1 : Int32))), ("com/example/deadletter/deadletter/job/Job", "maxAttempts", "I", (.int (1 : Int32))), ("com/example/deadletter/deadletter/job/Job", "claim", "I", (.int (1 : Int32))), ("com/example/deadletter/deadletter/job/Job", "schedule", "Ljava/lang/String;", .null)])] ++ []) := H10
  refine OEndsW.pre (fun t_ k_ => st10 _ k_) ?_
  show OEndsW p e below s _ _ _ (T10.setTop (mkF m 39 #[vI u0, vI u1, vI u2, vI u3, vI nn, vR b1, uN, uN, uN, uN, uN, uN, uN, uN, uN, uN, uN, uN, uN, uN, uN, uN, uN, uN, uN] [(.ref b6)]))
  refine OEndsW.pre (fun t_ k_ => XS.astore H10.here hx rfl (hb hby at_39) rfl rfl (l' := #[vI u0, vI u1, vI u2, vI u3, vI nn, vR b1, vR b6, uN, uN, uN, uN, uN, uN, uN, uN, uN, uN, uN, uN, uN, uN, uN, uN, uN, uN]) rfl k_) ?_
  show OEndsW p e below s _ _ _ (T10.setTop (mkF m 41 #[vI u0, vI u1, vI u2, vI u3, vI nn, vR b1, vR b6, uN, uN, uN, uN, uN, uN, uN, uN, uN, uN, uN, uN, uN, uN, uN, uN, uN, uN] []))
  obtain ⟨T12, b11, H12, st12⟩ := OHere.new H10 hx hZ9 (pc := 41) (Ls := #[vI u0, vI u1, vI u2, vI u3, vI nn, vR b1, vR b6, uN, uN, uN, uN, uN, uN, uN, uN, uN, uN, uN, uN, uN, uN, uN, uN, uN, uN]) (rest := []) hown9 (tWd hw 0 rfl) (tWd hw 1 rfl) (tWd hw 2 rfl) [("com/example/deadletter/deadletter/job/Job", "id", "Ljava/util/UUID;", .null), ("com/example/deadletter/deadletter/job/Job", "queue", "Ljava/lang/String;", .null), ("com/example/deadletter/deadletter/job/Job", "payload", "Ljava/lang/String;", .null), ("com/example/deadletter/deadletter/job/Job", "attempt", "I", (.int 0)), ("com/example/deadletter/deadletter/job/Job", "maxAttempts", "I", (.int 0)), ("com/example/deadletter/deadletter/job/Job", "claim", "I", (.int 0)), ("com/example/deadletter/deadletter/job/Job", "schedule", "Ljava/lang/String;", .null)] ⟨⟨Or.inr (tWd hw 19 rfl), (.object "java/util/UUID"), by decide, rfl⟩, ⟨Or.inr (tWd hw 21 rfl), (.object "java/lang/String"), by decide, rfl⟩, ⟨Or.inr (tWd hw 23 rfl), (.object "java/lang/String"), by decide, rfl⟩, ⟨Or.inr (tWd hw 25 rfl), .int, by decide, rfl⟩, ⟨Or.inr (tWd hw 27 rfl), .int, by decide, rfl⟩, ⟨Or.inr (tWd hw 29 rfl), .int, by decide, rfl⟩, ⟨Or.inr (tWd hw 31 rfl), (.object "java/lang/String"), by decide, rfl⟩, trivial⟩ (by first | decide | simp) (hb hby at_41) (by decide) (by decide)
  replace H12 : OHere p l e _ (s.setVm T9.vm) m _ below meth c Z n0 ks9 T12 11 53 ([(eO b11 "com/example/deadletter/deadletter/job/Job" [("com/example/deadletter/deadletter/job/Job", "id", "Ljava/util/UUID;", .null), ("com/example/deadletter/deadletter/job/Job", "queue", "Ljava/lang/String;", .null), ("com/example/deadletter/deadletter/job/Job", "payload", "Ljava/lang/String;", .null), ("com/example/deadletter/deadletter/job/Job", "attempt", "I", (.int 0)), ("com/example/deadletter/deadletter/job/Job", "maxAttempts", "I", (.int 0)), ("com/example/deadletter/deadletter/job/Job", "claim", "I", (.int 0)), ("com/example/deadletter/deadletter/job/Job", "schedule", "Ljava/lang/String;", .null)]), (eO b6 "com/example/deadletter/deadletter/job/Job" [("com/example/deadletter/deadletter/job/Job", "id", "Ljava/util/UUID;", .null), ("com/example/deadletter/deadletter/job/Job", "queue", "Ljava/lang/String;", (.ref bs8)), ("com/example/deadletter/deadletter/job/Job", "payload", "Ljava/lang/String;", (.ref bs9)), ("com/example/deadletter/deadletter/job/Job", "attempt", "I", (.int (1 : Int32))), ("com/example/deadletter/deadletter/job/Job", "maxAttempts", "I", (.int (1 : Int32))), ("com/example/deadletter/deadletter/job/Job", "claim", "I", (.int (1 : Int32))), ("com/example/deadletter/deadletter/job/Job", "schedule", "Ljava/lang/String;", .null)]), (eO b1 "com/example/deadletter/deadletter/job/Job" [("com/example/deadletter/deadletter/job/Job", "id", "Ljava/util/UUID;", .null), ("com/example/deadletter/deadletter/job/Job", "queue", "Ljava/lang/String;", (.ref bs3)), ("com/example/deadletter/deadletter/job/Job", "payload", "Ljava/lang/String;", (.ref bs4)), ("com/example/deadletter/deadletter/job/Job", "attempt", "I", (.int (1 : Int32))), ("com/example/deadletter/deadletter/job/Job", "maxAttempts", "I", (.int (1 : Int32))), ("com/example/deadletter/deadletter/job/Job", "claim", "I", (.int (1 : Int32))), ("com/example/deadletter/deadletter/job/Job", "schedule", "Ljava/lang/String;", .null)])] ++ []) := H12
  refine OEndsW.pre (fun t_ k_ => st12 _ k_) ?_
  show OEndsW p e below s _ _ _ (T12.setTop (mkF m 44 #[vI u0, vI u1, vI u2, vI u3, vI nn, vR b1, vR b6, uN, uN, uN, uN, uN, uN, uN, uN, uN, uN, uN, uN, uN, uN, uN, uN, uN, uN] [(.ref b11)]))
  refine OEndsW.pre (fun t_ k_ => XS.dup H12.here hx rfl (hb hby at_44) rfl rfl k_) ?_
  show OEndsW p e below s _ _ _ (T12.setTop (mkF m 45 #[vI u0, vI u1, vI u2, vI u3, vI nn, vR b1, vR b6, uN, uN, uN, uN, uN, uN, uN, uN, uN, uN, uN, uN, uN, uN, uN, uN, uN, uN] [(.ref b11), (.ref b11)]))
  refine OEndsW.pre (fun t_ k_ => XS.aconstNull H12.here hx rfl (hb hby at_45) k_) ?_
  show OEndsW p e below s _ _ _ (T12.setTop (mkF m 46 #[vI u0, vI u1, vI u2, vI u3, vI nn, vR b1, vR b6, uN, uN, uN, uN, uN, uN, uN, uN, uN, uN, uN, uN, uN, uN, uN, uN, uN, uN] [.null, (.ref b11), (.ref b11)]))
  obtain ⟨T13, bs13, ks13, hS13, hZ13, hown13, H13, st13⟩ := OHere.ldcS H12 hS9 hx hZ9 (own := "com/example/deadletter/deadletter/worker/WaitingJobsSizePinLaw") (text := "q") (index := 9) (u := 4) (pc := 46) (Ls := #[vI u0, vI u1, vI u2, vI u3, vI nn, vR b1, vR b6, uN, uN, uN, uN, uN, uN, uN, uN, uN, uN, uN, uN, uN, uN, uN, uN, uN, uN]) (rest := [.null, (.ref b11), (.ref b11)]) hown9 (tWd hw 3 rfl) wS (hb hby at_46) (by decide) (by decide) (by decide) (by decide)
  refine OEndsW.pre (fun t_ k_ => st13 _ k_) ?_
  show OEndsW p e below s _ _ _ (T13.setTop (mkF m 48 #[vI u0, vI u1, vI u2, vI u3, vI nn, vR b1, vR b6, uN, uN, uN, uN, uN, uN, uN, uN, uN, uN, uN, uN, uN, uN, uN, uN, uN, uN] [(.ref bs13), .null, (.ref b11), (.ref b11)]))
  obtain ⟨T14, bs14, ks14, hS14, hZ14, hown14, H14, st14⟩ := OHere.ldcS H13 hS13 hx hZ13 (own := "com/example/deadletter/deadletter/worker/WaitingJobsSizePinLaw") (text := "p") (index := 11) (u := 4) (pc := 48) (Ls := #[vI u0, vI u1, vI u2, vI u3, vI nn, vR b1, vR b6, uN, uN, uN, uN, uN, uN, uN, uN, uN, uN, uN, uN, uN, uN, uN, uN, uN, uN]) (rest := [(.ref bs13), .null, (.ref b11), (.ref b11)]) hown13 (tWd hw 11 rfl) wS (hb hby at_48) (by decide) (by decide) (by decide) (by decide)
  refine OEndsW.pre (fun t_ k_ => st14 _ k_) ?_
  show OEndsW p e below s _ _ _ (T14.setTop (mkF m 50 #[vI u0, vI u1, vI u2, vI u3, vI nn, vR b1, vR b6, uN, uN, uN, uN, uN, uN, uN, uN, uN, uN, uN, uN, uN, uN, uN, uN, uN, uN] [(.ref bs14), (.ref bs13), .null, (.ref b11), (.ref b11)]))
  refine OEndsW.pre (fun t_ k_ => XT.iconstV H14.here hx rfl (1 : Int32) (hb hby at_50) rfl k_) ?_
  show OEndsW p e below s _ _ _ (T14.setTop (mkF m 51 #[vI u0, vI u1, vI u2, vI u3, vI nn, vR b1, vR b6, uN, uN, uN, uN, uN, uN, uN, uN, uN, uN, uN, uN, uN, uN, uN, uN, uN, uN] [(.int (1 : Int32)), (.ref bs14), (.ref bs13), .null, (.ref b11), (.ref b11)]))
  refine OEndsW.pre (fun t_ k_ => XT.iconstV H14.here hx rfl (1 : Int32) (hb hby at_51) rfl k_) ?_
  show OEndsW p e below s _ _ _ (T14.setTop (mkF m 52 #[vI u0, vI u1, vI u2, vI u3, vI nn, vR b1, vR b6, uN, uN, uN, uN, uN, uN, uN, uN, uN, uN, uN, uN, uN, uN, uN, uN, uN, uN] [(.int (1 : Int32)), (.int (1 : Int32)), (.ref bs14), (.ref bs13), .null, (.ref b11), (.ref b11)]))
  refine OEndsW.pre (fun t_ k_ => XT.iconstV H14.here hx rfl (1 : Int32) (hb hby at_52) rfl k_) ?_
  show OEndsW p e below s _ _ _ (T14.setTop (mkF m 53 #[vI u0, vI u1, vI u2, vI u3, vI nn, vR b1, vR b6, uN, uN, uN, uN, uN, uN, uN, uN, uN, uN, uN, uN, uN, uN, uN, uN, uN, uN] [(.int (1 : Int32)), (.int (1 : Int32)), (.int (1 : Int32)), (.ref bs14), (.ref bs13), .null, (.ref b11), (.ref b11)]))
  refine OEndsW.pre (fun t_ k_ => XS.aconstNull H14.here hx rfl (hb hby at_53) k_) ?_
  show OEndsW p e below s _ _ _ (T14.setTop (mkF m 54 #[vI u0, vI u1, vI u2, vI u3, vI nn, vR b1, vR b6, uN, uN, uN, uN, uN, uN, uN, uN, uN, uN, uN, uN, uN, uN, uN, uN, uN, uN] [.null, (.int (1 : Int32)), (.int (1 : Int32)), (.int (1 : Int32)), (.ref bs14), (.ref bs13), .null, (.ref b11), (.ref b11)]))
  obtain ⟨T15, _, _, ⟨rfl, rfl⟩, H15, st15⟩ := OHere.special H14 hx hZ14 (y := (⟨"com/example/deadletter/deadletter/job/Job", "<init>", "(Ljava/util/UUID;Ljava/lang/String;Ljava/lang/String;IIILjava/lang/String;)V"⟩ : MethodName)) rfl (W := 1) (a := b11) hown14 (tWd hw 12 rfl) (tWd hw 13 rfl) (tWd hw 2 rfl) (tWd hw 14 rfl) (by decide) (conJob l Z a0 hw n0 [] b11 bs13 bs14 ([(eO b6 "com/example/deadletter/deadletter/job/Job" [("com/example/deadletter/deadletter/job/Job", "id", "Ljava/util/UUID;", .null), ("com/example/deadletter/deadletter/job/Job", "queue", "Ljava/lang/String;", (.ref bs8)), ("com/example/deadletter/deadletter/job/Job", "payload", "Ljava/lang/String;", (.ref bs9)), ("com/example/deadletter/deadletter/job/Job", "attempt", "I", (.int (1 : Int32))), ("com/example/deadletter/deadletter/job/Job", "maxAttempts", "I", (.int (1 : Int32))), ("com/example/deadletter/deadletter/job/Job", "claim", "I", (.int (1 : Int32))), ("com/example/deadletter/deadletter/job/Job", "schedule", "Ljava/lang/String;", .null)]), (eO b1 "com/example/deadletter/deadletter/job/Job" [("com/example/deadletter/deadletter/job/Job", "id", "Ljava/util/UUID;", .null), ("com/example/deadletter/deadletter/job/Job", "queue", "Ljava/lang/String;", (.ref bs3)), ("com/example/deadletter/deadletter/job/Job", "payload", "Ljava/lang/String;", (.ref bs4)), ("com/example/deadletter/deadletter/job/Job", "attempt", "I", (.int (1 : Int32))), ("com/example/deadletter/deadletter/job/Job", "maxAttempts", "I", (.int (1 : Int32))), ("com/example/deadletter/deadletter/job/Job", "claim", "I", (.int (1 : Int32))), ("com/example/deadletter/deadletter/job/Job", "schedule", "Ljava/lang/String;", .null)])] ++ [])) (by decide) (by decide) (pc := 54) (Ls := #[vI u0, vI u1, vI u2, vI u3, vI nn, vR b1, vR b6, uN, uN, uN, uN, uN, uN, uN, uN, uN, uN, uN, uN, uN, uN, uN, uN, uN, uN]) (argsL := [.null, (.ref bs13), (.ref bs14), (.int (1 : Int32)), (.int (1 : Int32)), (.int (1 : Int32)), .null]) (rest := [(.ref b11)]) (by rw [hml]; rfl) (lenOf pd_oLjava_util_UUID_Ljava_lang_String_Ljava_lang_String_IIILjava_lang_String_cV rfl) rfl (Nat.le_of_eq rfl) (hb hby at_54) (by decide) (by decide)
  replace H15 : OHere p l e _ (s.setVm T14.vm) m _ below meth c Z n0 ks14 T15 15 69 ([(eO b11 "com/example/deadletter/deadletter/job/Job" [("com/example/deadletter/deadletter/job/Job", "id", "Ljava/util/UUID;", .null), ("com/example/deadletter/deadletter/job/Job", "queue", "Ljava/lang/String;", (.ref bs13)), ("com/example/deadletter/deadletter/job/Job", "payload", "Ljava/lang/String;", (.ref bs14)), ("com/example/deadletter/deadletter/job/Job", "attempt", "I", (.int (1 : Int32))), ("com/example/deadletter/deadletter/job/Job", "maxAttempts", "I", (.int (1 : Int32))), ("com/example/deadletter/deadletter/job/Job", "claim", "I", (.int (1 : Int32))), ("com/example/deadletter/deadletter/job/Job", "schedule", "Ljava/lang/String;", .null)]), (eO b6 "com/example/deadletter/deadletter/job/Job" [("com/example/deadletter/deadletter/job/Job", "id", "Ljava/util/UUID;", .null), ("com/example/deadletter/deadletter/job/Job", "queue", "Ljava/lang/String;", (.ref bs8)), ("com/example/deadletter/deadletter/job/Job", "payload", "Ljava/lang/String;", (.ref bs9)), ("com/example/deadletter/deadletter/job/Job", "attempt", "I", (.int (1 : Int32))), ("com/example/deadletter/deadletter/job/Job", "maxAttempts", "I", (.int (1 : Int32))), ("com/example/deadletter/deadletter/job/Job", "claim", "I", (.int (1 : Int32))), ("com/example/deadletter/deadletter/job/Job", "schedule", "Ljava/lang/String;", .null)]), (eO b1 "com/example/deadletter/deadletter/job/Job" [("com/example/deadletter/deadletter/job/Job", "id", "Ljava/util/UUID;", .null), ("com/example/deadletter/deadletter/job/Job", "queue", "Ljava/lang/String;", (.ref bs3)), ("com/example/deadletter/deadletter/job/Job", "payload", "Ljava/lang/String;", (.ref bs4)), ("com/example/deadletter/deadletter/job/Job", "attempt", "I", (.int (1 : Int32))), ("com/example/deadletter/deadletter/job/Job", "maxAttempts", "I", (.int (1 : Int32))), ("com/example/deadletter/deadletter/job/Job", "claim", "I", (.int (1 : Int32))), ("com/example/deadletter/deadletter/job/Job", "schedule", "Ljava/lang/String;", .null)])] ++ []) := H15
  refine OEndsW.pre (fun t_ k_ => st15 _ k_) ?_
  show OEndsW p e below s _ _ _ (T15.setTop (mkF m 57 #[vI u0, vI u1, vI u2, vI u3, vI nn, vR b1, vR b6, uN, uN, uN, uN, uN, uN, uN, uN, uN, uN, uN, uN, uN, uN, uN, uN, uN, uN] [(.ref b11)]))
  refine OEndsW.pre (fun t_ k_ => XS.astore H15.here hx rfl (hb hby at_57) rfl rfl (l' := #[vI u0, vI u1, vI u2, vI u3, vI nn, vR b1, vR b6, vR b11, uN, uN, uN, uN, uN, uN, uN, uN, uN, uN, uN, uN, uN, uN, uN, uN, uN]) rfl k_) ?_
  show OEndsW p e below s _ _ _ (T15.setTop (mkF m 59 #[vI u0, vI u1, vI u2, vI u3, vI nn, vR b1, vR b6, vR b11, uN, uN, uN, uN, uN, uN, uN, uN, uN, uN, uN, uN, uN, uN, uN, uN, uN] []))
  refine OEndsW.pre (fun t_ k_ => XS.iloadN H15.here hx rfl (hb hby at_59) rfl k_) ?_
  show OEndsW p e below s _ _ _ (T15.setTop (mkF m 60 #[vI u0, vI u1, vI u2, vI u3, vI nn, vR b1, vR b6, vR b11, uN, uN, uN, uN, uN, uN, uN, uN, uN, uN, uN, uN, uN, uN, uN, uN, uN] [(.int u2)]))
  refine OEndsW.pre (fun t_ k_ => XT.iconstV H15.here hx rfl (3 : Int32) (hb hby at_60) rfl k_) ?_
  show OEndsW p e below s _ _ _ (T15.setTop (mkF m 61 #[vI u0, vI u1, vI u2, vI u3, vI nn, vR b1, vR b6, vR b11, uN, uN, uN, uN, uN, uN, uN, uN, uN, uN, uN, uN, uN, uN, uN, uN, uN] [(.int (3 : Int32)), (.int u2)]))
  refine OEndsW.pre (fun t_ k_ => XS.iand H15.here hx rfl (hb hby at_61) rfl k_) ?_
  show OEndsW p e below s _ _ _ (T15.setTop (mkF m 62 #[vI u0, vI u1, vI u2, vI u3, vI nn, vR b1, vR b6, vR b11, uN, uN, uN, uN, uN, uN, uN, uN, uN, uN, uN, uN, uN, uN, uN, uN, uN] [(.int (u2 &&& (3 : Int32)))]))
  generalize httE : (u2 &&& (3 : Int32)) = tt
  have htt : tt = 0 ∨ tt = 1 ∨ tt = 2 ∨ tt = 3 := by rw [← httE]; exact (and3 u2)
  refine OEndsW.pre (fun t_ k_ => XS.istore H15.here hx rfl (hb hby at_62) rfl (l' := #[vI u0, vI u1, vI u2, vI u3, vI nn, vR b1, vR b6, vR b11, vI tt, uN, uN, uN, uN, uN, uN, uN, uN, uN, uN, uN, uN, uN, uN, uN, uN]) rfl k_) ?_
  show OEndsW p e below s _ _ _ (T15.setTop (mkF m 64 #[vI u0, vI u1, vI u2, vI u3, vI nn, vR b1, vR b6, vR b11, vI tt, uN, uN, uN, uN, uN, uN, uN, uN, uN, uN, uN, uN, uN, uN, uN, uN] []))
  have hnd := OHere.nodup H15
  have HJ : OHere p l e room_1 (s.setVm T14.vm) m #[(.int u0), (.int u1), (.int u2), (.int u3)] below meth c Z n0 ks14 T15 15 69 ([(eO b1 "com/example/deadletter/deadletter/job/Job" [("com/example/deadletter/deadletter/job/Job", "id", "Ljava/util/UUID;", .null), ("com/example/deadletter/deadletter/job/Job", "queue", "Ljava/lang/String;", (.ref bs3)), ("com/example/deadletter/deadletter/job/Job", "payload", "Ljava/lang/String;", (.ref bs4)), ("com/example/deadletter/deadletter/job/Job", "attempt", "I", (.int (1 : Int32))), ("com/example/deadletter/deadletter/job/Job", "maxAttempts", "I", (.int (1 : Int32))), ("com/example/deadletter/deadletter/job/Job", "claim", "I", (.int (1 : Int32))), ("com/example/deadletter/deadletter/job/Job", "schedule", "Ljava/lang/String;", .null)]), (eO b6 "com/example/deadletter/deadletter/job/Job" [("com/example/deadletter/deadletter/job/Job", "id", "Ljava/util/UUID;", .null), ("com/example/deadletter/deadletter/job/Job", "queue", "Ljava/lang/String;", (.ref bs8)), ("com/example/deadletter/deadletter/job/Job", "payload", "Ljava/lang/String;", (.ref bs9)), ("com/example/deadletter/deadletter/job/Job", "attempt", "I", (.int (1 : Int32))), ("com/example/deadletter/deadletter/job/Job", "maxAttempts", "I", (.int (1 : Int32))), ("com/example/deadletter/deadletter/job/Job", "claim", "I", (.int (1 : Int32))), ("com/example/deadletter/deadletter/job/Job", "schedule", "Ljava/lang/String;", .null)]), (eO b11 "com/example/deadletter/deadletter/job/Job" [("com/example/deadletter/deadletter/job/Job", "id", "Ljava/util/UUID;", .null), ("com/example/deadletter/deadletter/job/Job", "queue", "Ljava/lang/String;", (.ref bs13)), ("com/example/deadletter/deadletter/job/Job", "payload", "Ljava/lang/String;", (.ref bs14)), ("com/example/deadletter/deadletter/job/Job", "attempt", "I", (.int (1 : Int32))), ("com/example/deadletter/deadletter/job/Job", "maxAttempts", "I", (.int (1 : Int32))), ("com/example/deadletter/deadletter/job/Job", "claim", "I", (.int (1 : Int32))), ("com/example/deadletter/deadletter/job/Job", "schedule", "Ljava/lang/String;", .null)])] ++ []) := OHere.pick H15 [2, 1, 0] (by decide) rfl
  have hnd := OHere.nodup HJ
  obtain ⟨h01, h02, h12⟩ : b1 ≠ b6 ∧ b1 ≠ b11 ∧ b6 ≠ b11 := by simp at hnd; exact ⟨hnd.1.1, hnd.1.2, hnd.2⟩
  obtain ⟨F, f0, f1, f2, hj0, hj1, hj2, HF⟩ : ∃ (F : List OEnt) (f0 f1 f2 : List OFEnt), eO b1 "com/example/deadletter/deadletter/job/Job" f0 ∈ F ∧ eO b6 "com/example/deadletter/deadletter/job/Job" f1 ∈ F ∧ eO b11 "com/example/deadletter/deadletter/job/Job" f2 ∈ F ∧ OHere p l e room_1 (s.setVm T14.vm) m #[(.int u0), (.int u1), (.int u2), (.int u3)] below meth c Z n0 ks14 T15 15 69 ([] ++ F) := ⟨_, _, _, _, List.mem_append_left _ (.head _), List.mem_append_left _ (.tail _ (.head _)), List.mem_append_left _ (.tail _ (.tail _ (.head _))), HJ⟩
  clear hnd
  have tail97 : ∀ tv : Value, TK tt b1 b6 b11 tv → OEndsW p e below s room_1.cells room_1.slots (fun v' h' L => Fr n0 L ∧ v' = some (.int 1)) (T15.setTop (mkF m 97 #[vI u0, vI u1, vI u2, vI u3, vI nn, vR b1, vR b6, vR b11, vI tt, uN, uN, uN, uN, uN, uN, uN, uN, uN, uN, uN, uN, uN, uN, uN, uN] [tv])) := by
    intro tv htk
    have htv := htk.ref
    have tail149 : ∀ (T : State) (F : List OEnt) (cl dc : Addr) (mc : Int32) (xs : List Addr), XS nn b1 b6 b11 xs → (∀ (i : Nat) (y : Addr), xs[i]? = some y → ∃ vs : List Value, eA dc (.object "java/lang/Object") vs ∈ F ∧ vs.length = 10 ∧ vs[i]? = some (.ref y)) → eO b1 "com/example/deadletter/deadletter/job/Job" f0 ∈ F → eO b6 "com/example/deadletter/deadletter/job/Job" f1 ∈ F → eO b11 "com/example/deadletter/deadletter/job/Job" f2 ∈ F → OHere p l e room_1 (s.setVm T14.vm) m #[(.int u0), (.int u1), (.int u2), (.int u3)] below meth c Z n0 ks14 T 17 82 ([(eO cl "java/util/ArrayList" [("java/util/AbstractList", "modCount", "I", (.int mc)), ("java/util/ArrayList", "elementData", "[Ljava/lang/Object;", (.ref dc)), ("java/util/ArrayList", "size", "I", (.int (xs.length).toInt32))])] ++ F) → OEndsW p e below s room_1.cells room_1.slots (fun v' h' L => Fr n0 L ∧ v' = some (.int 1)) (T.setTop (mkF m 149 #[vI u0, vI u1, vI u2, vI u3, vI nn, vR b1, vR b6, vR b11, vI tt, .val tv, vR cl, uN, uN, uN, uN, uN, uN, uN, uN, uN, uN, uN, uN, uN, uN] [])) := by
      intro T F cl dc mc xs hxs hC hj0 hj1 hj2 H
      have tail200 : ∀ (T : State) (F : List OEnt) (ul du : Addr) (mu : Int32) (us : List Addr), us.length < 10 → ((b1 ∈ us ↔ ¬ (u1 &&& (1 : Int32)) = (0 : Int32)) ∧ (b6 ∈ us ↔ ¬ (u1 &&& (2 : Int32)) = (0 : Int32)) ∧ (b11 ∈ us ↔ ¬ (u1 &&& (4 : Int32)) = (0 : Int32))) → (∀ (i : Nat) (y : Addr), us[i]? = some y → ∃ vs : List Value, eA du (.object "java/lang/Object") vs ∈ F ∧ vs[i]? = some (.ref y)) → (∀ (i : Nat) (y : Addr), xs[i]? = some y → ∃ vs : List Value, eA dc (.object "java/lang/Object") vs ∈ F ∧ vs.length = 10 ∧ vs[i]? = some (.ref y)) → eO b1 "com/example/deadletter/deadletter/job/Job" f0 ∈ F → eO b6 "com/example/deadletter/deadletter/job/Job" f1 ∈ F → eO b11 "com/example/deadletter/deadletter/job/Job" f2 ∈ F → OHere p l e room_1 (s.setVm T14.vm) m #[(.int u0), (.int u1), (.int u2), (.int u3)] below meth c Z n0 ks14 T 19 95 ([(eO ul "java/util/ArrayList" [("java/util/AbstractList", "modCount", "I", (.int mu)), ("java/util/ArrayList", "elementData", "[Ljava/lang/Object;", (.ref du)), ("java/util/ArrayList", "size", "I", (.int (us.length).toInt32))]), (eO cl "java/util/ArrayList" [("java/util/AbstractList", "modCount", "I", (.int mc)), ("java/util/ArrayList", "elementData", "[Ljava/lang/Object;", (.ref dc)), ("java/util/ArrayList", "size", "I", (.int (xs.length).toInt32))])] ++ F) → OEndsW p e below s room_1.cells room_1.slots (fun v' h' L => Fr n0 L ∧ v' = some (.int 1)) (T.setTop (mkF m 200 #[vI u0, vI u1, vI u2, vI u3, vI nn, vR b1, vR b6, vR b11, vI tt, .val tv, vR cl, vR ul, uN, uN, uN, uN, uN, uN, uN, uN, uN, uN, uN, uN, uN] [])) := by
        intro T F ul du mu us hnu hus hU hC hj0 hj1 hj2 H
        have tk0 := htk.iff h01 h02 h12 (ci := 0) (jc := b1) (Or.inl ⟨rfl, rfl⟩)
        have tk1 := htk.iff h01 h02 h12 (ci := 1) (jc := b6) (Or.inr (Or.inl ⟨rfl, rfl⟩))
        have tk2 := htk.iff h01 h02 h12 (ci := 2) (jc := b11) (Or.inr (Or.inr ⟨rfl, rfl⟩))
        have tail306 : ∀ rd ct tkn : Int32, Cn tv us xs rd ct tkn → OEndsW p e below s room_1.cells room_1.slots (fun v' h' L => Fr n0 L ∧ v' = some (.int 1)) (T.setTop (mkF m 306 #[vI u0, vI u1, vI u2, vI u3, vI nn, vR b1, vR b6, vR b11, vI tt, .val tv, vR cl, vR ul, vI rd, vI ct, vI tkn, uN, uN, uN, uN, uN, uN, uN, uN, uN, uN] [])) := by
          intro rd ct tkn hcn
          obtain ⟨R, K, V, hRKV⟩ : ∃ (R K : List Addr) (V : Value), (R, K, V) = wj tv us xs ([], [], .null) := ⟨_, _, _, rfl⟩
          obtain ⟨rfl, rfl, rfl⟩ : rd = R.length.toInt32 ∧ ct = K.length.toInt32 ∧ tkn = nb V := by unfold Cn at hcn; rw [← hRKV] at hcn; exact hcn
          clear hcn
          obtain ⟨hR4, hK4, hsum, hVtv, hRm⟩ := wj_facts hxs htk h01 h02 h12 hRKV
          have hVr : V.isRef = true := by rcases hVtv with q | q <;> rw [q] <;> first | rfl | exact htv
          have hJF : ∀ x ∈ xs, ∃ fx : List OFEnt, eO x "com/example/deadletter/deadletter/job/Job" fx ∈ F := fun x hx => by rcases hxs.mem hx with rfl | rfl | rfl <;> first | exact ⟨_, hj0⟩ | exact ⟨_, hj1⟩ | exact ⟨_, hj2⟩
          obtain ⟨T17, b16, H17, st17⟩ := OHere.new H hx hZ14 (pc := 306) (Ls := #[vI u0, vI u1, vI u2, vI u3, vI nn, vR b1, vR b6, vR b11, vI tt, .val tv, vR cl, vR ul, vI (R.length).toInt32, vI (K.length).toInt32, vI (nb V), uN, uN, uN, uN, uN, uN, uN, uN, uN, uN]) (rest := []) hown14 (tWd hw 87 rfl) (tWd hw 88 rfl) (tWd hw 89 rfl) [("com/example/deadletter/deadletter/worker/WaitingJobs", "ready", "Ljava/util/Deque;", .null), ("com/example/deadletter/deadletter/worker/WaitingJobs", "toCount", "Ljava/util/Deque;", .null), ("com/example/deadletter/deadletter/worker/WaitingJobs", "takenOver", "Lcom/example/deadletter/deadletter/job/Job;", .null)] ⟨⟨Or.inr (tWd hw 106 rfl), (.object "java/util/Deque"), by decide, rfl⟩, ⟨Or.inr (tWd hw 108 rfl), (.object "java/util/Deque"), by decide, rfl⟩, ⟨Or.inl (tWd hw 131 rfl), (.object "com/example/deadletter/deadletter/job/Job"), by decide, rfl⟩, trivial⟩ (by first | decide | simp) (hb hby at_306) (by decide) (by decide)
          replace H17 : OHere p l e _ (s.setVm T14.vm) m _ below meth c Z n0 ks14 T17 20 98 ([(eO b16 "com/example/deadletter/deadletter/worker/WaitingJobs" [("com/example/deadletter/deadletter/worker/WaitingJobs", "ready", "Ljava/util/Deque;", .null), ("com/example/deadletter/deadletter/worker/WaitingJobs", "toCount", "Ljava/util/Deque;", .null), ("com/example/deadletter/deadletter/worker/WaitingJobs", "takenOver", "Lcom/example/deadletter/deadletter/job/Job;", .null)]), (eO ul "java/util/ArrayList" [("java/util/AbstractList", "modCount", "I", (.int mu)), ("java/util/ArrayList", "elementData", "[Ljava/lang/Object;", (.ref du)), ("java/util/ArrayList", "size", "I", (.int (us.length).toInt32))]), (eO cl "java/util/ArrayList" [("java/util/AbstractList", "modCount", "I", (.int mc)), ("java/util/ArrayList", "elementData", "[Ljava/lang/Object;", (.ref dc)), ("java/util/ArrayList", "size", "I", (.int (xs.length).toInt32))])] ++ F) := H17
          refine OEndsW.pre (fun t_ k_ => st17 _ k_) ?_
          show OEndsW p e below s _ _ _ (T17.setTop (mkF m 309 #[vI u0, vI u1, vI u2, vI u3, vI nn, vR b1, vR b6, vR b11, vI tt, .val tv, vR cl, vR ul, vI (R.length).toInt32, vI (K.length).toInt32, vI (nb V), uN, uN, uN, uN, uN, uN, uN, uN, uN, uN] [(.ref b16)]))
          refine OEndsW.pre (fun t_ k_ => XS.dup H17.here hx rfl (hb hby at_309) rfl rfl k_) ?_
          show OEndsW p e below s _ _ _ (T17.setTop (mkF m 310 #[vI u0, vI u1, vI u2, vI u3, vI nn, vR b1, vR b6, vR b11, vI tt, .val tv, vR cl, vR ul, vI (R.length).toInt32, vI (K.length).toInt32, vI (nb V), uN, uN, uN, uN, uN, uN, uN, uN, uN, uN] [(.ref b16), (.ref b16)]))
          obtain ⟨T19, _, _, ⟨r18, dr18, k18, dk18, rfl, rfl⟩, H19, st19⟩ := OHere.special H17 hx hZ14 (y := (⟨"com/example/deadletter/deadletter/worker/WaitingJobs", "<init>", "()V"⟩ : MethodName)) rfl (W := 1) (a := b16) hown14 (tWd hw 90 rfl) (tWd hw 91 rfl) (tWd hw 89 rfl) (tWd hw 92 rfl) (by decide) (conWJi l Z a0 hw n0 [] b16 ([(eO ul "java/util/ArrayList" [("java/util/AbstractList", "modCount", "I", (.int mu)), ("java/util/ArrayList", "elementData", "[Ljava/lang/Object;", (.ref du)), ("java/util/ArrayList", "size", "I", (.int (us.length).toInt32))]), (eO cl "java/util/ArrayList" [("java/util/AbstractList", "modCount", "I", (.int mc)), ("java/util/ArrayList", "elementData", "[Ljava/lang/Object;", (.ref dc)), ("java/util/ArrayList", "size", "I", (.int (xs.length).toInt32))])] ++ F)) (by decide) (by decide) (pc := 310) (Ls := #[vI u0, vI u1, vI u2, vI u3, vI nn, vR b1, vR b6, vR b11, vI tt, .val tv, vR cl, vR ul, vI (R.length).toInt32, vI (K.length).toInt32, vI (nb V), uN, uN, uN, uN, uN, uN, uN, uN, uN, uN]) (argsL := []) (rest := [(.ref b16)]) (by rw [hml]; rfl) (lenOf pd_ocV rfl) rfl (Nat.le_of_eq rfl) (hb hby at_310) (by decide) (by decide)
          replace H19 : OHere p l e _ (s.setVm T14.vm) m _ below meth c Z n0 ks14 T19 24 138 ([(eA dk18 (.object "java/lang/Object") (dq ([] : List Addr))), (eO k18 "java/util/ArrayDeque" [("java/util/ArrayDeque", "elements", "[Ljava/lang/Object;", (.ref dk18)), ("java/util/ArrayDeque", "tail", "I", (.int (0 : Int32))), ("java/util/ArrayDeque", "head", "I", (.int (0 : Int32)))]), (eA dr18 (.object "java/lang/Object") (dq ([] : List Addr))), (eO r18 "java/util/ArrayDeque" [("java/util/ArrayDeque", "elements", "[Ljava/lang/Object;", (.ref dr18)), ("java/util/ArrayDeque", "tail", "I", (.int (0 : Int32))), ("java/util/ArrayDeque", "head", "I", (.int (0 : Int32)))]), (eO b16 "com/example/deadletter/deadletter/worker/WaitingJobs" [("com/example/deadletter/deadletter/worker/WaitingJobs", "ready", "Ljava/util/Deque;", (.ref r18)), ("com/example/deadletter/deadletter/worker/WaitingJobs", "toCount", "Ljava/util/Deque;", (.ref k18)), ("com/example/deadletter/deadletter/worker/WaitingJobs", "takenOver", "Lcom/example/deadletter/deadletter/job/Job;", .null)]), (eO ul "java/util/ArrayList" [("java/util/AbstractList", "modCount", "I", (.int mu)), ("java/util/ArrayList", "elementData", "[Ljava/lang/Object;", (.ref du)), ("java/util/ArrayList", "size", "I", (.int (us.length).toInt32))]), (eO cl "java/util/ArrayList" [("java/util/AbstractList", "modCount", "I", (.int mc)), ("java/util/ArrayList", "elementData", "[Ljava/lang/Object;", (.ref dc)), ("java/util/ArrayList", "size", "I", (.int (xs.length).toInt32))])] ++ F) := H19
          refine OEndsW.pre (fun t_ k_ => st19 _ k_) ?_
          show OEndsW p e below s _ _ _ (T19.setTop (mkF m 313 #[vI u0, vI u1, vI u2, vI u3, vI nn, vR b1, vR b6, vR b11, vI tt, .val tv, vR cl, vR ul, vI (R.length).toInt32, vI (K.length).toInt32, vI (nb V), uN, uN, uN, uN, uN, uN, uN, uN, uN, uN] [(.ref b16)]))
          refine OEndsW.pre (fun t_ k_ => XS.astore H19.here hx rfl (hb hby at_313) rfl rfl (l' := #[vI u0, vI u1, vI u2, vI u3, vI nn, vR b1, vR b6, vR b11, vI tt, .val tv, vR cl, vR ul, vI (R.length).toInt32, vI (K.length).toInt32, vI (nb V), vR b16, uN, uN, uN, uN, uN, uN, uN, uN, uN]) rfl k_) ?_
          show OEndsW p e below s _ _ _ (T19.setTop (mkF m 315 #[vI u0, vI u1, vI u2, vI u3, vI nn, vR b1, vR b6, vR b11, vI tt, .val tv, vR cl, vR ul, vI (R.length).toInt32, vI (K.length).toInt32, vI (nb V), vR b16, uN, uN, uN, uN, uN, uN, uN, uN, uN] []))
          refine OEndsW.pre (fun t_ k_ => XS.aload H19.here hx rfl (hb hby at_315) rfl rfl k_) ?_
          show OEndsW p e below s _ _ _ (T19.setTop (mkF m 317 #[vI u0, vI u1, vI u2, vI u3, vI nn, vR b1, vR b6, vR b11, vI tt, .val tv, vR cl, vR ul, vI (R.length).toInt32, vI (K.length).toInt32, vI (nb V), vR b16, uN, uN, uN, uN, uN, uN, uN, uN, uN] [(.ref b16)]))
          have Hp20 : OHere p l e _ (s.setVm T14.vm) m _ below meth c Z n0 ks14 T19 24 138 ([(eO b16 "com/example/deadletter/deadletter/worker/WaitingJobs" [("com/example/deadletter/deadletter/worker/WaitingJobs", "ready", "Ljava/util/Deque;", (.ref r18)), ("com/example/deadletter/deadletter/worker/WaitingJobs", "toCount", "Ljava/util/Deque;", (.ref k18)), ("com/example/deadletter/deadletter/worker/WaitingJobs", "takenOver", "Lcom/example/deadletter/deadletter/job/Job;", .null)]), (eO r18 "java/util/ArrayDeque" [("java/util/ArrayDeque", "elements", "[Ljava/lang/Object;", (.ref dr18)), ("java/util/ArrayDeque", "tail", "I", (.int (0 : Int32))), ("java/util/ArrayDeque", "head", "I", (.int (0 : Int32)))]), (eA dr18 (.object "java/lang/Object") (dq ([] : List Addr))), (eO k18 "java/util/ArrayDeque" [("java/util/ArrayDeque", "elements", "[Ljava/lang/Object;", (.ref dk18)), ("java/util/ArrayDeque", "tail", "I", (.int (0 : Int32))), ("java/util/ArrayDeque", "head", "I", (.int (0 : Int32)))]), (eA dk18 (.object "java/lang/Object") (dq ([] : List Addr))), (eO ul "java/util/ArrayList" [("java/util/AbstractList", "modCount", "I", (.int mu)), ("java/util/ArrayList", "elementData", "[Ljava/lang/Object;", (.ref du)), ("java/util/ArrayList", "size", "I", (.int (us.length).toInt32))]), (eO cl "java/util/ArrayList" [("java/util/AbstractList", "modCount", "I", (.int mc)), ("java/util/ArrayList", "elementData", "[Ljava/lang/Object;", (.ref dc)), ("java/util/ArrayList", "size", "I", (.int (xs.length).toInt32))])] ++ F) := OHere.pick H19 [4, 3, 2, 1, 0, 5, 6] (by decide) rfl
          obtain ⟨T21, _, _, ⟨rfl, rfl⟩, H21, st21⟩ := OHere.virtual Hp20 hx hZ14 (y := (⟨"com/example/deadletter/deadletter/worker/WaitingJobs", "size", "()I"⟩ : MethodName)) (z := (⟨"com/example/deadletter/deadletter/worker/WaitingJobs", "size", "()I"⟩ : MethodName)) (W := 0) (a := b16) (q := 0) (fs := [("com/example/deadletter/deadletter/worker/WaitingJobs", "ready", "Ljava/util/Deque;", (.ref r18)), ("com/example/deadletter/deadletter/worker/WaitingJobs", "toCount", "Ljava/util/Deque;", (.ref k18)), ("com/example/deadletter/deadletter/worker/WaitingJobs", "takenOver", "Lcom/example/deadletter/deadletter/job/Job;", .null)]) hown14 (tWd hw 109 rfl) (tWd hw 110 rfl) (nf_sel (tWd hw 112 rfl) rfl) (tWd hw 112 rfl) (tWd hw 111 rfl) (tWd hw 89 rfl) (tWd hw 113 rfl) (by decide) rfl (conWJs l Z a0 hw n0 [] b16 ([(eO ul "java/util/ArrayList" [("java/util/AbstractList", "modCount", "I", (.int mu)), ("java/util/ArrayList", "elementData", "[Ljava/lang/Object;", (.ref du)), ("java/util/ArrayList", "size", "I", (.int (us.length).toInt32))]), (eO cl "java/util/ArrayList" [("java/util/AbstractList", "modCount", "I", (.int mc)), ("java/util/ArrayList", "elementData", "[Ljava/lang/Object;", (.ref dc)), ("java/util/ArrayList", "size", "I", (.int (xs.length).toInt32))])] ++ F) .null rfl r18 dr18 k18 dk18 (dq ([] : List Addr)) (dq ([] : List Addr)) (0 : Int32) (0 : Int32) (0 : Int32) (0 : Int32) (0 : Int32) (0 : Int32) (dq_len (by decide)) (by decide) (dq_len (by decide)) (by decide)) (by decide) (by decide) (pc := 317) (Ls := #[vI u0, vI u1, vI u2, vI u3, vI nn, vR b1, vR b6, vR b11, vI tt, .val tv, vR cl, vR ul, vI (R.length).toInt32, vI (K.length).toInt32, vI (nb V), vR b16, uN, uN, uN, uN, uN, uN, uN, uN, uN]) (argsL := []) (rest := []) (by rw [hml]; rfl) (lenOf pd_ocI rfl) rfl (Nat.le_of_eq rfl) (hb hby at_317) (by decide) (by decide)
          replace H21 : OHere p l e _ (s.setVm T14.vm) m _ below meth c Z n0 ks14 T21 24 138 ([(eO b16 "com/example/deadletter/deadletter/worker/WaitingJobs" [("com/example/deadletter/deadletter/worker/WaitingJobs", "ready", "Ljava/util/Deque;", (.ref r18)), ("com/example/deadletter/deadletter/worker/WaitingJobs", "toCount", "Ljava/util/Deque;", (.ref k18)), ("com/example/deadletter/deadletter/worker/WaitingJobs", "takenOver", "Lcom/example/deadletter/deadletter/job/Job;", .null)]), (eO r18 "java/util/ArrayDeque" [("java/util/ArrayDeque", "elements", "[Ljava/lang/Object;", (.ref dr18)), ("java/util/ArrayDeque", "tail", "I", (.int (0 : Int32))), ("java/util/ArrayDeque", "head", "I", (.int (0 : Int32)))]), (eA dr18 (.object "java/lang/Object") (dq ([] : List Addr))), (eO k18 "java/util/ArrayDeque" [("java/util/ArrayDeque", "elements", "[Ljava/lang/Object;", (.ref dk18)), ("java/util/ArrayDeque", "tail", "I", (.int (0 : Int32))), ("java/util/ArrayDeque", "head", "I", (.int (0 : Int32)))]), (eA dk18 (.object "java/lang/Object") (dq ([] : List Addr))), (eO ul "java/util/ArrayList" [("java/util/AbstractList", "modCount", "I", (.int mu)), ("java/util/ArrayList", "elementData", "[Ljava/lang/Object;", (.ref du)), ("java/util/ArrayList", "size", "I", (.int (us.length).toInt32))]), (eO cl "java/util/ArrayList" [("java/util/AbstractList", "modCount", "I", (.int mc)), ("java/util/ArrayList", "elementData", "[Ljava/lang/Object;", (.ref dc)), ("java/util/ArrayList", "size", "I", (.int (xs.length).toInt32))])] ++ F) := H21
          refine OEndsW.pre (fun t_ k_ => st21 _ k_) ?_
          show OEndsW p e below s _ _ _ (T21.setTop (mkF m 320 #[vI u0, vI u1, vI u2, vI u3, vI nn, vR b1, vR b6, vR b11, vI tt, .val tv, vR cl, vR ul, vI (R.length).toInt32, vI (K.length).toInt32, vI (nb V), vR b16, uN, uN, uN, uN, uN, uN, uN, uN, uN] [(.int (((0 : Int32) + (0 : Int32)) + (nb .null)))]))
          refine OEndsW.pre (fun t_ k_ => XS.istore H21.here hx rfl (hb hby at_320) rfl (l' := #[vI u0, vI u1, vI u2, vI u3, vI nn, vR b1, vR b6, vR b11, vI tt, .val tv, vR cl, vR ul, vI (R.length).toInt32, vI (K.length).toInt32, vI (nb V), vR b16, vI (((0 : Int32) + (0 : Int32)) + (nb .null)), uN, uN, uN, uN, uN, uN, uN, uN]) rfl k_) ?_
          show OEndsW p e below s _ _ _ (T21.setTop (mkF m 322 #[vI u0, vI u1, vI u2, vI u3, vI nn, vR b1, vR b6, vR b11, vI tt, .val tv, vR cl, vR ul, vI (R.length).toInt32, vI (K.length).toInt32, vI (nb V), vR b16, vI (((0 : Int32) + (0 : Int32)) + (nb .null)), uN, uN, uN, uN, uN, uN, uN, uN] []))
          refine OEndsW.pre (fun t_ k_ => XS.aload H21.here hx rfl (hb hby at_322) rfl rfl k_) ?_
          show OEndsW p e below s _ _ _ (T21.setTop (mkF m 324 #[vI u0, vI u1, vI u2, vI u3, vI nn, vR b1, vR b6, vR b11, vI tt, .val tv, vR cl, vR ul, vI (R.length).toInt32, vI (K.length).toInt32, vI (nb V), vR b16, vI (((0 : Int32) + (0 : Int32)) + (nb .null)), uN, uN, uN, uN, uN, uN, uN, uN] [(.ref b16)]))
          refine OEndsW.pre (fun t_ k_ => XS.aload H21.here hx rfl (hb hby at_324) rfl rfl k_) ?_
          show OEndsW p e below s _ _ _ (T21.setTop (mkF m 326 #[vI u0, vI u1, vI u2, vI u3, vI nn, vR b1, vR b6, vR b11, vI tt, .val tv, vR cl, vR ul, vI (R.length).toInt32, vI (K.length).toInt32, vI (nb V), vR b16, vI (((0 : Int32) + (0 : Int32)) + (nb .null)), uN, uN, uN, uN, uN, uN, uN, uN] [(.ref cl), (.ref b16)]))
          refine OEndsW.pre (fun t_ k_ => XS.aload H21.here hx rfl (hb hby at_326) rfl rfl k_) ?_
          show OEndsW p e below s _ _ _ (T21.setTop (mkF m 328 #[vI u0, vI u1, vI u2, vI u3, vI nn, vR b1, vR b6, vR b11, vI tt, .val tv, vR cl, vR ul, vI (R.length).toInt32, vI (K.length).toInt32, vI (nb V), vR b16, vI (((0 : Int32) + (0 : Int32)) + (nb .null)), uN, uN, uN, uN, uN, uN, uN, uN] [(.ref ul), (.ref cl), (.ref b16)]))
          refine OEndsW.pre (fun t_ k_ => XS.aload H21.here hx rfl (hb hby at_328) rfl htv k_) ?_
          show OEndsW p e below s _ _ _ (T21.setTop (mkF m 330 #[vI u0, vI u1, vI u2, vI u3, vI nn, vR b1, vR b6, vR b11, vI tt, .val tv, vR cl, vR ul, vI (R.length).toInt32, vI (K.length).toInt32, vI (nb V), vR b16, vI (((0 : Int32) + (0 : Int32)) + (nb .null)), uN, uN, uN, uN, uN, uN, uN, uN] [tv, (.ref ul), (.ref cl), (.ref b16)]))
          have Hp23 : OHere p l e _ (s.setVm T14.vm) m _ below meth c Z n0 ks14 T21 24 138 ([(eO b16 "com/example/deadletter/deadletter/worker/WaitingJobs" [("com/example/deadletter/deadletter/worker/WaitingJobs", "ready", "Ljava/util/Deque;", (.ref r18)), ("com/example/deadletter/deadletter/worker/WaitingJobs", "toCount", "Ljava/util/Deque;", (.ref k18)), ("com/example/deadletter/deadletter/worker/WaitingJobs", "takenOver", "Lcom/example/deadletter/deadletter/job/Job;", .null)]), (eO r18 "java/util/ArrayDeque" [("java/util/ArrayDeque", "elements", "[Ljava/lang/Object;", (.ref dr18)), ("java/util/ArrayDeque", "tail", "I", (.int (0 : Int32))), ("java/util/ArrayDeque", "head", "I", (.int (0 : Int32)))]), (eA dr18 (.object "java/lang/Object") (dq ([] : List Addr))), (eO k18 "java/util/ArrayDeque" [("java/util/ArrayDeque", "elements", "[Ljava/lang/Object;", (.ref dk18)), ("java/util/ArrayDeque", "tail", "I", (.int (0 : Int32))), ("java/util/ArrayDeque", "head", "I", (.int (0 : Int32)))]), (eA dk18 (.object "java/lang/Object") (dq ([] : List Addr))), (eO cl "java/util/ArrayList" [("java/util/AbstractList", "modCount", "I", (.int mc)), ("java/util/ArrayList", "elementData", "[Ljava/lang/Object;", (.ref dc)), ("java/util/ArrayList", "size", "I", (.int (xs.length).toInt32))]), (eO ul "java/util/ArrayList" [("java/util/AbstractList", "modCount", "I", (.int mu)), ("java/util/ArrayList", "elementData", "[Ljava/lang/Object;", (.ref du)), ("java/util/ArrayList", "size", "I", (.int (us.length).toInt32))])] ++ F) := OHere.pick H21 [0, 1, 2, 3, 4, 6, 5] (by decide) rfl
          obtain ⟨T24, _, _, ⟨bq22, iq22, lq22, R', K', V', rfl, hRKV', -, rfl⟩, H24, st24⟩ := OHere.virtual Hp23 hx hZ14 (y := (⟨"com/example/deadletter/deadletter/worker/WaitingJobs", "add", "(Ljava/util/List;Ljava/util/Collection;Lcom/example/deadletter/deadletter/job/Job;)V"⟩ : MethodName)) (z := (⟨"com/example/deadletter/deadletter/worker/WaitingJobs", "add", "(Ljava/util/List;Ljava/util/Collection;Lcom/example/deadletter/deadletter/job/Job;)V"⟩ : MethodName)) (W := 0) (a := b16) (q := 0) (fs := [("com/example/deadletter/deadletter/worker/WaitingJobs", "ready", "Ljava/util/Deque;", (.ref r18)), ("com/example/deadletter/deadletter/worker/WaitingJobs", "toCount", "Ljava/util/Deque;", (.ref k18)), ("com/example/deadletter/deadletter/worker/WaitingJobs", "takenOver", "Lcom/example/deadletter/deadletter/job/Job;", .null)]) hown14 (tWd hw 132 rfl) (tWd hw 133 rfl) (nf_sel (tWd hw 112 rfl) rfl) (tWd hw 135 rfl) (tWd hw 134 rfl) (tWd hw 89 rfl) (tWd hw 136 rfl) (by decide) rfl (conWA l Z a0 hw n0 [] b16 cl ul tv ([] ++ F) htv xs us dc du r18 dr18 k18 dk18 mc mu hxs.len hnu (fun i y q => (hC i y q).imp fun _ h => ⟨List.mem_append_right _ h.1, h.2⟩) (fun i y q => (hU i y q).imp fun _ h => ⟨List.mem_append_right _ h.1, h.2⟩) (fun x hx => (hJF x hx).imp fun _ h => List.mem_append_right _ h)) (by decide) (by decide) (pc := 330) (Ls := #[vI u0, vI u1, vI u2, vI u3, vI nn, vR b1, vR b6, vR b11, vI tt, .val tv, vR cl, vR ul, vI (R.length).toInt32, vI (K.length).toInt32, vI (nb V), vR b16, vI (((0 : Int32) + (0 : Int32)) + (nb .null)), uN, uN, uN, uN, uN, uN, uN, uN]) (argsL := [(.ref cl), (.ref ul), tv]) (rest := []) (by rw [hml]; rfl) (lenOf pd_oLjava_util_List_Ljava_util_Collection_Lcom_example_deadletter_deadletter_job_Job_cV rfl) rfl (Nat.le_of_eq rfl) (hb hby at_330) (by decide) (by decide)
          replace H24 : OHere p l e _ (s.setVm T14.vm) m _ below meth c Z n0 ks14 T24 25 142 ([(eO bq22 "java/util/ArrayList$Itr" [("java/util/ArrayList$Itr", "this$0", "Ljava/util/ArrayList;", (.ref cl)), ("java/util/ArrayList$Itr", "lastRet", "I", (.int lq22)), ("java/util/ArrayList$Itr", "expectedModCount", "I", (.int mc)), ("java/util/ArrayList$Itr", "cursor", "I", (.int (iq22).toInt32))]), (eO b16 "com/example/deadletter/deadletter/worker/WaitingJobs" [("com/example/deadletter/deadletter/worker/WaitingJobs", "ready", "Ljava/util/Deque;", (.ref r18)), ("com/example/deadletter/deadletter/worker/WaitingJobs", "toCount", "Ljava/util/Deque;", (.ref k18)), ("com/example/deadletter/deadletter/worker/WaitingJobs", "takenOver", "Lcom/example/deadletter/deadletter/job/Job;", V')]), (eO r18 "java/util/ArrayDeque" [("java/util/ArrayDeque", "elements", "[Ljava/lang/Object;", (.ref dr18)), ("java/util/ArrayDeque", "tail", "I", (.int (R'.length).toInt32)), ("java/util/ArrayDeque", "head", "I", (.int (0 : Int32)))]), (eA dr18 (.object "java/lang/Object") (dq R')), (eO k18 "java/util/ArrayDeque" [("java/util/ArrayDeque", "elements", "[Ljava/lang/Object;", (.ref dk18)), ("java/util/ArrayDeque", "tail", "I", (.int (K'.length).toInt32)), ("java/util/ArrayDeque", "head", "I", (.int (0 : Int32)))]), (eA dk18 (.object "java/lang/Object") (dq K')), (eO cl "java/util/ArrayList" [("java/util/AbstractList", "modCount", "I", (.int mc)), ("java/util/ArrayList", "elementData", "[Ljava/lang/Object;", (.ref dc)), ("java/util/ArrayList", "size", "I", (.int (xs.length).toInt32))]), (eO ul "java/util/ArrayList" [("java/util/AbstractList", "modCount", "I", (.int mu)), ("java/util/ArrayList", "elementData", "[Ljava/lang/Object;", (.ref du)), ("java/util/ArrayList", "size", "I", (.int (us.length).toInt32))])] ++ F) := H24
          refine OEndsW.pre (fun t_ k_ => st24 _ k_) ?_
          show OEndsW p e below s _ _ _ (T24.setTop (mkF m 333 #[vI u0, vI u1, vI u2, vI u3, vI nn, vR b1, vR b6, vR b11, vI tt, .val tv, vR cl, vR ul, vI (R.length).toInt32, vI (K.length).toInt32, vI (nb V), vR b16, vI (((0 : Int32) + (0 : Int32)) + (nb .null)), uN, uN, uN, uN, uN, uN, uN, uN] []))
          obtain ⟨eR, eK, eV⟩ : R' = R ∧ K' = K ∧ V' = V := by have q := hRKV'.trans hRKV.symm; simpa using q
          rw [eR, eK, eV] at H24
          replace H24 : OHere p l e room_1 (s.setVm T14.vm) m #[(.int u0), (.int u1), (.int u2), (.int u3)] below meth c Z n0 ks14 T24 25 142 ([(eO bq22 "java/util/ArrayList$Itr" [("java/util/ArrayList$Itr", "this$0", "Ljava/util/ArrayList;", (.ref cl)), ("java/util/ArrayList$Itr", "lastRet", "I", (.int lq22)), ("java/util/ArrayList$Itr", "expectedModCount", "I", (.int mc)), ("java/util/ArrayList$Itr", "cursor", "I", (.int (iq22).toInt32))]), (eO b16 "com/example/deadletter/deadletter/worker/WaitingJobs" [("com/example/deadletter/deadletter/worker/WaitingJobs", "ready", "Ljava/util/Deque;", (.ref r18)), ("com/example/deadletter/deadletter/worker/WaitingJobs", "toCount", "Ljava/util/Deque;", (.ref k18)), ("com/example/deadletter/deadletter/worker/WaitingJobs", "takenOver", "Lcom/example/deadletter/deadletter/job/Job;", V)]), (eO r18 "java/util/ArrayDeque" [("java/util/ArrayDeque", "elements", "[Ljava/lang/Object;", (.ref dr18)), ("java/util/ArrayDeque", "tail", "I", (.int (R.length).toInt32)), ("java/util/ArrayDeque", "head", "I", (.int (0 : Int32)))]), (eA dr18 (.object "java/lang/Object") (dq R)), (eO k18 "java/util/ArrayDeque" [("java/util/ArrayDeque", "elements", "[Ljava/lang/Object;", (.ref dk18)), ("java/util/ArrayDeque", "tail", "I", (.int (K.length).toInt32)), ("java/util/ArrayDeque", "head", "I", (.int (0 : Int32)))]), (eA dk18 (.object "java/lang/Object") (dq K)), (eO cl "java/util/ArrayList" [("java/util/AbstractList", "modCount", "I", (.int mc)), ("java/util/ArrayList", "elementData", "[Ljava/lang/Object;", (.ref dc)), ("java/util/ArrayList", "size", "I", (.int (xs.length).toInt32))]), (eO ul "java/util/ArrayList" [("java/util/AbstractList", "modCount", "I", (.int mu)), ("java/util/ArrayList", "elementData", "[Ljava/lang/Object;", (.ref du)), ("java/util/ArrayList", "size", "I", (.int (us.length).toInt32))])] ++ F) := H24
          refine OEndsW.pre (fun t_ k_ => XS.aload H24.here hx rfl (hb hby at_333) rfl rfl k_) ?_
          show OEndsW p e below s _ _ _ (T24.setTop (mkF m 335 #[vI u0, vI u1, vI u2, vI u3, vI nn, vR b1, vR b6, vR b11, vI tt, .val tv, vR cl, vR ul, vI (R.length).toInt32, vI (K.length).toInt32, vI (nb V), vR b16, vI (((0 : Int32) + (0 : Int32)) + (nb .null)), uN, uN, uN, uN, uN, uN, uN, uN] [(.ref b16)]))
          have Hp25 : OHere p l e _ (s.setVm T14.vm) m _ below meth c Z n0 ks14 T24 25 142 ([(eO b16 "com/example/deadletter/deadletter/worker/WaitingJobs" [("com/example/deadletter/deadletter/worker/WaitingJobs", "ready", "Ljava/util/Deque;", (.ref r18)), ("com/example/deadletter/deadletter/worker/WaitingJobs", "toCount", "Ljava/util/Deque;", (.ref k18)), ("com/example/deadletter/deadletter/worker/WaitingJobs", "takenOver", "Lcom/example/deadletter/deadletter/job/Job;", V)]), (eO r18 "java/util/ArrayDeque" [("java/util/ArrayDeque", "elements", "[Ljava/lang/Object;", (.ref dr18)), ("java/util/ArrayDeque", "tail", "I", (.int (R.length).toInt32)), ("java/util/ArrayDeque", "head", "I", (.int (0 : Int32)))]), (eA dr18 (.object "java/lang/Object") (dq R)), (eO k18 "java/util/ArrayDeque" [("java/util/ArrayDeque", "elements", "[Ljava/lang/Object;", (.ref dk18)), ("java/util/ArrayDeque", "tail", "I", (.int (K.length).toInt32)), ("java/util/ArrayDeque", "head", "I", (.int (0 : Int32)))]), (eA dk18 (.object "java/lang/Object") (dq K)), (eO bq22 "java/util/ArrayList$Itr" [("java/util/ArrayList$Itr", "this$0", "Ljava/util/ArrayList;", (.ref cl)), ("java/util/ArrayList$Itr", "lastRet", "I", (.int lq22)), ("java/util/ArrayList$Itr", "expectedModCount", "I", (.int mc)), ("java/util/ArrayList$Itr", "cursor", "I", (.int (iq22).toInt32))]), (eO cl "java/util/ArrayList" [("java/util/AbstractList", "modCount", "I", (.int mc)), ("java/util/ArrayList", "elementData", "[Ljava/lang/Object;", (.ref dc)), ("java/util/ArrayList", "size", "I", (.int (xs.length).toInt32))]), (eO ul "java/util/ArrayList" [("java/util/AbstractList", "modCount", "I", (.int mu)), ("java/util/ArrayList", "elementData", "[Ljava/lang/Object;", (.ref du)), ("java/util/ArrayList", "size", "I", (.int (us.length).toInt32))])] ++ F) := OHere.pick H24 [1, 2, 3, 4, 5, 0, 6, 7] (by decide) rfl
          obtain ⟨T26, _, _, ⟨rfl, rfl⟩, H26, st26⟩ := OHere.virtual Hp25 hx hZ14 (y := (⟨"com/example/deadletter/deadletter/worker/WaitingJobs", "size", "()I"⟩ : MethodName)) (z := (⟨"com/example/deadletter/deadletter/worker/WaitingJobs", "size", "()I"⟩ : MethodName)) (W := 0) (a := b16) (q := 0) (fs := [("com/example/deadletter/deadletter/worker/WaitingJobs", "ready", "Ljava/util/Deque;", (.ref r18)), ("com/example/deadletter/deadletter/worker/WaitingJobs", "toCount", "Ljava/util/Deque;", (.ref k18)), ("com/example/deadletter/deadletter/worker/WaitingJobs", "takenOver", "Lcom/example/deadletter/deadletter/job/Job;", V)]) hown14 (tWd hw 109 rfl) (tWd hw 110 rfl) (nf_sel (tWd hw 112 rfl) rfl) (tWd hw 112 rfl) (tWd hw 111 rfl) (tWd hw 89 rfl) (tWd hw 113 rfl) (by decide) rfl (conWJs l Z a0 hw n0 [] b16 ([(eO bq22 "java/util/ArrayList$Itr" [("java/util/ArrayList$Itr", "this$0", "Ljava/util/ArrayList;", (.ref cl)), ("java/util/ArrayList$Itr", "lastRet", "I", (.int lq22)), ("java/util/ArrayList$Itr", "expectedModCount", "I", (.int mc)), ("java/util/ArrayList$Itr", "cursor", "I", (.int (iq22).toInt32))]), (eO cl "java/util/ArrayList" [("java/util/AbstractList", "modCount", "I", (.int mc)), ("java/util/ArrayList", "elementData", "[Ljava/lang/Object;", (.ref dc)), ("java/util/ArrayList", "size", "I", (.int (xs.length).toInt32))]), (eO ul "java/util/ArrayList" [("java/util/AbstractList", "modCount", "I", (.int mu)), ("java/util/ArrayList", "elementData", "[Ljava/lang/Object;", (.ref du)), ("java/util/ArrayList", "size", "I", (.int (us.length).toInt32))])] ++ F) V hVr r18 dr18 k18 dk18 (dq R) (dq K) (R.length).toInt32 (0 : Int32) (R.length).toInt32 (K.length).toInt32 (0 : Int32) (K.length).toInt32 (dq_len (by omega)) (sub_k _ (by omega)) (dq_len (by omega)) (sub_k _ (by omega))) (by decide) (by decide) (pc := 335) (Ls := #[vI u0, vI u1, vI u2, vI u3, vI nn, vR b1, vR b6, vR b11, vI tt, .val tv, vR cl, vR ul, vI (R.length).toInt32, vI (K.length).toInt32, vI (nb V), vR b16, vI (((0 : Int32) + (0 : Int32)) + (nb .null)), uN, uN, uN, uN, uN, uN, uN, uN]) (argsL := []) (rest := []) (by rw [hml]; rfl) (lenOf pd_ocI rfl) rfl (Nat.le_of_eq rfl) (hb hby at_335) (by decide) (by decide)
          replace H26 : OHere p l e _ (s.setVm T14.vm) m _ below meth c Z n0 ks14 T26 25 142 ([(eO b16 "com/example/deadletter/deadletter/worker/WaitingJobs" [("com/example/deadletter/deadletter/worker/WaitingJobs", "ready", "Ljava/util/Deque;", (.ref r18)), ("com/example/deadletter/deadletter/worker/WaitingJobs", "toCount", "Ljava/util/Deque;", (.ref k18)), ("com/example/deadletter/deadletter/worker/WaitingJobs", "takenOver", "Lcom/example/deadletter/deadletter/job/Job;", V)]), (eO r18 "java/util/ArrayDeque" [("java/util/ArrayDeque", "elements", "[Ljava/lang/Object;", (.ref dr18)), ("java/util/ArrayDeque", "tail", "I", (.int (R.length).toInt32)), ("java/util/ArrayDeque", "head", "I", (.int (0 : Int32)))]), (eA dr18 (.object "java/lang/Object") (dq R)), (eO k18 "java/util/ArrayDeque" [("java/util/ArrayDeque", "elements", "[Ljava/lang/Object;", (.ref dk18)), ("java/util/ArrayDeque", "tail", "I", (.int (K.length).toInt32)), ("java/util/ArrayDeque", "head", "I", (.int (0 : Int32)))]), (eA dk18 (.object "java/lang/Object") (dq K)), (eO bq22 "java/util/ArrayList$Itr" [("java/util/ArrayList$Itr", "this$0", "Ljava/util/ArrayList;", (.ref cl)), ("java/util/ArrayList$Itr", "lastRet", "I", (.int lq22)), ("java/util/ArrayList$Itr", "expectedModCount", "I", (.int mc)), ("java/util/ArrayList$Itr", "cursor", "I", (.int (iq22).toInt32))]), (eO cl "java/util/ArrayList" [("java/util/AbstractList", "modCount", "I", (.int mc)), ("java/util/ArrayList", "elementData", "[Ljava/lang/Object;", (.ref dc)), ("java/util/ArrayList", "size", "I", (.int (xs.length).toInt32))]), (eO ul "java/util/ArrayList" [("java/util/AbstractList", "modCount", "I", (.int mu)), ("java/util/ArrayList", "elementData", "[Ljava/lang/Object;", (.ref du)), ("java/util/ArrayList", "size", "I", (.int (us.length).toInt32))])] ++ F) := H26
          refine OEndsW.pre (fun t_ k_ => st26 _ k_) ?_
          show OEndsW p e below s _ _ _ (T26.setTop (mkF m 338 #[vI u0, vI u1, vI u2, vI u3, vI nn, vR b1, vR b6, vR b11, vI tt, .val tv, vR cl, vR ul, vI (R.length).toInt32, vI (K.length).toInt32, vI (nb V), vR b16, vI (((0 : Int32) + (0 : Int32)) + (nb .null)), uN, uN, uN, uN, uN, uN, uN, uN] [(.int (((R.length).toInt32 + (K.length).toInt32) + (nb V)))]))
          refine OEndsW.pre (fun t_ k_ => XS.istore H26.here hx rfl (hb hby at_338) rfl (l' := #[vI u0, vI u1, vI u2, vI u3, vI nn, vR b1, vR b6, vR b11, vI tt, .val tv, vR cl, vR ul, vI (R.length).toInt32, vI (K.length).toInt32, vI (nb V), vR b16, vI (((0 : Int32) + (0 : Int32)) + (nb .null)), vI (((R.length).toInt32 + (K.length).toInt32) + (nb V)), uN, uN, uN, uN, uN, uN, uN]) rfl k_) ?_
          show OEndsW p e below s _ _ _ (T26.setTop (mkF m 340 #[vI u0, vI u1, vI u2, vI u3, vI nn, vR b1, vR b6, vR b11, vI tt, .val tv, vR cl, vR ul, vI (R.length).toInt32, vI (K.length).toInt32, vI (nb V), vR b16, vI (((0 : Int32) + (0 : Int32)) + (nb .null)), vI (((R.length).toInt32 + (K.length).toInt32) + (nb V)), uN, uN, uN, uN, uN, uN, uN] []))
          refine OEndsW.pre (fun t_ k_ => XS.iload H26.here hx rfl (hb hby at_340) rfl k_) ?_
          show OEndsW p e below s _ _ _ (T26.setTop (mkF m 342 #[vI u0, vI u1, vI u2, vI u3, vI nn, vR b1, vR b6, vR b11, vI tt, .val tv, vR cl, vR ul, vI (R.length).toInt32, vI (K.length).toInt32, vI (nb V), vR b16, vI (((0 : Int32) + (0 : Int32)) + (nb .null)), vI (((R.length).toInt32 + (K.length).toInt32) + (nb V)), uN, uN, uN, uN, uN, uN, uN] [(.int (R.length).toInt32)]))
          refine OEndsW.pre (fun t_ k_ => XS.iload H26.here hx rfl (hb hby at_342) rfl k_) ?_
          show OEndsW p e below s _ _ _ (T26.setTop (mkF m 344 #[vI u0, vI u1, vI u2, vI u3, vI nn, vR b1, vR b6, vR b11, vI tt, .val tv, vR cl, vR ul, vI (R.length).toInt32, vI (K.length).toInt32, vI (nb V), vR b16, vI (((0 : Int32) + (0 : Int32)) + (nb .null)), vI (((R.length).toInt32 + (K.length).toInt32) + (nb V)), uN, uN, uN, uN, uN, uN, uN] [(.int (K.length).toInt32), (.int (R.length).toInt32)]))
          refine OEndsW.pre (fun t_ k_ => XS.iadd H26.here hx rfl (hb hby at_344) rfl k_) ?_
          show OEndsW p e below s _ _ _ (T26.setTop (mkF m 345 #[vI u0, vI u1, vI u2, vI u3, vI nn, vR b1, vR b6, vR b11, vI tt, .val tv, vR cl, vR ul, vI (R.length).toInt32, vI (K.length).toInt32, vI (nb V), vR b16, vI (((0 : Int32) + (0 : Int32)) + (nb .null)), vI (((R.length).toInt32 + (K.length).toInt32) + (nb V)), uN, uN, uN, uN, uN, uN, uN] [(.int ((R.length).toInt32 + (K.length).toInt32))]))
          refine OEndsW.pre (fun t_ k_ => XS.iload H26.here hx rfl (hb hby at_345) rfl k_) ?_
          show OEndsW p e below s _ _ _ (T26.setTop (mkF m 347 #[vI u0, vI u1, vI u2, vI u3, vI nn, vR b1, vR b6, vR b11, vI tt, .val tv, vR cl, vR ul, vI (R.length).toInt32, vI (K.length).toInt32, vI (nb V), vR b16, vI (((0 : Int32) + (0 : Int32)) + (nb .null)), vI (((R.length).toInt32 + (K.length).toInt32) + (nb V)), uN, uN, uN, uN, uN, uN, uN] [(.int (nb V)), (.int ((R.length).toInt32 + (K.length).toInt32))]))
          refine OEndsW.pre (fun t_ k_ => XS.iadd H26.here hx rfl (hb hby at_347) rfl k_) ?_
          show OEndsW p e below s _ _ _ (T26.setTop (mkF m 348 #[vI u0, vI u1, vI u2, vI u3, vI nn, vR b1, vR b6, vR b11, vI tt, .val tv, vR cl, vR ul, vI (R.length).toInt32, vI (K.length).toInt32, vI (nb V), vR b16, vI (((0 : Int32) + (0 : Int32)) + (nb .null)), vI (((R.length).toInt32 + (K.length).toInt32) + (nb V)), uN, uN, uN, uN, uN, uN, uN] [(.int (((R.length).toInt32 + (K.length).toInt32) + (nb V)))]))
          refine OEndsW.pre (fun t_ k_ => XS.istore H26.here hx rfl (hb hby at_348) rfl (l' := #[vI u0, vI u1, vI u2, vI u3, vI nn, vR b1, vR b6, vR b11, vI tt, .val tv, vR cl, vR ul, vI (R.length).toInt32, vI (K.length).toInt32, vI (nb V), vR b16, vI (((0 : Int32) + (0 : Int32)) + (nb .null)), vI (((R.length).toInt32 + (K.length).toInt32) + (nb V)), vI (((R.length).toInt32 + (K.length).toInt32) + (nb V)), uN, uN, uN, uN, uN, uN]) rfl k_) ?_
          show OEndsW p e below s _ _ _ (T26.setTop (mkF m 350 #[vI u0, vI u1, vI u2, vI u3, vI nn, vR b1, vR b6, vR b11, vI tt, .val tv, vR cl, vR ul, vI (R.length).toInt32, vI (K.length).toInt32, vI (nb V), vR b16, vI (((0 : Int32) + (0 : Int32)) + (nb .null)), vI (((R.length).toInt32 + (K.length).toInt32) + (nb V)), vI (((R.length).toInt32 + (K.length).toInt32) + (nb V)), uN, uN, uN, uN, uN, uN] []))
          refine OEndsW.pre (fun t_ k_ => XS.iloadN H26.here hx rfl (hb hby at_350) rfl k_) ?_
          show OEndsW p e below s _ _ _ (T26.setTop (mkF m 351 #[vI u0, vI u1, vI u2, vI u3, vI nn, vR b1, vR b6, vR b11, vI tt, .val tv, vR cl, vR ul, vI (R.length).toInt32, vI (K.length).toInt32, vI (nb V), vR b16, vI (((0 : Int32) + (0 : Int32)) + (nb .null)), vI (((R.length).toInt32 + (K.length).toInt32) + (nb V)), vI (((R.length).toInt32 + (K.length).toInt32) + (nb V)), uN, uN, uN, uN, uN, uN] [(.int u3)]))
          refine OEndsW.pre (fun t_ k_ => XT.iconstV H26.here hx rfl (1 : Int32) (hb hby at_351) rfl k_) ?_
          show OEndsW p e below s _ _ _ (T26.setTop (mkF m 352 #[vI u0, vI u1, vI u2, vI u3, vI nn, vR b1, vR b6, vR b11, vI tt, .val tv, vR cl, vR ul, vI (R.length).toInt32, vI (K.length).toInt32, vI (nb V), vR b16, vI (((0 : Int32) + (0 : Int32)) + (nb .null)), vI (((R.length).toInt32 + (K.length).toInt32) + (nb V)), vI (((R.length).toInt32 + (K.length).toInt32) + (nb V)), uN, uN, uN, uN, uN, uN] [(.int (1 : Int32)), (.int u3)]))
          refine OEndsW.pre (fun t_ k_ => XT.iushr H26.here hx rfl (hb hby at_352) rfl k_) ?_
          show OEndsW p e below s _ _ _ (T26.setTop (mkF m 353 #[vI u0, vI u1, vI u2, vI u3, vI nn, vR b1, vR b6, vR b11, vI tt, .val tv, vR cl, vR ul, vI (R.length).toInt32, vI (K.length).toInt32, vI (nb V), vR b16, vI (((0 : Int32) + (0 : Int32)) + (nb .null)), vI (((R.length).toInt32 + (K.length).toInt32) + (nb V)), vI (((R.length).toInt32 + (K.length).toInt32) + (nb V)), uN, uN, uN, uN, uN, uN] [(.int (XT.ushr u3 (1 : Int32)))]))
          refine OEndsW.pre (fun t_ k_ => XT.iconstV H26.here hx rfl (3 : Int32) (hb hby at_353) rfl k_) ?_
          show OEndsW p e below s _ _ _ (T26.setTop (mkF m 354 #[vI u0, vI u1, vI u2, vI u3, vI nn, vR b1, vR b6, vR b11, vI tt, .val tv, vR cl, vR ul, vI (R.length).toInt32, vI (K.length).toInt32, vI (nb V), vR b16, vI (((0 : Int32) + (0 : Int32)) + (nb .null)), vI (((R.length).toInt32 + (K.length).toInt32) + (nb V)), vI (((R.length).toInt32 + (K.length).toInt32) + (nb V)), uN, uN, uN, uN, uN, uN] [(.int (3 : Int32)), (.int (XT.ushr u3 (1 : Int32)))]))
          refine OEndsW.pre (fun t_ k_ => XS.iand H26.here hx rfl (hb hby at_354) rfl k_) ?_
          show OEndsW p e below s _ _ _ (T26.setTop (mkF m 355 #[vI u0, vI u1, vI u2, vI u3, vI nn, vR b1, vR b6, vR b11, vI tt, .val tv, vR cl, vR ul, vI (R.length).toInt32, vI (K.length).toInt32, vI (nb V), vR b16, vI (((0 : Int32) + (0 : Int32)) + (nb .null)), vI (((R.length).toInt32 + (K.length).toInt32) + (nb V)), vI (((R.length).toInt32 + (K.length).toInt32) + (nb V)), uN, uN, uN, uN, uN, uN] [(.int ((XT.ushr u3 (1 : Int32)) &&& (3 : Int32)))]))
          refine OEndsW.pre (fun t_ k_ => XT.iconstV H26.here hx rfl (3 : Int32) (hb hby at_355) rfl k_) ?_
          show OEndsW p e below s _ _ _ (T26.setTop (mkF m 356 #[vI u0, vI u1, vI u2, vI u3, vI nn, vR b1, vR b6, vR b11, vI tt, .val tv, vR cl, vR ul, vI (R.length).toInt32, vI (K.length).toInt32, vI (nb V), vR b16, vI (((0 : Int32) + (0 : Int32)) + (nb .null)), vI (((R.length).toInt32 + (K.length).toInt32) + (nb V)), vI (((R.length).toInt32 + (K.length).toInt32) + (nb V)), uN, uN, uN, uN, uN, uN] [(.int (3 : Int32)), (.int ((XT.ushr u3 (1 : Int32)) &&& (3 : Int32)))]))
          refine OEndsW.pre (fun t_ k_ => OHere.irem H26 hx rfl (hb hby at_356) rfl (by decide) k_) ?_
          show OEndsW p e below s _ _ _ (T26.setTop (mkF m 357 #[vI u0, vI u1, vI u2, vI u3, vI nn, vR b1, vR b6, vR b11, vI tt, .val tv, vR cl, vR ul, vI (R.length).toInt32, vI (K.length).toInt32, vI (nb V), vR b16, vI (((0 : Int32) + (0 : Int32)) + (nb .null)), vI (((R.length).toInt32 + (K.length).toInt32) + (nb V)), vI (((R.length).toInt32 + (K.length).toInt32) + (nb V)), uN, uN, uN, uN, uN, uN] [(.int (((XT.ushr u3 (1 : Int32)) &&& (3 : Int32)) % (3 : Int32)))]))
          generalize hciE : (((XT.ushr u3 (1 : Int32)) &&& (3 : Int32)) % (3 : Int32)) = ci
          have hci : ci = 0 ∨ ci = 1 ∨ ci = 2 := by rw [← hciE]; exact (rem3 _)
          refine OEndsW.pre (fun t_ k_ => XS.istore H26.here hx rfl (hb hby at_357) rfl (l' := #[vI u0, vI u1, vI u2, vI u3, vI nn, vR b1, vR b6, vR b11, vI tt, .val tv, vR cl, vR ul, vI (R.length).toInt32, vI (K.length).toInt32, vI (nb V), vR b16, vI (((0 : Int32) + (0 : Int32)) + (nb .null)), vI (((R.length).toInt32 + (K.length).toInt32) + (nb V)), vI (((R.length).toInt32 + (K.length).toInt32) + (nb V)), vI ci, uN, uN, uN, uN, uN]) rfl k_) ?_
          show OEndsW p e below s _ _ _ (T26.setTop (mkF m 359 #[vI u0, vI u1, vI u2, vI u3, vI nn, vR b1, vR b6, vR b11, vI tt, .val tv, vR cl, vR ul, vI (R.length).toInt32, vI (K.length).toInt32, vI (nb V), vR b16, vI (((0 : Int32) + (0 : Int32)) + (nb .null)), vI (((R.length).toInt32 + (K.length).toInt32) + (nb V)), vI (((R.length).toInt32 + (K.length).toInt32) + (nb V)), vI ci, uN, uN, uN, uN, uN] []))
          have HP : OHere p l e room_1 (s.setVm T14.vm) m #[(.int u0), (.int u1), (.int u2), (.int u3)] below meth c Z n0 ks14 T26 25 142 ([(eO b16 "com/example/deadletter/deadletter/worker/WaitingJobs" [("com/example/deadletter/deadletter/worker/WaitingJobs", "ready", "Ljava/util/Deque;", (.ref r18)), ("com/example/deadletter/deadletter/worker/WaitingJobs", "toCount", "Ljava/util/Deque;", (.ref k18)), ("com/example/deadletter/deadletter/worker/WaitingJobs", "takenOver", "Lcom/example/deadletter/deadletter/job/Job;", V)]), (eO r18 "java/util/ArrayDeque" [("java/util/ArrayDeque", "elements", "[Ljava/lang/Object;", (.ref dr18)), ("java/util/ArrayDeque", "tail", "I", (.int (R.length).toInt32)), ("java/util/ArrayDeque", "head", "I", (.int (0 : Int32)))]), (eA dr18 (.object "java/lang/Object") (dq R)), (eO k18 "java/util/ArrayDeque" [("java/util/ArrayDeque", "elements", "[Ljava/lang/Object;", (.ref dk18)), ("java/util/ArrayDeque", "tail", "I", (.int (K.length).toInt32)), ("java/util/ArrayDeque", "head", "I", (.int (0 : Int32)))]), (eA dk18 (.object "java/lang/Object") (dq K)), (eO bq22 "java/util/ArrayList$Itr" [("java/util/ArrayList$Itr", "this$0", "Ljava/util/ArrayList;", (.ref cl)), ("java/util/ArrayList$Itr", "lastRet", "I", (.int lq22)), ("java/util/ArrayList$Itr", "expectedModCount", "I", (.int mc)), ("java/util/ArrayList$Itr", "cursor", "I", (.int (iq22).toInt32))]), (eO cl "java/util/ArrayList" [("java/util/AbstractList", "modCount", "I", (.int mc)), ("java/util/ArrayList", "elementData", "[Ljava/lang/Object;", (.ref dc)), ("java/util/ArrayList", "size", "I", (.int (xs.length).toInt32))]), (eO ul "java/util/ArrayList" [("java/util/AbstractList", "modCount", "I", (.int mu)), ("java/util/ArrayList", "elementData", "[Ljava/lang/Object;", (.ref du)), ("java/util/ArrayList", "size", "I", (.int (us.length).toInt32))])] ++ F) := OHere.pick H26 [0, 1, 2, 3, 4, 5, 6, 7] (by decide) rfl
          obtain ⟨G, hg0, hg1, hg2, HG⟩ : ∃ G : List OEnt, eO b1 "com/example/deadletter/deadletter/job/Job" f0 ∈ G ∧ eO b6 "com/example/deadletter/deadletter/job/Job" f1 ∈ G ∧ eO b11 "com/example/deadletter/deadletter/job/Job" f2 ∈ G ∧ OHere p l e room_1 (s.setVm T14.vm) m #[(.int u0), (.int u1), (.int u2), (.int u3)] below meth c Z n0 ks14 T26 25 142 ([(eO b16 "com/example/deadletter/deadletter/worker/WaitingJobs" [("com/example/deadletter/deadletter/worker/WaitingJobs", "ready", "Ljava/util/Deque;", (.ref r18)), ("com/example/deadletter/deadletter/worker/WaitingJobs", "toCount", "Ljava/util/Deque;", (.ref k18)), ("com/example/deadletter/deadletter/worker/WaitingJobs", "takenOver", "Lcom/example/deadletter/deadletter/job/Job;", V)]), (eO r18 "java/util/ArrayDeque" [("java/util/ArrayDeque", "elements", "[Ljava/lang/Object;", (.ref dr18)), ("java/util/ArrayDeque", "tail", "I", (.int (R.length).toInt32)), ("java/util/ArrayDeque", "head", "I", (.int (0 : Int32)))]), (eA dr18 (.object "java/lang/Object") (dq R)), (eO k18 "java/util/ArrayDeque" [("java/util/ArrayDeque", "elements", "[Ljava/lang/Object;", (.ref dk18)), ("java/util/ArrayDeque", "tail", "I", (.int (K.length).toInt32)), ("java/util/ArrayDeque", "head", "I", (.int (0 : Int32)))]), (eA dk18 (.object "java/lang/Object") (dq K))] ++ G) := ⟨[(eO bq22 "java/util/ArrayList$Itr" [("java/util/ArrayList$Itr", "this$0", "Ljava/util/ArrayList;", (.ref cl)), ("java/util/ArrayList$Itr", "lastRet", "I", (.int lq22)), ("java/util/ArrayList$Itr", "expectedModCount", "I", (.int mc)), ("java/util/ArrayList$Itr", "cursor", "I", (.int (iq22).toInt32))]), (eO cl "java/util/ArrayList" [("java/util/AbstractList", "modCount", "I", (.int mc)), ("java/util/ArrayList", "elementData", "[Ljava/lang/Object;", (.ref dc)), ("java/util/ArrayList", "size", "I", (.int (xs.length).toInt32))]), (eO ul "java/util/ArrayList" [("java/util/AbstractList", "modCount", "I", (.int mu)), ("java/util/ArrayList", "elementData", "[Ljava/lang/Object;", (.ref du)), ("java/util/ArrayList", "size", "I", (.int (us.length).toInt32))])] ++ F, List.mem_append_right _ hj0, List.mem_append_right _ hj1, List.mem_append_right _ hj2, HP⟩
          have hJG : ∀ x ∈ xs, ∃ fx : List OFEnt, eO x "com/example/deadletter/deadletter/job/Job" fx ∈ G := fun x hx => by rcases hxs.mem hx with rfl | rfl | rfl <;> first | exact ⟨_, hg0⟩ | exact ⟨_, hg1⟩ | exact ⟨_, hg2⟩
          have tail454 : ∀ (jc : Addr) (s2 e2 : Int32) (T : State) (V' : Value) (tl hd r1 : Int32) (v1 : List Value), s2 = e2 → V'.isRef = true → v1.length = 17 → f15 tl hd 17 = r1 → OHere p l e room_1 (s.setVm T14.vm) m #[(.int u0), (.int u1), (.int u2), (.int u3)] below meth c Z n0 ks14 T 25 142 ([(eO b16 "com/example/deadletter/deadletter/worker/WaitingJobs" [("com/example/deadletter/deadletter/worker/WaitingJobs", "ready", "Ljava/util/Deque;", (.ref r18)), ("com/example/deadletter/deadletter/worker/WaitingJobs", "toCount", "Ljava/util/Deque;", (.ref k18)), ("com/example/deadletter/deadletter/worker/WaitingJobs", "takenOver", "Lcom/example/deadletter/deadletter/job/Job;", V')]), (eO r18 "java/util/ArrayDeque" [("java/util/ArrayDeque", "elements", "[Ljava/lang/Object;", (.ref dr18)), ("java/util/ArrayDeque", "tail", "I", (.int tl)), ("java/util/ArrayDeque", "head", "I", (.int hd))]), (eA dr18 (.object "java/lang/Object") v1), (eO k18 "java/util/ArrayDeque" [("java/util/ArrayDeque", "elements", "[Ljava/lang/Object;", (.ref dk18)), ("java/util/ArrayDeque", "tail", "I", (.int (K.length).toInt32)), ("java/util/ArrayDeque", "head", "I", (.int (0 : Int32)))]), (eA dk18 (.object "java/lang/Object") (dq K))] ++ G) → OEndsW p e below s room_1.cells room_1.slots (fun v' h' L => Fr n0 L ∧ v' = some (.int 1)) (T.setTop (mkF m 454 #[vI u0, vI u1, vI u2, vI u3, vI nn, vR b1, vR b6, vR b11, vI tt, .val tv, vR cl, vR ul, vI r1, vI (K.length).toInt32, vI (nb V'), vR b16, vI (((0 : Int32) + (0 : Int32)) + (nb .null)), vI (((R.length).toInt32 + (K.length).toInt32) + (nb V)), vI (((R.length).toInt32 + (K.length).toInt32) + (nb V)), vI ci, vR jc, vI s2, vI e2, uN, uN] [])) := by
            intro jc s2 e2 T V' tl hd r1 v1 hs2 hV' hv1 hr1 H
            refine OEndsW.pre (fun t_ k_ => XS.aload H.here hx rfl (hb hby at_454) rfl rfl k_) ?_
            show OEndsW p e below s _ _ _ (T.setTop (mkF m 456 #[vI u0, vI u1, vI u2, vI u3, vI nn, vR b1, vR b6, vR b11, vI tt, .val tv, vR cl, vR ul, vI r1, vI (K.length).toInt32, vI (nb V'), vR b16, vI (((0 : Int32) + (0 : Int32)) + (nb .null)), vI (((R.length).toInt32 + (K.length).toInt32) + (nb V)), vI (((R.length).toInt32 + (K.length).toInt32) + (nb V)), vI ci, vR jc, vI s2, vI e2, uN, uN] [(.ref b16)]))
            obtain ⟨T27, _, _, ⟨rfl, rfl⟩, H27, st27⟩ := OHere.virtual H hx hZ14 (y := (⟨"com/example/deadletter/deadletter/worker/WaitingJobs", "size", "()I"⟩ : MethodName)) (z := (⟨"com/example/deadletter/deadletter/worker/WaitingJobs", "size", "()I"⟩ : MethodName)) (W := 0) (a := b16) (q := 0) (fs := [("com/example/deadletter/deadletter/worker/WaitingJobs", "ready", "Ljava/util/Deque;", (.ref r18)), ("com/example/deadletter/deadletter/worker/WaitingJobs", "toCount", "Ljava/util/Deque;", (.ref k18)), ("com/example/deadletter/deadletter/worker/WaitingJobs", "takenOver", "Lcom/example/deadletter/deadletter/job/Job;", V')]) hown14 (tWd hw 109 rfl) (tWd hw 110 rfl) (nf_sel (tWd hw 112 rfl) rfl) (tWd hw 112 rfl) (tWd hw 111 rfl) (tWd hw 89 rfl) (tWd hw 113 rfl) (by decide) rfl (conWJs l Z a0 hw n0 [] b16 ([] ++ G) V' hV' r18 dr18 k18 dk18 v1 (dq K) tl hd r1 (K.length).toInt32 (0 : Int32) (K.length).toInt32 hv1 hr1 (dq_len (by omega)) (sub_k _ (by omega))) (by decide) (by decide) (pc := 456) (Ls := #[vI u0, vI u1, vI u2, vI u3, vI nn, vR b1, vR b6, vR b11, vI tt, .val tv, vR cl, vR ul, vI r1, vI (K.length).toInt32, vI (nb V'), vR b16, vI (((0 : Int32) + (0 : Int32)) + (nb .null)), vI (((R.length).toInt32 + (K.length).toInt32) + (nb V)), vI (((R.length).toInt32 + (K.length).toInt32) + (nb V)), vI ci, vR jc, vI s2, vI e2, uN, uN]) (argsL := []) (rest := []) (by rw [hml]; rfl) (lenOf pd_ocI rfl) rfl (Nat.le_of_eq rfl) (hb hby at_456) (by decide) (by decide)
            replace H27 : OHere p l e _ (s.setVm T14.vm) m _ below meth c Z n0 ks14 T27 25 142 ([(eO b16 "com/example/deadletter/deadletter/worker/WaitingJobs" [("com/example/deadletter/deadletter/worker/WaitingJobs", "ready", "Ljava/util/Deque;", (.ref r18)), ("com/example/deadletter/deadletter/worker/WaitingJobs", "toCount", "Ljava/util/Deque;", (.ref k18)), ("com/example/deadletter/deadletter/worker/WaitingJobs", "takenOver", "Lcom/example/deadletter/deadletter/job/Job;", V')]), (eO r18 "java/util/ArrayDeque" [("java/util/ArrayDeque", "elements", "[Ljava/lang/Object;", (.ref dr18)), ("java/util/ArrayDeque", "tail", "I", (.int tl)), ("java/util/ArrayDeque", "head", "I", (.int hd))]), (eA dr18 (.object "java/lang/Object") v1), (eO k18 "java/util/ArrayDeque" [("java/util/ArrayDeque", "elements", "[Ljava/lang/Object;", (.ref dk18)), ("java/util/ArrayDeque", "tail", "I", (.int (K.length).toInt32)), ("java/util/ArrayDeque", "head", "I", (.int (0 : Int32)))]), (eA dk18 (.object "java/lang/Object") (dq K))] ++ G) := H27
            refine OEndsW.pre (fun t_ k_ => st27 _ k_) ?_
            show OEndsW p e below s _ _ _ (T27.setTop (mkF m 459 #[vI u0, vI u1, vI u2, vI u3, vI nn, vR b1, vR b6, vR b11, vI tt, .val tv, vR cl, vR ul, vI r1, vI (K.length).toInt32, vI (nb V'), vR b16, vI (((0 : Int32) + (0 : Int32)) + (nb .null)), vI (((R.length).toInt32 + (K.length).toInt32) + (nb V)), vI (((R.length).toInt32 + (K.length).toInt32) + (nb V)), vI ci, vR jc, vI s2, vI e2, uN, uN] [(.int ((r1 + (K.length).toInt32) + (nb V')))]))
            refine OEndsW.pre (fun t_ k_ => XS.istore H27.here hx rfl (hb hby at_459) rfl (l' := #[vI u0, vI u1, vI u2, vI u3, vI nn, vR b1, vR b6, vR b11, vI tt, .val tv, vR cl, vR ul, vI r1, vI (K.length).toInt32, vI (nb V'), vR b16, vI (((0 : Int32) + (0 : Int32)) + (nb .null)), vI (((R.length).toInt32 + (K.length).toInt32) + (nb V)), vI (((R.length).toInt32 + (K.length).toInt32) + (nb V)), vI ci, vR jc, vI s2, vI e2, vI ((r1 + (K.length).toInt32) + (nb V')), uN]) rfl k_) ?_
            show OEndsW p e below s _ _ _ (T27.setTop (mkF m 461 #[vI u0, vI u1, vI u2, vI u3, vI nn, vR b1, vR b6, vR b11, vI tt, .val tv, vR cl, vR ul, vI r1, vI (K.length).toInt32, vI (nb V'), vR b16, vI (((0 : Int32) + (0 : Int32)) + (nb .null)), vI (((R.length).toInt32 + (K.length).toInt32) + (nb V)), vI (((R.length).toInt32 + (K.length).toInt32) + (nb V)), vI ci, vR jc, vI s2, vI e2, vI ((r1 + (K.length).toInt32) + (nb V')), uN] []))
            refine OEndsW.pre (fun t_ k_ => XS.iload H27.here hx rfl (hb hby at_461) rfl k_) ?_
            show OEndsW p e below s _ _ _ (T27.setTop (mkF m 463 #[vI u0, vI u1, vI u2, vI u3, vI nn, vR b1, vR b6, vR b11, vI tt, .val tv, vR cl, vR ul, vI r1, vI (K.length).toInt32, vI (nb V'), vR b16, vI (((0 : Int32) + (0 : Int32)) + (nb .null)), vI (((R.length).toInt32 + (K.length).toInt32) + (nb V)), vI (((R.length).toInt32 + (K.length).toInt32) + (nb V)), vI ci, vR jc, vI s2, vI e2, vI ((r1 + (K.length).toInt32) + (nb V')), uN] [(.int r1)]))
            refine OEndsW.pre (fun t_ k_ => XS.iload H27.here hx rfl (hb hby at_463) rfl k_) ?_
            show OEndsW p e below s _ _ _ (T27.setTop (mkF m 465 #[vI u0, vI u1, vI u2, vI u3, vI nn, vR b1, vR b6, vR b11, vI tt, .val tv, vR cl, vR ul, vI r1, vI (K.length).toInt32, vI (nb V'), vR b16, vI (((0 : Int32) + (0 : Int32)) + (nb .null)), vI (((R.length).toInt32 + (K.length).toInt32) + (nb V)), vI (((R.length).toInt32 + (K.length).toInt32) + (nb V)), vI ci, vR jc, vI s2, vI e2, vI ((r1 + (K.length).toInt32) + (nb V')), uN] [(.int (K.length).toInt32), (.int r1)]))
            refine OEndsW.pre (fun t_ k_ => XS.iadd H27.here hx rfl (hb hby at_465) rfl k_) ?_
            show OEndsW p e below s _ _ _ (T27.setTop (mkF m 466 #[vI u0, vI u1, vI u2, vI u3, vI nn, vR b1, vR b6, vR b11, vI tt, .val tv, vR cl, vR ul, vI r1, vI (K.length).toInt32, vI (nb V'), vR b16, vI (((0 : Int32) + (0 : Int32)) + (nb .null)), vI (((R.length).toInt32 + (K.length).toInt32) + (nb V)), vI (((R.length).toInt32 + (K.length).toInt32) + (nb V)), vI ci, vR jc, vI s2, vI e2, vI ((r1 + (K.length).toInt32) + (nb V')), uN] [(.int (r1 + (K.length).toInt32))]))
            refine OEndsW.pre (fun t_ k_ => XS.iload H27.here hx rfl (hb hby at_466) rfl k_) ?_
            show OEndsW p e below s _ _ _ (T27.setTop (mkF m 468 #[vI u0, vI u1, vI u2, vI u3, vI nn, vR b1, vR b6, vR b11, vI tt, .val tv, vR cl, vR ul, vI r1, vI (K.length).toInt32, vI (nb V'), vR b16, vI (((0 : Int32) + (0 : Int32)) + (nb .null)), vI (((R.length).toInt32 + (K.length).toInt32) + (nb V)), vI (((R.length).toInt32 + (K.length).toInt32) + (nb V)), vI ci, vR jc, vI s2, vI e2, vI ((r1 + (K.length).toInt32) + (nb V')), uN] [(.int (nb V')), (.int (r1 + (K.length).toInt32))]))
            refine OEndsW.pre (fun t_ k_ => XS.iadd H27.here hx rfl (hb hby at_468) rfl k_) ?_
            show OEndsW p e below s _ _ _ (T27.setTop (mkF m 469 #[vI u0, vI u1, vI u2, vI u3, vI nn, vR b1, vR b6, vR b11, vI tt, .val tv, vR cl, vR ul, vI r1, vI (K.length).toInt32, vI (nb V'), vR b16, vI (((0 : Int32) + (0 : Int32)) + (nb .null)), vI (((R.length).toInt32 + (K.length).toInt32) + (nb V)), vI (((R.length).toInt32 + (K.length).toInt32) + (nb V)), vI ci, vR jc, vI s2, vI e2, vI ((r1 + (K.length).toInt32) + (nb V')), uN] [(.int ((r1 + (K.length).toInt32) + (nb V')))]))
            refine OEndsW.pre (fun t_ k_ => XS.istore H27.here hx rfl (hb hby at_469) rfl (l' := #[vI u0, vI u1, vI u2, vI u3, vI nn, vR b1, vR b6, vR b11, vI tt, .val tv, vR cl, vR ul, vI r1, vI (K.length).toInt32, vI (nb V'), vR b16, vI (((0 : Int32) + (0 : Int32)) + (nb .null)), vI (((R.length).toInt32 + (K.length).toInt32) + (nb V)), vI (((R.length).toInt32 + (K.length).toInt32) + (nb V)), vI ci, vR jc, vI s2, vI e2, vI ((r1 + (K.length).toInt32) + (nb V')), vI ((r1 + (K.length).toInt32) + (nb V'))]) rfl k_) ?_
            show OEndsW p e below s _ _ _ (T27.setTop (mkF m 471 #[vI u0, vI u1, vI u2, vI u3, vI nn, vR b1, vR b6, vR b11, vI tt, .val tv, vR cl, vR ul, vI r1, vI (K.length).toInt32, vI (nb V'), vR b16, vI (((0 : Int32) + (0 : Int32)) + (nb .null)), vI (((R.length).toInt32 + (K.length).toInt32) + (nb V)), vI (((R.length).toInt32 + (K.length).toInt32) + (nb V)), vI ci, vR jc, vI s2, vI e2, vI ((r1 + (K.length).toInt32) + (nb V')), vI ((r1 + (K.length).toInt32) + (nb V'))] []))
            refine OEndsW.pre (fun t_ k_ => XS.iload H27.here hx rfl (hb hby at_471) rfl k_) ?_
            show OEndsW p e below s _ _ _ (T27.setTop (mkF m 473 #[vI u0, vI u1, vI u2, vI u3, vI nn, vR b1, vR b6, vR b11, vI tt, .val tv, vR cl, vR ul, vI r1, vI (K.length).toInt32, vI (nb V'), vR b16, vI (((0 : Int32) + (0 : Int32)) + (nb .null)), vI (((R.length).toInt32 + (K.length).toInt32) + (nb V)), vI (((R.length).toInt32 + (K.length).toInt32) + (nb V)), vI ci, vR jc, vI s2, vI e2, vI ((r1 + (K.length).toInt32) + (nb V')), vI ((r1 + (K.length).toInt32) + (nb V'))] [(.int (((0 : Int32) + (0 : Int32)) + (nb .null)))]))
            refine OEndsW.pre (fun t_ k_ => XS.ifNo H27.here hx rfl (hb hby at_473) rfl (XT.i0_ne_f (by decide)) k_) ?_
            show OEndsW p e below s _ _ _ (T27.setTop (mkF m 476 #[vI u0, vI u1, vI u2, vI u3, vI nn, vR b1, vR b6, vR b11, vI tt, .val tv, vR cl, vR ul, vI r1, vI (K.length).toInt32, vI (nb V'), vR b16, vI (((0 : Int32) + (0 : Int32)) + (nb .null)), vI (((R.length).toInt32 + (K.length).toInt32) + (nb V)), vI (((R.length).toInt32 + (K.length).toInt32) + (nb V)), vI ci, vR jc, vI s2, vI e2, vI ((r1 + (K.length).toInt32) + (nb V')), vI ((r1 + (K.length).toInt32) + (nb V'))] []))
            refine OEndsW.pre (fun t_ k_ => XS.iload H27.here hx rfl (hb hby at_476) rfl k_) ?_
            show OEndsW p e below s _ _ _ (T27.setTop (mkF m 478 #[vI u0, vI u1, vI u2, vI u3, vI nn, vR b1, vR b6, vR b11, vI tt, .val tv, vR cl, vR ul, vI r1, vI (K.length).toInt32, vI (nb V'), vR b16, vI (((0 : Int32) + (0 : Int32)) + (nb .null)), vI (((R.length).toInt32 + (K.length).toInt32) + (nb V)), vI (((R.length).toInt32 + (K.length).toInt32) + (nb V)), vI ci, vR jc, vI s2, vI e2, vI ((r1 + (K.length).toInt32) + (nb V')), vI ((r1 + (K.length).toInt32) + (nb V'))] [(.int (((R.length).toInt32 + (K.length).toInt32) + (nb V)))]))
            refine OEndsW.pre (fun t_ k_ => XS.iload H27.here hx rfl (hb hby at_478) rfl k_) ?_
            show OEndsW p e below s _ _ _ (T27.setTop (mkF m 480 #[vI u0, vI u1, vI u2, vI u3, vI nn, vR b1, vR b6, vR b11, vI tt, .val tv, vR cl, vR ul, vI r1, vI (K.length).toInt32, vI (nb V'), vR b16, vI (((0 : Int32) + (0 : Int32)) + (nb .null)), vI (((R.length).toInt32 + (K.length).toInt32) + (nb V)), vI (((R.length).toInt32 + (K.length).toInt32) + (nb V)), vI ci, vR jc, vI s2, vI e2, vI ((r1 + (K.length).toInt32) + (nb V')), vI ((r1 + (K.length).toInt32) + (nb V'))] [(.int nn), (.int (((R.length).toInt32 + (K.length).toInt32) + (nb V)))]))
            refine OEndsW.pre (fun t_ k_ => XS.icmpNo H27.here hx rfl (hb hby at_480) rfl (XT.ii_ne_f hsum) k_) ?_
            show OEndsW p e below s _ _ _ (T27.setTop (mkF m 483 #[vI u0, vI u1, vI u2, vI u3, vI nn, vR b1, vR b6, vR b11, vI tt, .val tv, vR cl, vR ul, vI r1, vI (K.length).toInt32, vI (nb V'), vR b16, vI (((0 : Int32) + (0 : Int32)) + (nb .null)), vI (((R.length).toInt32 + (K.length).toInt32) + (nb V)), vI (((R.length).toInt32 + (K.length).toInt32) + (nb V)), vI ci, vR jc, vI s2, vI e2, vI ((r1 + (K.length).toInt32) + (nb V')), vI ((r1 + (K.length).toInt32) + (nb V'))] []))
            refine OEndsW.pre (fun t_ k_ => XS.iload H27.here hx rfl (hb hby at_483) rfl k_) ?_
            show OEndsW p e below s _ _ _ (T27.setTop (mkF m 485 #[vI u0, vI u1, vI u2, vI u3, vI nn, vR b1, vR b6, vR b11, vI tt, .val tv, vR cl, vR ul, vI r1, vI (K.length).toInt32, vI (nb V'), vR b16, vI (((0 : Int32) + (0 : Int32)) + (nb .null)), vI (((R.length).toInt32 + (K.length).toInt32) + (nb V)), vI (((R.length).toInt32 + (K.length).toInt32) + (nb V)), vI ci, vR jc, vI s2, vI e2, vI ((r1 + (K.length).toInt32) + (nb V')), vI ((r1 + (K.length).toInt32) + (nb V'))] [(.int (((R.length).toInt32 + (K.length).toInt32) + (nb V)))]))
            refine OEndsW.pre (fun t_ k_ => XS.iload H27.here hx rfl (hb hby at_485) rfl k_) ?_
            show OEndsW p e below s _ _ _ (T27.setTop (mkF m 487 #[vI u0, vI u1, vI u2, vI u3, vI nn, vR b1, vR b6, vR b11, vI tt, .val tv, vR cl, vR ul, vI r1, vI (K.length).toInt32, vI (nb V'), vR b16, vI (((0 : Int32) + (0 : Int32)) + (nb .null)), vI (((R.length).toInt32 + (K.length).toInt32) + (nb V)), vI (((R.length).toInt32 + (K.length).toInt32) + (nb V)), vI ci, vR jc, vI s2, vI e2, vI ((r1 + (K.length).toInt32) + (nb V')), vI ((r1 + (K.length).toInt32) + (nb V'))] [(.int (((R.length).toInt32 + (K.length).toInt32) + (nb V))), (.int (((R.length).toInt32 + (K.length).toInt32) + (nb V)))]))
            refine OEndsW.pre (fun t_ k_ => XS.icmpNo H27.here hx rfl (hb hby at_487) rfl (XT.ii_ne_f rfl) k_) ?_
            show OEndsW p e below s _ _ _ (T27.setTop (mkF m 490 #[vI u0, vI u1, vI u2, vI u3, vI nn, vR b1, vR b6, vR b11, vI tt, .val tv, vR cl, vR ul, vI r1, vI (K.length).toInt32, vI (nb V'), vR b16, vI (((0 : Int32) + (0 : Int32)) + (nb .null)), vI (((R.length).toInt32 + (K.length).toInt32) + (nb V)), vI (((R.length).toInt32 + (K.length).toInt32) + (nb V)), vI ci, vR jc, vI s2, vI e2, vI ((r1 + (K.length).toInt32) + (nb V')), vI ((r1 + (K.length).toInt32) + (nb V'))] []))
            refine OEndsW.pre (fun t_ k_ => XS.iload H27.here hx rfl (hb hby at_490) rfl k_) ?_
            show OEndsW p e below s _ _ _ (T27.setTop (mkF m 492 #[vI u0, vI u1, vI u2, vI u3, vI nn, vR b1, vR b6, vR b11, vI tt, .val tv, vR cl, vR ul, vI r1, vI (K.length).toInt32, vI (nb V'), vR b16, vI (((0 : Int32) + (0 : Int32)) + (nb .null)), vI (((R.length).toInt32 + (K.length).toInt32) + (nb V)), vI (((R.length).toInt32 + (K.length).toInt32) + (nb V)), vI ci, vR jc, vI s2, vI e2, vI ((r1 + (K.length).toInt32) + (nb V')), vI ((r1 + (K.length).toInt32) + (nb V'))] [(.int s2)]))
            refine OEndsW.pre (fun t_ k_ => XS.iload H27.here hx rfl (hb hby at_492) rfl k_) ?_
            show OEndsW p e below s _ _ _ (T27.setTop (mkF m 494 #[vI u0, vI u1, vI u2, vI u3, vI nn, vR b1, vR b6, vR b11, vI tt, .val tv, vR cl, vR ul, vI r1, vI (K.length).toInt32, vI (nb V'), vR b16, vI (((0 : Int32) + (0 : Int32)) + (nb .null)), vI (((R.length).toInt32 + (K.length).toInt32) + (nb V)), vI (((R.length).toInt32 + (K.length).toInt32) + (nb V)), vI ci, vR jc, vI s2, vI e2, vI ((r1 + (K.length).toInt32) + (nb V')), vI ((r1 + (K.length).toInt32) + (nb V'))] [(.int e2), (.int s2)]))
            refine OEndsW.pre (fun t_ k_ => XS.icmpNo H27.here hx rfl (hb hby at_494) rfl (XT.ii_ne_f hs2) k_) ?_
            show OEndsW p e below s _ _ _ (T27.setTop (mkF m 497 #[vI u0, vI u1, vI u2, vI u3, vI nn, vR b1, vR b6, vR b11, vI tt, .val tv, vR cl, vR ul, vI r1, vI (K.length).toInt32, vI (nb V'), vR b16, vI (((0 : Int32) + (0 : Int32)) + (nb .null)), vI (((R.length).toInt32 + (K.length).toInt32) + (nb V)), vI (((R.length).toInt32 + (K.length).toInt32) + (nb V)), vI ci, vR jc, vI s2, vI e2, vI ((r1 + (K.length).toInt32) + (nb V')), vI ((r1 + (K.length).toInt32) + (nb V'))] []))
            refine OEndsW.pre (fun t_ k_ => XS.iload H27.here hx rfl (hb hby at_497) rfl k_) ?_
            show OEndsW p e below s _ _ _ (T27.setTop (mkF m 499 #[vI u0, vI u1, vI u2, vI u3, vI nn, vR b1, vR b6, vR b11, vI tt, .val tv, vR cl, vR ul, vI r1, vI (K.length).toInt32, vI (nb V'), vR b16, vI (((0 : Int32) + (0 : Int32)) + (nb .null)), vI (((R.length).toInt32 + (K.length).toInt32) + (nb V)), vI (((R.length).toInt32 + (K.length).toInt32) + (nb V)), vI ci, vR jc, vI s2, vI e2, vI ((r1 + (K.length).toInt32) + (nb V')), vI ((r1 + (K.length).toInt32) + (nb V'))] [(.int ((r1 + (K.length).toInt32) + (nb V')))]))
            refine OEndsW.pre (fun t_ k_ => XS.iload H27.here hx rfl (hb hby at_499) rfl k_) ?_
            show OEndsW p e below s _ _ _ (T27.setTop (mkF m 501 #[vI u0, vI u1, vI u2, vI u3, vI nn, vR b1, vR b6, vR b11, vI tt, .val tv, vR cl, vR ul, vI r1, vI (K.length).toInt32, vI (nb V'), vR b16, vI (((0 : Int32) + (0 : Int32)) + (nb .null)), vI (((R.length).toInt32 + (K.length).toInt32) + (nb V)), vI (((R.length).toInt32 + (K.length).toInt32) + (nb V)), vI ci, vR jc, vI s2, vI e2, vI ((r1 + (K.length).toInt32) + (nb V')), vI ((r1 + (K.length).toInt32) + (nb V'))] [(.int ((r1 + (K.length).toInt32) + (nb V'))), (.int ((r1 + (K.length).toInt32) + (nb V')))]))
            refine OEndsW.pre (fun t_ k_ => XS.icmpNo H27.here hx rfl (hb hby at_501) rfl (XT.ii_ne_f rfl) k_) ?_
            show OEndsW p e below s _ _ _ (T27.setTop (mkF m 504 #[vI u0, vI u1, vI u2, vI u3, vI nn, vR b1, vR b6, vR b11, vI tt, .val tv, vR cl, vR ul, vI r1, vI (K.length).toInt32, vI (nb V'), vR b16, vI (((0 : Int32) + (0 : Int32)) + (nb .null)), vI (((R.length).toInt32 + (K.length).toInt32) + (nb V)), vI (((R.length).toInt32 + (K.length).toInt32) + (nb V)), vI ci, vR jc, vI s2, vI e2, vI ((r1 + (K.length).toInt32) + (nb V')), vI ((r1 + (K.length).toInt32) + (nb V'))] []))
            refine OEndsW.pre (fun t_ k_ => XT.iconstV H27.here hx rfl (1 : Int32) (hb hby at_504) rfl k_) ?_
            show OEndsW p e below s _ _ _ (T27.setTop (mkF m 505 #[vI u0, vI u1, vI u2, vI u3, vI nn, vR b1, vR b6, vR b11, vI tt, .val tv, vR cl, vR ul, vI r1, vI (K.length).toInt32, vI (nb V'), vR b16, vI (((0 : Int32) + (0 : Int32)) + (nb .null)), vI (((R.length).toInt32 + (K.length).toInt32) + (nb V)), vI (((R.length).toInt32 + (K.length).toInt32) + (nb V)), vI ci, vR jc, vI s2, vI e2, vI ((r1 + (K.length).toInt32) + (nb V')), vI ((r1 + (K.length).toInt32) + (nb V'))] [(.int (1 : Int32))]))
            refine OEndsW.pre (fun t_ k_ => XS.goto H27.here hx rfl (pc0 := 505) (pc' := 509) rfl (hb hby at_505) (by decide) (by decide) k_) ?_
            show OEndsW p e below s _ _ _ (T27.setTop (mkF m 509 #[vI u0, vI u1, vI u2, vI u3, vI nn, vR b1, vR b6, vR b11, vI tt, .val tv, vR cl, vR ul, vI r1, vI (K.length).toInt32, vI (nb V'), vR b16, vI (((0 : Int32) + (0 : Int32)) + (nb .null)), vI (((R.length).toInt32 + (K.length).toInt32) + (nb V)), vI (((R.length).toInt32 + (K.length).toInt32) + (nb V)), vI ci, vR jc, vI s2, vI e2, vI ((r1 + (K.length).toInt32) + (nb V')), vI ((r1 + (K.length).toInt32) + (nb V'))] [(.int (1 : Int32))]))
            exact OHere.nrwW H27 hS14 hx Bd.notSynchronized Bd.returns (by simp) (hb hby at_509) (by decide) (by decide) (fun h L W N => ⟨N, rfl⟩)
          have tail416 : ∀ (jc : Addr) (T : State) (R' : List Addr) (V' : Value), R'.length < 10 → V'.isRef = true → (∀ x ∈ R', ∃ fx : List OFEnt, eO x "com/example/deadletter/deadletter/job/Job" fx ∈ G) → OHere p l e room_1 (s.setVm T14.vm) m #[(.int u0), (.int u1), (.int u2), (.int u3)] below meth c Z n0 ks14 T 25 142 ([(eO b16 "com/example/deadletter/deadletter/worker/WaitingJobs" [("com/example/deadletter/deadletter/worker/WaitingJobs", "ready", "Ljava/util/Deque;", (.ref r18)), ("com/example/deadletter/deadletter/worker/WaitingJobs", "toCount", "Ljava/util/Deque;", (.ref k18)), ("com/example/deadletter/deadletter/worker/WaitingJobs", "takenOver", "Lcom/example/deadletter/deadletter/job/Job;", V')]), (eO r18 "java/util/ArrayDeque" [("java/util/ArrayDeque", "elements", "[Ljava/lang/Object;", (.ref dr18)), ("java/util/ArrayDeque", "tail", "I", (.int (R'.length).toInt32)), ("java/util/ArrayDeque", "head", "I", (.int (0 : Int32)))]), (eA dr18 (.object "java/lang/Object") (dq R')), (eO k18 "java/util/ArrayDeque" [("java/util/ArrayDeque", "elements", "[Ljava/lang/Object;", (.ref dk18)), ("java/util/ArrayDeque", "tail", "I", (.int (K.length).toInt32)), ("java/util/ArrayDeque", "head", "I", (.int (0 : Int32)))]), (eA dk18 (.object "java/lang/Object") (dq K))] ++ G) → OEndsW p e below s room_1.cells room_1.slots (fun v' h' L => Fr n0 L ∧ v' = some (.int 1)) (T.setTop (mkF m 416 #[vI u0, vI u1, vI u2, vI u3, vI nn, vR b1, vR b6, vR b11, vI tt, .val tv, vR cl, vR ul, vI (R'.length).toInt32, vI (K.length).toInt32, vI (nb V'), vR b16, vI (((0 : Int32) + (0 : Int32)) + (nb .null)), vI (((R.length).toInt32 + (K.length).toInt32) + (nb V)), vI (((R.length).toInt32 + (K.length).toInt32) + (nb V)), vI ci, vR jc, uN, uN, uN, uN] [])) := by
            intro jc T R' V' hR' hV' hRG H
            refine OEndsW.pre (fun t_ k_ => XS.aload H.here hx rfl (hb hby at_416) rfl rfl k_) ?_
            show OEndsW p e below s _ _ _ (T.setTop (mkF m 418 #[vI u0, vI u1, vI u2, vI u3, vI nn, vR b1, vR b6, vR b11, vI tt, .val tv, vR cl, vR ul, vI (R'.length).toInt32, vI (K.length).toInt32, vI (nb V'), vR b16, vI (((0 : Int32) + (0 : Int32)) + (nb .null)), vI (((R.length).toInt32 + (K.length).toInt32) + (nb V)), vI (((R.length).toInt32 + (K.length).toInt32) + (nb V)), vI ci, vR jc, uN, uN, uN, uN] [(.ref b16)]))
            obtain ⟨T28, _, _, ⟨rfl, rfl⟩, H28, st28⟩ := OHere.virtual H hx hZ14 (y := (⟨"com/example/deadletter/deadletter/worker/WaitingJobs", "size", "()I"⟩ : MethodName)) (z := (⟨"com/example/deadletter/deadletter/worker/WaitingJobs", "size", "()I"⟩ : MethodName)) (W := 0) (a := b16) (q := 0) (fs := [("com/example/deadletter/deadletter/worker/WaitingJobs", "ready", "Ljava/util/Deque;", (.ref r18)), ("com/example/deadletter/deadletter/worker/WaitingJobs", "toCount", "Ljava/util/Deque;", (.ref k18)), ("com/example/deadletter/deadletter/worker/WaitingJobs", "takenOver", "Lcom/example/deadletter/deadletter/job/Job;", V')]) hown14 (tWd hw 109 rfl) (tWd hw 110 rfl) (nf_sel (tWd hw 112 rfl) rfl) (tWd hw 112 rfl) (tWd hw 111 rfl) (tWd hw 89 rfl) (tWd hw 113 rfl) (by decide) rfl (conWJs l Z a0 hw n0 [] b16 ([] ++ G) V' hV' r18 dr18 k18 dk18 (dq R') (dq K) (R'.length).toInt32 (0 : Int32) (R'.length).toInt32 (K.length).toInt32 (0 : Int32) (K.length).toInt32 (dq_len (by omega)) (sub_k _ (by omega)) (dq_len (by omega)) (sub_k _ (by omega))) (by decide) (by decide) (pc := 418) (Ls := #[vI u0, vI u1, vI u2, vI u3, vI nn, vR b1, vR b6, vR b11, vI tt, .val tv, vR cl, vR ul, vI (R'.length).toInt32, vI (K.length).toInt32, vI (nb V'), vR b16, vI (((0 : Int32) + (0 : Int32)) + (nb .null)), vI (((R.length).toInt32 + (K.length).toInt32) + (nb V)), vI (((R.length).toInt32 + (K.length).toInt32) + (nb V)), vI ci, vR jc, uN, uN, uN, uN]) (argsL := []) (rest := []) (by rw [hml]; rfl) (lenOf pd_ocI rfl) rfl (Nat.le_of_eq rfl) (hb hby at_418) (by decide) (by decide)
            replace H28 : OHere p l e _ (s.setVm T14.vm) m _ below meth c Z n0 ks14 T28 25 142 ([(eO b16 "com/example/deadletter/deadletter/worker/WaitingJobs" [("com/example/deadletter/deadletter/worker/WaitingJobs", "ready", "Ljava/util/Deque;", (.ref r18)), ("com/example/deadletter/deadletter/worker/WaitingJobs", "toCount", "Ljava/util/Deque;", (.ref k18)), ("com/example/deadletter/deadletter/worker/WaitingJobs", "takenOver", "Lcom/example/deadletter/deadletter/job/Job;", V')]), (eO r18 "java/util/ArrayDeque" [("java/util/ArrayDeque", "elements", "[Ljava/lang/Object;", (.ref dr18)), ("java/util/ArrayDeque", "tail", "I", (.int (R'.length).toInt32)), ("java/util/ArrayDeque", "head", "I", (.int (0 : Int32)))]), (eA dr18 (.object "java/lang/Object") (dq R')), (eO k18 "java/util/ArrayDeque" [("java/util/ArrayDeque", "elements", "[Ljava/lang/Object;", (.ref dk18)), ("java/util/ArrayDeque", "tail", "I", (.int (K.length).toInt32)), ("java/util/ArrayDeque", "head", "I", (.int (0 : Int32)))]), (eA dk18 (.object "java/lang/Object") (dq K))] ++ G) := H28
            refine OEndsW.pre (fun t_ k_ => st28 _ k_) ?_
            show OEndsW p e below s _ _ _ (T28.setTop (mkF m 421 #[vI u0, vI u1, vI u2, vI u3, vI nn, vR b1, vR b6, vR b11, vI tt, .val tv, vR cl, vR ul, vI (R'.length).toInt32, vI (K.length).toInt32, vI (nb V'), vR b16, vI (((0 : Int32) + (0 : Int32)) + (nb .null)), vI (((R.length).toInt32 + (K.length).toInt32) + (nb V)), vI (((R.length).toInt32 + (K.length).toInt32) + (nb V)), vI ci, vR jc, uN, uN, uN, uN] [(.int (((R'.length).toInt32 + (K.length).toInt32) + (nb V')))]))
            refine OEndsW.pre (fun t_ k_ => XS.istore H28.here hx rfl (hb hby at_421) rfl (l' := #[vI u0, vI u1, vI u2, vI u3, vI nn, vR b1, vR b6, vR b11, vI tt, .val tv, vR cl, vR ul, vI (R'.length).toInt32, vI (K.length).toInt32, vI (nb V'), vR b16, vI (((0 : Int32) + (0 : Int32)) + (nb .null)), vI (((R.length).toInt32 + (K.length).toInt32) + (nb V)), vI (((R.length).toInt32 + (K.length).toInt32) + (nb V)), vI ci, vR jc, vI (((R'.length).toInt32 + (K.length).toInt32) + (nb V')), uN, uN, uN]) rfl k_) ?_
            show OEndsW p e below s _ _ _ (T28.setTop (mkF m 423 #[vI u0, vI u1, vI u2, vI u3, vI nn, vR b1, vR b6, vR b11, vI tt, .val tv, vR cl, vR ul, vI (R'.length).toInt32, vI (K.length).toInt32, vI (nb V'), vR b16, vI (((0 : Int32) + (0 : Int32)) + (nb .null)), vI (((R.length).toInt32 + (K.length).toInt32) + (nb V)), vI (((R.length).toInt32 + (K.length).toInt32) + (nb V)), vI ci, vR jc, vI (((R'.length).toInt32 + (K.length).toInt32) + (nb V')), uN, uN, uN] []))
            refine OEndsW.pre (fun t_ k_ => XS.iload H28.here hx rfl (hb hby at_423) rfl k_) ?_
            show OEndsW p e below s _ _ _ (T28.setTop (mkF m 425 #[vI u0, vI u1, vI u2, vI u3, vI nn, vR b1, vR b6, vR b11, vI tt, .val tv, vR cl, vR ul, vI (R'.length).toInt32, vI (K.length).toInt32, vI (nb V'), vR b16, vI (((0 : Int32) + (0 : Int32)) + (nb .null)), vI (((R.length).toInt32 + (K.length).toInt32) + (nb V)), vI (((R.length).toInt32 + (K.length).toInt32) + (nb V)), vI ci, vR jc, vI (((R'.length).toInt32 + (K.length).toInt32) + (nb V')), uN, uN, uN] [(.int (R'.length).toInt32)]))
            refine OEndsW.pre (fun t_ k_ => XS.iload H28.here hx rfl (hb hby at_425) rfl k_) ?_
            show OEndsW p e below s _ _ _ (T28.setTop (mkF m 427 #[vI u0, vI u1, vI u2, vI u3, vI nn, vR b1, vR b6, vR b11, vI tt, .val tv, vR cl, vR ul, vI (R'.length).toInt32, vI (K.length).toInt32, vI (nb V'), vR b16, vI (((0 : Int32) + (0 : Int32)) + (nb .null)), vI (((R.length).toInt32 + (K.length).toInt32) + (nb V)), vI (((R.length).toInt32 + (K.length).toInt32) + (nb V)), vI ci, vR jc, vI (((R'.length).toInt32 + (K.length).toInt32) + (nb V')), uN, uN, uN] [(.int (K.length).toInt32), (.int (R'.length).toInt32)]))
            refine OEndsW.pre (fun t_ k_ => XS.iadd H28.here hx rfl (hb hby at_427) rfl k_) ?_
            show OEndsW p e below s _ _ _ (T28.setTop (mkF m 428 #[vI u0, vI u1, vI u2, vI u3, vI nn, vR b1, vR b6, vR b11, vI tt, .val tv, vR cl, vR ul, vI (R'.length).toInt32, vI (K.length).toInt32, vI (nb V'), vR b16, vI (((0 : Int32) + (0 : Int32)) + (nb .null)), vI (((R.length).toInt32 + (K.length).toInt32) + (nb V)), vI (((R.length).toInt32 + (K.length).toInt32) + (nb V)), vI ci, vR jc, vI (((R'.length).toInt32 + (K.length).toInt32) + (nb V')), uN, uN, uN] [(.int ((R'.length).toInt32 + (K.length).toInt32))]))
            refine OEndsW.pre (fun t_ k_ => XS.iload H28.here hx rfl (hb hby at_428) rfl k_) ?_
            show OEndsW p e below s _ _ _ (T28.setTop (mkF m 430 #[vI u0, vI u1, vI u2, vI u3, vI nn, vR b1, vR b6, vR b11, vI tt, .val tv, vR cl, vR ul, vI (R'.length).toInt32, vI (K.length).toInt32, vI (nb V'), vR b16, vI (((0 : Int32) + (0 : Int32)) + (nb .null)), vI (((R.length).toInt32 + (K.length).toInt32) + (nb V)), vI (((R.length).toInt32 + (K.length).toInt32) + (nb V)), vI ci, vR jc, vI (((R'.length).toInt32 + (K.length).toInt32) + (nb V')), uN, uN, uN] [(.int (nb V')), (.int ((R'.length).toInt32 + (K.length).toInt32))]))
            refine OEndsW.pre (fun t_ k_ => XS.iadd H28.here hx rfl (hb hby at_430) rfl k_) ?_
            show OEndsW p e below s _ _ _ (T28.setTop (mkF m 431 #[vI u0, vI u1, vI u2, vI u3, vI nn, vR b1, vR b6, vR b11, vI tt, .val tv, vR cl, vR ul, vI (R'.length).toInt32, vI (K.length).toInt32, vI (nb V'), vR b16, vI (((0 : Int32) + (0 : Int32)) + (nb .null)), vI (((R.length).toInt32 + (K.length).toInt32) + (nb V)), vI (((R.length).toInt32 + (K.length).toInt32) + (nb V)), vI ci, vR jc, vI (((R'.length).toInt32 + (K.length).toInt32) + (nb V')), uN, uN, uN] [(.int (((R'.length).toInt32 + (K.length).toInt32) + (nb V')))]))
            refine OEndsW.pre (fun t_ k_ => XS.istore H28.here hx rfl (hb hby at_431) rfl (l' := #[vI u0, vI u1, vI u2, vI u3, vI nn, vR b1, vR b6, vR b11, vI tt, .val tv, vR cl, vR ul, vI (R'.length).toInt32, vI (K.length).toInt32, vI (nb V'), vR b16, vI (((0 : Int32) + (0 : Int32)) + (nb .null)), vI (((R.length).toInt32 + (K.length).toInt32) + (nb V)), vI (((R.length).toInt32 + (K.length).toInt32) + (nb V)), vI ci, vR jc, vI (((R'.length).toInt32 + (K.length).toInt32) + (nb V')), vI (((R'.length).toInt32 + (K.length).toInt32) + (nb V')), uN, uN]) rfl k_) ?_
            show OEndsW p e below s _ _ _ (T28.setTop (mkF m 433 #[vI u0, vI u1, vI u2, vI u3, vI nn, vR b1, vR b6, vR b11, vI tt, .val tv, vR cl, vR ul, vI (R'.length).toInt32, vI (K.length).toInt32, vI (nb V'), vR b16, vI (((0 : Int32) + (0 : Int32)) + (nb .null)), vI (((R.length).toInt32 + (K.length).toInt32) + (nb V)), vI (((R.length).toInt32 + (K.length).toInt32) + (nb V)), vI ci, vR jc, vI (((R'.length).toInt32 + (K.length).toInt32) + (nb V')), vI (((R'.length).toInt32 + (K.length).toInt32) + (nb V')), uN, uN] []))
            refine OEndsW.pre (fun t_ k_ => XS.iloadN H28.here hx rfl (hb hby at_433) rfl k_) ?_
            show OEndsW p e below s _ _ _ (T28.setTop (mkF m 434 #[vI u0, vI u1, vI u2, vI u3, vI nn, vR b1, vR b6, vR b11, vI tt, .val tv, vR cl, vR ul, vI (R'.length).toInt32, vI (K.length).toInt32, vI (nb V'), vR b16, vI (((0 : Int32) + (0 : Int32)) + (nb .null)), vI (((R.length).toInt32 + (K.length).toInt32) + (nb V)), vI (((R.length).toInt32 + (K.length).toInt32) + (nb V)), vI ci, vR jc, vI (((R'.length).toInt32 + (K.length).toInt32) + (nb V')), vI (((R'.length).toInt32 + (K.length).toInt32) + (nb V')), uN, uN] [(.int u3)]))
            refine OEndsW.pre (fun t_ k_ => XT.bipushV H28.here hx rfl (8 : Int32) (hb hby at_434) rfl k_) ?_
            show OEndsW p e below s _ _ _ (T28.setTop (mkF m 436 #[vI u0, vI u1, vI u2, vI u3, vI nn, vR b1, vR b6, vR b11, vI tt, .val tv, vR cl, vR ul, vI (R'.length).toInt32, vI (K.length).toInt32, vI (nb V'), vR b16, vI (((0 : Int32) + (0 : Int32)) + (nb .null)), vI (((R.length).toInt32 + (K.length).toInt32) + (nb V)), vI (((R.length).toInt32 + (K.length).toInt32) + (nb V)), vI ci, vR jc, vI (((R'.length).toInt32 + (K.length).toInt32) + (nb V')), vI (((R'.length).toInt32 + (K.length).toInt32) + (nb V')), uN, uN] [(.int (8 : Int32)), (.int u3)]))
            refine OEndsW.pre (fun t_ k_ => XS.iand H28.here hx rfl (hb hby at_436) rfl k_) ?_
            show OEndsW p e below s _ _ _ (T28.setTop (mkF m 437 #[vI u0, vI u1, vI u2, vI u3, vI nn, vR b1, vR b6, vR b11, vI tt, .val tv, vR cl, vR ul, vI (R'.length).toInt32, vI (K.length).toInt32, vI (nb V'), vR b16, vI (((0 : Int32) + (0 : Int32)) + (nb .null)), vI (((R.length).toInt32 + (K.length).toInt32) + (nb V)), vI (((R.length).toInt32 + (K.length).toInt32) + (nb V)), vI ci, vR jc, vI (((R'.length).toInt32 + (K.length).toInt32) + (nb V')), vI (((R'.length).toInt32 + (K.length).toInt32) + (nb V')), uN, uN] [(.int (u3 &&& (8 : Int32)))]))
            by_cases c1 : (u3 &&& (8 : Int32)) = (0 : Int32)
            · refine OEndsW.pre (fun t_ k_ => XS.ifYes H28.here hx rfl (pc0 := 437) (pc' := 454) rfl (hb hby at_437) rfl (XT.i0_eq_t c1) (by decide) (by decide) k_) ?_
              show OEndsW p e below s _ _ _ (T28.setTop (mkF m 454 #[vI u0, vI u1, vI u2, vI u3, vI nn, vR b1, vR b6, vR b11, vI tt, .val tv, vR cl, vR ul, vI (R'.length).toInt32, vI (K.length).toInt32, vI (nb V'), vR b16, vI (((0 : Int32) + (0 : Int32)) + (nb .null)), vI (((R.length).toInt32 + (K.length).toInt32) + (nb V)), vI (((R.length).toInt32 + (K.length).toInt32) + (nb V)), vI ci, vR jc, vI (((R'.length).toInt32 + (K.length).toInt32) + (nb V')), vI (((R'.length).toInt32 + (K.length).toInt32) + (nb V')), uN, uN] []))
              have HP : OHere p l e room_1 (s.setVm T14.vm) m #[(.int u0), (.int u1), (.int u2), (.int u3)] below meth c Z n0 ks14 T28 25 142 ([(eO b16 "com/example/deadletter/deadletter/worker/WaitingJobs" [("com/example/deadletter/deadletter/worker/WaitingJobs", "ready", "Ljava/util/Deque;", (.ref r18)), ("com/example/deadletter/deadletter/worker/WaitingJobs", "toCount", "Ljava/util/Deque;", (.ref k18)), ("com/example/deadletter/deadletter/worker/WaitingJobs", "takenOver", "Lcom/example/deadletter/deadletter/job/Job;", V')]), (eO r18 "java/util/ArrayDeque" [("java/util/ArrayDeque", "elements", "[Ljava/lang/Object;", (.ref dr18)), ("java/util/ArrayDeque", "tail", "I", (.int (R'.length).toInt32)), ("java/util/ArrayDeque", "head", "I", (.int (0 : Int32)))]), (eA dr18 (.object "java/lang/Object") (dq R')), (eO k18 "java/util/ArrayDeque" [("java/util/ArrayDeque", "elements", "[Ljava/lang/Object;", (.ref dk18)), ("java/util/ArrayDeque", "tail", "I", (.int (K.length).toInt32)), ("java/util/ArrayDeque", "head", "I", (.int (0 : Int32)))]), (eA dk18 (.object "java/lang/Object") (dq K))] ++ G) := OHere.pick H28 [0, 1, 2, 3, 4] (by decide) rfl
              exact tail454 jc _ _ _ V' _ _ _ _ rfl hV' (dq_len (by omega)) (sub_k _ (by omega)) HP
            · refine OEndsW.pre (fun t_ k_ => XS.ifNo H28.here hx rfl (hb hby at_437) rfl (XT.i0_eq_f c1) k_) ?_
              show OEndsW p e below s _ _ _ (T28.setTop (mkF m 440 #[vI u0, vI u1, vI u2, vI u3, vI nn, vR b1, vR b6, vR b11, vI tt, .val tv, vR cl, vR ul, vI (R'.length).toInt32, vI (K.length).toInt32, vI (nb V'), vR b16, vI (((0 : Int32) + (0 : Int32)) + (nb .null)), vI (((R.length).toInt32 + (K.length).toInt32) + (nb V)), vI (((R.length).toInt32 + (K.length).toInt32) + (nb V)), vI ci, vR jc, vI (((R'.length).toInt32 + (K.length).toInt32) + (nb V')), vI (((R'.length).toInt32 + (K.length).toInt32) + (nb V')), uN, uN] []))
              refine OEndsW.pre (fun t_ k_ => XS.aload H28.here hx rfl (hb hby at_440) rfl rfl k_) ?_
              show OEndsW p e below s _ _ _ (T28.setTop (mkF m 442 #[vI u0, vI u1, vI u2, vI u3, vI nn, vR b1, vR b6, vR b11, vI tt, .val tv, vR cl, vR ul, vI (R'.length).toInt32, vI (K.length).toInt32, vI (nb V'), vR b16, vI (((0 : Int32) + (0 : Int32)) + (nb .null)), vI (((R.length).toInt32 + (K.length).toInt32) + (nb V)), vI (((R.length).toInt32 + (K.length).toInt32) + (nb V)), vI ci, vR jc, vI (((R'.length).toInt32 + (K.length).toInt32) + (nb V')), vI (((R'.length).toInt32 + (K.length).toInt32) + (nb V')), uN, uN] [(.ref b16)]))
              by_cases hR0 : R' = []
              · obtain ⟨T29, _, _, ⟨rfl, rfl⟩, H29, st29⟩ := OHere.virtual H28 hx hZ14 (y := (⟨"com/example/deadletter/deadletter/worker/WaitingJobs", "take", "()Lcom/example/deadletter/deadletter/job/Job;"⟩ : MethodName)) (z := (⟨"com/example/deadletter/deadletter/worker/WaitingJobs", "take", "()Lcom/example/deadletter/deadletter/job/Job;"⟩ : MethodName)) (W := 0) (a := b16) (q := 0) (fs := [("com/example/deadletter/deadletter/worker/WaitingJobs", "ready", "Ljava/util/Deque;", (.ref r18)), ("com/example/deadletter/deadletter/worker/WaitingJobs", "toCount", "Ljava/util/Deque;", (.ref k18)), ("com/example/deadletter/deadletter/worker/WaitingJobs", "takenOver", "Lcom/example/deadletter/deadletter/job/Job;", V')]) hown14 (tWd hw 178 rfl) (tWd hw 179 rfl) (nf_sel (tWd hw 112 rfl) rfl) (tWd hw 181 rfl) (tWd hw 180 rfl) (tWd hw 89 rfl) (tWd hw 182 rfl) (by decide) rfl (conTk0 l Z a0 hw n0 [] b16 ([(eO k18 "java/util/ArrayDeque" [("java/util/ArrayDeque", "elements", "[Ljava/lang/Object;", (.ref dk18)), ("java/util/ArrayDeque", "tail", "I", (.int (K.length).toInt32)), ("java/util/ArrayDeque", "head", "I", (.int (0 : Int32)))]), (eA dk18 (.object "java/lang/Object") (dq K))] ++ G) r18 k18 dr18 V' (dq R') (R'.length).toInt32 (dq_len (by omega)) (dq_0 hR0)) (by decide) (by decide) (pc := 442) (Ls := #[vI u0, vI u1, vI u2, vI u3, vI nn, vR b1, vR b6, vR b11, vI tt, .val tv, vR cl, vR ul, vI (R'.length).toInt32, vI (K.length).toInt32, vI (nb V'), vR b16, vI (((0 : Int32) + (0 : Int32)) + (nb .null)), vI (((R.length).toInt32 + (K.length).toInt32) + (nb V)), vI (((R.length).toInt32 + (K.length).toInt32) + (nb V)), vI ci, vR jc, vI (((R'.length).toInt32 + (K.length).toInt32) + (nb V')), vI (((R'.length).toInt32 + (K.length).toInt32) + (nb V')), uN, uN]) (argsL := []) (rest := []) (by rw [hml]; rfl) (lenOf pd_ocLcom_example_deadletter_deadletter_job_Job_ rfl) rfl (Nat.le_of_eq rfl) (hb hby at_442) (by decide) (by decide)
                replace H29 : OHere p l e _ (s.setVm T14.vm) m _ below meth c Z n0 ks14 T29 25 142 ([(eO b16 "com/example/deadletter/deadletter/worker/WaitingJobs" [("com/example/deadletter/deadletter/worker/WaitingJobs", "ready", "Ljava/util/Deque;", (.ref r18)), ("com/example/deadletter/deadletter/worker/WaitingJobs", "toCount", "Ljava/util/Deque;", (.ref k18)), ("com/example/deadletter/deadletter/worker/WaitingJobs", "takenOver", "Lcom/example/deadletter/deadletter/job/Job;", V')]), (eO r18 "java/util/ArrayDeque" [("java/util/ArrayDeque", "elements", "[Ljava/lang/Object;", (.ref dr18)), ("java/util/ArrayDeque", "tail", "I", (.int (R'.length).toInt32)), ("java/util/ArrayDeque", "head", "I", (.int (0 : Int32)))]), (eA dr18 (.object "java/lang/Object") (dq R')), (eO k18 "java/util/ArrayDeque" [("java/util/ArrayDeque", "elements", "[Ljava/lang/Object;", (.ref dk18)), ("java/util/ArrayDeque", "tail", "I", (.int (K.length).toInt32)), ("java/util/ArrayDeque", "head", "I", (.int (0 : Int32)))]), (eA dk18 (.object "java/lang/Object") (dq K))] ++ G) := H29
                refine OEndsW.pre (fun t_ k_ => st29 _ k_) ?_
                show OEndsW p e below s _ _ _ (T29.setTop (mkF m 445 #[vI u0, vI u1, vI u2, vI u3, vI nn, vR b1, vR b6, vR b11, vI tt, .val tv, vR cl, vR ul, vI (R'.length).toInt32, vI (K.length).toInt32, vI (nb V'), vR b16, vI (((0 : Int32) + (0 : Int32)) + (nb .null)), vI (((R.length).toInt32 + (K.length).toInt32) + (nb V)), vI (((R.length).toInt32 + (K.length).toInt32) + (nb V)), vI ci, vR jc, vI (((R'.length).toInt32 + (K.length).toInt32) + (nb V')), vI (((R'.length).toInt32 + (K.length).toInt32) + (nb V')), uN, uN] [.null]))
                refine OEndsW.pre (fun t_ k_ => XT.pop H29.here hx rfl (hb hby at_445) rfl rfl k_) ?_
                show OEndsW p e below s _ _ _ (T29.setTop (mkF m 446 #[vI u0, vI u1, vI u2, vI u3, vI nn, vR b1, vR b6, vR b11, vI tt, .val tv, vR cl, vR ul, vI (R'.length).toInt32, vI (K.length).toInt32, vI (nb V'), vR b16, vI (((0 : Int32) + (0 : Int32)) + (nb .null)), vI (((R.length).toInt32 + (K.length).toInt32) + (nb V)), vI (((R.length).toInt32 + (K.length).toInt32) + (nb V)), vI ci, vR jc, vI (((R'.length).toInt32 + (K.length).toInt32) + (nb V')), vI (((R'.length).toInt32 + (K.length).toInt32) + (nb V')), uN, uN] []))
                refine OEndsW.pre (fun t_ k_ => XS.iload H29.here hx rfl (hb hby at_446) rfl k_) ?_
                show OEndsW p e below s _ _ _ (T29.setTop (mkF m 448 #[vI u0, vI u1, vI u2, vI u3, vI nn, vR b1, vR b6, vR b11, vI tt, .val tv, vR cl, vR ul, vI (R'.length).toInt32, vI (K.length).toInt32, vI (nb V'), vR b16, vI (((0 : Int32) + (0 : Int32)) + (nb .null)), vI (((R.length).toInt32 + (K.length).toInt32) + (nb V)), vI (((R.length).toInt32 + (K.length).toInt32) + (nb V)), vI ci, vR jc, vI (((R'.length).toInt32 + (K.length).toInt32) + (nb V')), vI (((R'.length).toInt32 + (K.length).toInt32) + (nb V')), uN, uN] [(.int (R'.length).toInt32)]))
                refine OEndsW.pre (fun t_ k_ => XS.ifYes H29.here hx rfl (pc0 := 448) (pc' := 454) rfl (hb hby at_448) rfl (XT.i0_le_t (by rw [hR0]; decide)) (by decide) (by decide) k_) ?_
                show OEndsW p e below s _ _ _ (T29.setTop (mkF m 454 #[vI u0, vI u1, vI u2, vI u3, vI nn, vR b1, vR b6, vR b11, vI tt, .val tv, vR cl, vR ul, vI (R'.length).toInt32, vI (K.length).toInt32, vI (nb V'), vR b16, vI (((0 : Int32) + (0 : Int32)) + (nb .null)), vI (((R.length).toInt32 + (K.length).toInt32) + (nb V)), vI (((R.length).toInt32 + (K.length).toInt32) + (nb V)), vI ci, vR jc, vI (((R'.length).toInt32 + (K.length).toInt32) + (nb V')), vI (((R'.length).toInt32 + (K.length).toInt32) + (nb V')), uN, uN] []))
                have HP : OHere p l e room_1 (s.setVm T14.vm) m #[(.int u0), (.int u1), (.int u2), (.int u3)] below meth c Z n0 ks14 T29 25 142 ([(eO b16 "com/example/deadletter/deadletter/worker/WaitingJobs" [("com/example/deadletter/deadletter/worker/WaitingJobs", "ready", "Ljava/util/Deque;", (.ref r18)), ("com/example/deadletter/deadletter/worker/WaitingJobs", "toCount", "Ljava/util/Deque;", (.ref k18)), ("com/example/deadletter/deadletter/worker/WaitingJobs", "takenOver", "Lcom/example/deadletter/deadletter/job/Job;", V')]), (eO r18 "java/util/ArrayDeque" [("java/util/ArrayDeque", "elements", "[Ljava/lang/Object;", (.ref dr18)), ("java/util/ArrayDeque", "tail", "I", (.int (R'.length).toInt32)), ("java/util/ArrayDeque", "head", "I", (.int (0 : Int32)))]), (eA dr18 (.object "java/lang/Object") (dq R')), (eO k18 "java/util/ArrayDeque" [("java/util/ArrayDeque", "elements", "[Ljava/lang/Object;", (.ref dk18)), ("java/util/ArrayDeque", "tail", "I", (.int (K.length).toInt32)), ("java/util/ArrayDeque", "head", "I", (.int (0 : Int32)))]), (eA dk18 (.object "java/lang/Object") (dq K))] ++ G) := OHere.pick H29 [0, 1, 2, 3, 4] (by decide) rfl
                exact tail454 jc _ _ _ V' _ _ _ _ rfl hV' (dq_len (by omega)) (sub_k _ (by omega)) HP
              · obtain ⟨y, hyR, hy0⟩ := dq_1 hR0
                obtain ⟨fy, hyF⟩ := hRG y hyR
                have hRp : 0 < R'.length := List.length_pos_iff.mpr hR0
                obtain ⟨T30, _, _, ⟨rfl, rfl⟩, H30, st30⟩ := OHere.virtual H28 hx hZ14 (y := (⟨"com/example/deadletter/deadletter/worker/WaitingJobs", "take", "()Lcom/example/deadletter/deadletter/job/Job;"⟩ : MethodName)) (z := (⟨"com/example/deadletter/deadletter/worker/WaitingJobs", "take", "()Lcom/example/deadletter/deadletter/job/Job;"⟩ : MethodName)) (W := 0) (a := b16) (q := 0) (fs := [("com/example/deadletter/deadletter/worker/WaitingJobs", "ready", "Ljava/util/Deque;", (.ref r18)), ("com/example/deadletter/deadletter/worker/WaitingJobs", "toCount", "Ljava/util/Deque;", (.ref k18)), ("com/example/deadletter/deadletter/worker/WaitingJobs", "takenOver", "Lcom/example/deadletter/deadletter/job/Job;", V')]) hown14 (tWd hw 178 rfl) (tWd hw 179 rfl) (nf_sel (tWd hw 112 rfl) rfl) (tWd hw 181 rfl) (tWd hw 180 rfl) (tWd hw 89 rfl) (tWd hw 182 rfl) (by decide) rfl (conTk1 l Z a0 hw n0 [] b16 ([(eO k18 "java/util/ArrayDeque" [("java/util/ArrayDeque", "elements", "[Ljava/lang/Object;", (.ref dk18)), ("java/util/ArrayDeque", "tail", "I", (.int (K.length).toInt32)), ("java/util/ArrayDeque", "head", "I", (.int (0 : Int32)))]), (eA dk18 (.object "java/lang/Object") (dq K))] ++ G) y fy (List.mem_append_right _ hyF) r18 k18 dr18 V' (dq R') (R'.length).toInt32 (dq_len (by omega)) hy0) (by decide) (by decide) (pc := 442) (Ls := #[vI u0, vI u1, vI u2, vI u3, vI nn, vR b1, vR b6, vR b11, vI tt, .val tv, vR cl, vR ul, vI (R'.length).toInt32, vI (K.length).toInt32, vI (nb V'), vR b16, vI (((0 : Int32) + (0 : Int32)) + (nb .null)), vI (((R.length).toInt32 + (K.length).toInt32) + (nb V)), vI (((R.length).toInt32 + (K.length).toInt32) + (nb V)), vI ci, vR jc, vI (((R'.length).toInt32 + (K.length).toInt32) + (nb V')), vI (((R'.length).toInt32 + (K.length).toInt32) + (nb V')), uN, uN]) (argsL := []) (rest := []) (by rw [hml]; rfl) (lenOf pd_ocLcom_example_deadletter_deadletter_job_Job_ rfl) rfl (Nat.le_of_eq rfl) (hb hby at_442) (by decide) (by decide)
                replace H30 : OHere p l e _ (s.setVm T14.vm) m _ below meth c Z n0 ks14 T30 25 142 ([(eO b16 "com/example/deadletter/deadletter/worker/WaitingJobs" [("com/example/deadletter/deadletter/worker/WaitingJobs", "ready", "Ljava/util/Deque;", (.ref r18)), ("com/example/deadletter/deadletter/worker/WaitingJobs", "toCount", "Ljava/util/Deque;", (.ref k18)), ("com/example/deadletter/deadletter/worker/WaitingJobs", "takenOver", "Lcom/example/deadletter/deadletter/job/Job;", V')]), (eO r18 "java/util/ArrayDeque" [("java/util/ArrayDeque", "elements", "[Ljava/lang/Object;", (.ref dr18)), ("java/util/ArrayDeque", "tail", "I", (.int (R'.length).toInt32)), ("java/util/ArrayDeque", "head", "I", (.int (1 : Int32)))]), (eA dr18 (.object "java/lang/Object") ((dq R').set 0 .null)), (eO k18 "java/util/ArrayDeque" [("java/util/ArrayDeque", "elements", "[Ljava/lang/Object;", (.ref dk18)), ("java/util/ArrayDeque", "tail", "I", (.int (K.length).toInt32)), ("java/util/ArrayDeque", "head", "I", (.int (0 : Int32)))]), (eA dk18 (.object "java/lang/Object") (dq K))] ++ G) := H30
                refine OEndsW.pre (fun t_ k_ => st30 _ k_) ?_
                show OEndsW p e below s _ _ _ (T30.setTop (mkF m 445 #[vI u0, vI u1, vI u2, vI u3, vI nn, vR b1, vR b6, vR b11, vI tt, .val tv, vR cl, vR ul, vI (R'.length).toInt32, vI (K.length).toInt32, vI (nb V'), vR b16, vI (((0 : Int32) + (0 : Int32)) + (nb .null)), vI (((R.length).toInt32 + (K.length).toInt32) + (nb V)), vI (((R.length).toInt32 + (K.length).toInt32) + (nb V)), vI ci, vR jc, vI (((R'.length).toInt32 + (K.length).toInt32) + (nb V')), vI (((R'.length).toInt32 + (K.length).toInt32) + (nb V')), uN, uN] [(.ref y)]))
                refine OEndsW.pre (fun t_ k_ => XT.pop H30.here hx rfl (hb hby at_445) rfl rfl k_) ?_
                show OEndsW p e below s _ _ _ (T30.setTop (mkF m 446 #[vI u0, vI u1, vI u2, vI u3, vI nn, vR b1, vR b6, vR b11, vI tt, .val tv, vR cl, vR ul, vI (R'.length).toInt32, vI (K.length).toInt32, vI (nb V'), vR b16, vI (((0 : Int32) + (0 : Int32)) + (nb .null)), vI (((R.length).toInt32 + (K.length).toInt32) + (nb V)), vI (((R.length).toInt32 + (K.length).toInt32) + (nb V)), vI ci, vR jc, vI (((R'.length).toInt32 + (K.length).toInt32) + (nb V')), vI (((R'.length).toInt32 + (K.length).toInt32) + (nb V')), uN, uN] []))
                refine OEndsW.pre (fun t_ k_ => XS.iload H30.here hx rfl (hb hby at_446) rfl k_) ?_
                show OEndsW p e below s _ _ _ (T30.setTop (mkF m 448 #[vI u0, vI u1, vI u2, vI u3, vI nn, vR b1, vR b6, vR b11, vI tt, .val tv, vR cl, vR ul, vI (R'.length).toInt32, vI (K.length).toInt32, vI (nb V'), vR b16, vI (((0 : Int32) + (0 : Int32)) + (nb .null)), vI (((R.length).toInt32 + (K.length).toInt32) + (nb V)), vI (((R.length).toInt32 + (K.length).toInt32) + (nb V)), vI ci, vR jc, vI (((R'.length).toInt32 + (K.length).toInt32) + (nb V')), vI (((R'.length).toInt32 + (K.length).toInt32) + (nb V')), uN, uN] [(.int (R'.length).toInt32)]))
                refine OEndsW.pre (fun t_ k_ => XS.ifNo H30.here hx rfl (hb hby at_448) rfl (XT.i0_le_f (pos_k _ (by omega) hRp)) k_) ?_
                show OEndsW p e below s _ _ _ (T30.setTop (mkF m 451 #[vI u0, vI u1, vI u2, vI u3, vI nn, vR b1, vR b6, vR b11, vI tt, .val tv, vR cl, vR ul, vI (R'.length).toInt32, vI (K.length).toInt32, vI (nb V'), vR b16, vI (((0 : Int32) + (0 : Int32)) + (nb .null)), vI (((R.length).toInt32 + (K.length).toInt32) + (nb V)), vI (((R.length).toInt32 + (K.length).toInt32) + (nb V)), vI ci, vR jc, vI (((R'.length).toInt32 + (K.length).toInt32) + (nb V')), vI (((R'.length).toInt32 + (K.length).toInt32) + (nb V')), uN, uN] []))
                refine OEndsW.pre (fun t_ k_ => XT.iincV H30.here hx rfl (l' := #[vI u0, vI u1, vI u2, vI u3, vI nn, vR b1, vR b6, vR b11, vI tt, .val tv, vR cl, vR ul, vI ((R'.length).toInt32 + (-1 : Int32)), vI (K.length).toInt32, vI (nb V'), vR b16, vI (((0 : Int32) + (0 : Int32)) + (nb .null)), vI (((R.length).toInt32 + (K.length).toInt32) + (nb V)), vI (((R.length).toInt32 + (K.length).toInt32) + (nb V)), vI ci, vR jc, vI (((R'.length).toInt32 + (K.length).toInt32) + (nb V')), vI (((R'.length).toInt32 + (K.length).toInt32) + (nb V')), uN, uN]) (-1 : Int32) (hb hby at_451) rfl rfl rfl k_) ?_
                show OEndsW p e below s _ _ _ (T30.setTop (mkF m 454 #[vI u0, vI u1, vI u2, vI u3, vI nn, vR b1, vR b6, vR b11, vI tt, .val tv, vR cl, vR ul, vI ((R'.length).toInt32 + (-1 : Int32)), vI (K.length).toInt32, vI (nb V'), vR b16, vI (((0 : Int32) + (0 : Int32)) + (nb .null)), vI (((R.length).toInt32 + (K.length).toInt32) + (nb V)), vI (((R.length).toInt32 + (K.length).toInt32) + (nb V)), vI ci, vR jc, vI (((R'.length).toInt32 + (K.length).toInt32) + (nb V')), vI (((R'.length).toInt32 + (K.length).toInt32) + (nb V')), uN, uN] []))
                have HP : OHere p l e room_1 (s.setVm T14.vm) m #[(.int u0), (.int u1), (.int u2), (.int u3)] below meth c Z n0 ks14 T30 25 142 ([(eO b16 "com/example/deadletter/deadletter/worker/WaitingJobs" [("com/example/deadletter/deadletter/worker/WaitingJobs", "ready", "Ljava/util/Deque;", (.ref r18)), ("com/example/deadletter/deadletter/worker/WaitingJobs", "toCount", "Ljava/util/Deque;", (.ref k18)), ("com/example/deadletter/deadletter/worker/WaitingJobs", "takenOver", "Lcom/example/deadletter/deadletter/job/Job;", V')]), (eO r18 "java/util/ArrayDeque" [("java/util/ArrayDeque", "elements", "[Ljava/lang/Object;", (.ref dr18)), ("java/util/ArrayDeque", "tail", "I", (.int (R'.length).toInt32)), ("java/util/ArrayDeque", "head", "I", (.int (1 : Int32)))]), (eA dr18 (.object "java/lang/Object") ((dq R').set 0 .null)), (eO k18 "java/util/ArrayDeque" [("java/util/ArrayDeque", "elements", "[Ljava/lang/Object;", (.ref dk18)), ("java/util/ArrayDeque", "tail", "I", (.int (K.length).toInt32)), ("java/util/ArrayDeque", "head", "I", (.int (0 : Int32)))]), (eA dk18 (.object "java/lang/Object") (dq K))] ++ G) := OHere.pick H30 [0, 1, 2, 3, 4] (by decide) rfl
                exact tail454 jc _ _ _ V' _ _ _ _ rfl hV' (by rw [List.length_set]; exact dq_len (by omega)) (sub_1 _ (by omega) hRp) HP
          have tail382 : ∀ jc : Addr, JC ci b1 b6 b11 jc → OEndsW p e below s room_1.cells room_1.slots (fun v' h' L => Fr n0 L ∧ v' = some (.int 1)) (T26.setTop (mkF m 382 #[vI u0, vI u1, vI u2, vI u3, vI nn, vR b1, vR b6, vR b11, vI tt, .val tv, vR cl, vR ul, vI (R.length).toInt32, vI (K.length).toInt32, vI (nb V), vR b16, vI (((0 : Int32) + (0 : Int32)) + (nb .null)), vI (((R.length).toInt32 + (K.length).toInt32) + (nb V)), vI (((R.length).toInt32 + (K.length).toInt32) + (nb V)), vI ci, uN, uN, uN, uN, uN] [(.ref jc)])) := by
            intro jc hjc
            have hjcF : ∃ fx : List OFEnt, eO jc "com/example/deadletter/deadletter/job/Job" fx ∈ G := by rcases hjc with ⟨-, rfl⟩ | ⟨-, rfl⟩ | ⟨-, rfl⟩ <;> first | exact ⟨_, hg0⟩ | exact ⟨_, hg1⟩ | exact ⟨_, hg2⟩
            obtain ⟨fc, hjcF⟩ := hjcF
            have hct := htk.iff h01 h02 h12 hjc
            refine OEndsW.pre (fun t_ k_ => XS.astore HG.here hx rfl (hb hby at_382) rfl rfl (l' := #[vI u0, vI u1, vI u2, vI u3, vI nn, vR b1, vR b6, vR b11, vI tt, .val tv, vR cl, vR ul, vI (R.length).toInt32, vI (K.length).toInt32, vI (nb V), vR b16, vI (((0 : Int32) + (0 : Int32)) + (nb .null)), vI (((R.length).toInt32 + (K.length).toInt32) + (nb V)), vI (((R.length).toInt32 + (K.length).toInt32) + (nb V)), vI ci, vR jc, uN, uN, uN, uN]) rfl k_) ?_
            show OEndsW p e below s _ _ _ (T26.setTop (mkF m 384 #[vI u0, vI u1, vI u2, vI u3, vI nn, vR b1, vR b6, vR b11, vI tt, .val tv, vR cl, vR ul, vI (R.length).toInt32, vI (K.length).toInt32, vI (nb V), vR b16, vI (((0 : Int32) + (0 : Int32)) + (nb .null)), vI (((R.length).toInt32 + (K.length).toInt32) + (nb V)), vI (((R.length).toInt32 + (K.length).toInt32) + (nb V)), vI ci, vR jc, uN, uN, uN, uN] []))
            refine OEndsW.pre (fun t_ k_ => XS.iloadN HG.here hx rfl (hb hby at_384) rfl k_) ?_
            show OEndsW p e below s _ _ _ (T26.setTop (mkF m 385 #[vI u0, vI u1, vI u2, vI u3, vI nn, vR b1, vR b6, vR b11, vI tt, .val tv, vR cl, vR ul, vI (R.length).toInt32, vI (K.length).toInt32, vI (nb V), vR b16, vI (((0 : Int32) + (0 : Int32)) + (nb .null)), vI (((R.length).toInt32 + (K.length).toInt32) + (nb V)), vI (((R.length).toInt32 + (K.length).toInt32) + (nb V)), vI ci, vR jc, uN, uN, uN, uN] [(.int u3)]))
            refine OEndsW.pre (fun t_ k_ => XT.iconstV HG.here hx rfl (1 : Int32) (hb hby at_385) rfl k_) ?_
            show OEndsW p e below s _ _ _ (T26.setTop (mkF m 386 #[vI u0, vI u1, vI u2, vI u3, vI nn, vR b1, vR b6, vR b11, vI tt, .val tv, vR cl, vR ul, vI (R.length).toInt32, vI (K.length).toInt32, vI (nb V), vR b16, vI (((0 : Int32) + (0 : Int32)) + (nb .null)), vI (((R.length).toInt32 + (K.length).toInt32) + (nb V)), vI (((R.length).toInt32 + (K.length).toInt32) + (nb V)), vI ci, vR jc, uN, uN, uN, uN] [(.int (1 : Int32)), (.int u3)]))
            refine OEndsW.pre (fun t_ k_ => XS.iand HG.here hx rfl (hb hby at_386) rfl k_) ?_
            show OEndsW p e below s _ _ _ (T26.setTop (mkF m 387 #[vI u0, vI u1, vI u2, vI u3, vI nn, vR b1, vR b6, vR b11, vI tt, .val tv, vR cl, vR ul, vI (R.length).toInt32, vI (K.length).toInt32, vI (nb V), vR b16, vI (((0 : Int32) + (0 : Int32)) + (nb .null)), vI (((R.length).toInt32 + (K.length).toInt32) + (nb V)), vI (((R.length).toInt32 + (K.length).toInt32) + (nb V)), vI ci, vR jc, uN, uN, uN, uN] [(.int (u3 &&& (1 : Int32)))]))
            by_cases c1 : (u3 &&& (1 : Int32)) = (0 : Int32)
            · refine OEndsW.pre (fun t_ k_ => XS.ifYes HG.here hx rfl (pc0 := 387) (pc' := 416) rfl (hb hby at_387) rfl (XT.i0_eq_t c1) (by decide) (by decide) k_) ?_
              show OEndsW p e below s _ _ _ (T26.setTop (mkF m 416 #[vI u0, vI u1, vI u2, vI u3, vI nn, vR b1, vR b6, vR b11, vI tt, .val tv, vR cl, vR ul, vI (R.length).toInt32, vI (K.length).toInt32, vI (nb V), vR b16, vI (((0 : Int32) + (0 : Int32)) + (nb .null)), vI (((R.length).toInt32 + (K.length).toInt32) + (nb V)), vI (((R.length).toInt32 + (K.length).toInt32) + (nb V)), vI ci, vR jc, uN, uN, uN, uN] []))
              have HP : OHere p l e room_1 (s.setVm T14.vm) m #[(.int u0), (.int u1), (.int u2), (.int u3)] below meth c Z n0 ks14 T26 25 142 ([(eO b16 "com/example/deadletter/deadletter/worker/WaitingJobs" [("com/example/deadletter/deadletter/worker/WaitingJobs", "ready", "Ljava/util/Deque;", (.ref r18)), ("com/example/deadletter/deadletter/worker/WaitingJobs", "toCount", "Ljava/util/Deque;", (.ref k18)), ("com/example/deadletter/deadletter/worker/WaitingJobs", "takenOver", "Lcom/example/deadletter/deadletter/job/Job;", V)]), (eO r18 "java/util/ArrayDeque" [("java/util/ArrayDeque", "elements", "[Ljava/lang/Object;", (.ref dr18)), ("java/util/ArrayDeque", "tail", "I", (.int (R.length).toInt32)), ("java/util/ArrayDeque", "head", "I", (.int (0 : Int32)))]), (eA dr18 (.object "java/lang/Object") (dq R)), (eO k18 "java/util/ArrayDeque" [("java/util/ArrayDeque", "elements", "[Ljava/lang/Object;", (.ref dk18)), ("java/util/ArrayDeque", "tail", "I", (.int (K.length).toInt32)), ("java/util/ArrayDeque", "head", "I", (.int (0 : Int32)))]), (eA dk18 (.object "java/lang/Object") (dq K))] ++ G) := OHere.pick HG [0, 1, 2, 3, 4] (by decide) rfl
              exact tail416 jc _ R V (by omega) hVr (fun x hx => hJG x (hRm x hx)) HP
            · refine OEndsW.pre (fun t_ k_ => XS.ifNo HG.here hx rfl (hb hby at_387) rfl (XT.i0_eq_f c1) k_) ?_
              show OEndsW p e below s _ _ _ (T26.setTop (mkF m 390 #[vI u0, vI u1, vI u2, vI u3, vI nn, vR b1, vR b6, vR b11, vI tt, .val tv, vR cl, vR ul, vI (R.length).toInt32, vI (K.length).toInt32, vI (nb V), vR b16, vI (((0 : Int32) + (0 : Int32)) + (nb .null)), vI (((R.length).toInt32 + (K.length).toInt32) + (nb V)), vI (((R.length).toInt32 + (K.length).toInt32) + (nb V)), vI ci, vR jc, uN, uN, uN, uN] []))
              refine OEndsW.pre (fun t_ k_ => XS.aload HG.here hx rfl (hb hby at_390) rfl rfl k_) ?_
              show OEndsW p e below s _ _ _ (T26.setTop (mkF m 392 #[vI u0, vI u1, vI u2, vI u3, vI nn, vR b1, vR b6, vR b11, vI tt, .val tv, vR cl, vR ul, vI (R.length).toInt32, vI (K.length).toInt32, vI (nb V), vR b16, vI (((0 : Int32) + (0 : Int32)) + (nb .null)), vI (((R.length).toInt32 + (K.length).toInt32) + (nb V)), vI (((R.length).toInt32 + (K.length).toInt32) + (nb V)), vI ci, vR jc, uN, uN, uN, uN] [(.ref b16)]))
              refine OEndsW.pre (fun t_ k_ => XS.aload HG.here hx rfl (hb hby at_392) rfl rfl k_) ?_
              show OEndsW p e below s _ _ _ (T26.setTop (mkF m 394 #[vI u0, vI u1, vI u2, vI u3, vI nn, vR b1, vR b6, vR b11, vI tt, .val tv, vR cl, vR ul, vI (R.length).toInt32, vI (K.length).toInt32, vI (nb V), vR b16, vI (((0 : Int32) + (0 : Int32)) + (nb .null)), vI (((R.length).toInt32 + (K.length).toInt32) + (nb V)), vI (((R.length).toInt32 + (K.length).toInt32) + (nb V)), vI ci, vR jc, uN, uN, uN, uN] [(.ref jc), (.ref b16)]))
              by_cases hVj : V = .ref jc
              · have HV : OHere p l e room_1 (s.setVm T14.vm) m #[(.int u0), (.int u1), (.int u2), (.int u3)] below meth c Z n0 ks14 T26 25 142 ([(eO b16 "com/example/deadletter/deadletter/worker/WaitingJobs" [("com/example/deadletter/deadletter/worker/WaitingJobs", "ready", "Ljava/util/Deque;", (.ref r18)), ("com/example/deadletter/deadletter/worker/WaitingJobs", "toCount", "Ljava/util/Deque;", (.ref k18)), ("com/example/deadletter/deadletter/worker/WaitingJobs", "takenOver", "Lcom/example/deadletter/deadletter/job/Job;", (.ref jc))]), (eO r18 "java/util/ArrayDeque" [("java/util/ArrayDeque", "elements", "[Ljava/lang/Object;", (.ref dr18)), ("java/util/ArrayDeque", "tail", "I", (.int (R.length).toInt32)), ("java/util/ArrayDeque", "head", "I", (.int (0 : Int32)))]), (eA dr18 (.object "java/lang/Object") (dq R)), (eO k18 "java/util/ArrayDeque" [("java/util/ArrayDeque", "elements", "[Ljava/lang/Object;", (.ref dk18)), ("java/util/ArrayDeque", "tail", "I", (.int (K.length).toInt32)), ("java/util/ArrayDeque", "head", "I", (.int (0 : Int32)))]), (eA dk18 (.object "java/lang/Object") (dq K))] ++ G) := by rw [← hVj]; exact HG
                obtain ⟨T31, _, _, ⟨rfl, rfl⟩, H31, st31⟩ := OHere.virtual HV hx hZ14 (y := (⟨"com/example/deadletter/deadletter/worker/WaitingJobs", "turnCome", "(Lcom/example/deadletter/deadletter/job/Job;)V"⟩ : MethodName)) (z := (⟨"com/example/deadletter/deadletter/worker/WaitingJobs", "turnCome", "(Lcom/example/deadletter/deadletter/job/Job;)V"⟩ : MethodName)) (W := 0) (a := b16) (q := 0) (fs := [("com/example/deadletter/deadletter/worker/WaitingJobs", "ready", "Ljava/util/Deque;", (.ref r18)), ("com/example/deadletter/deadletter/worker/WaitingJobs", "toCount", "Ljava/util/Deque;", (.ref k18)), ("com/example/deadletter/deadletter/worker/WaitingJobs", "takenOver", "Lcom/example/deadletter/deadletter/job/Job;", (.ref jc))]) hown14 (tWd hw 173 rfl) (tWd hw 174 rfl) (nf_sel (tWd hw 112 rfl) rfl) (tWd hw 176 rfl) (tWd hw 175 rfl) (tWd hw 89 rfl) (tWd hw 177 rfl) (by decide) rfl (conTC1 l Z a0 hw n0 [] b16 ([(eO k18 "java/util/ArrayDeque" [("java/util/ArrayDeque", "elements", "[Ljava/lang/Object;", (.ref dk18)), ("java/util/ArrayDeque", "tail", "I", (.int (K.length).toInt32)), ("java/util/ArrayDeque", "head", "I", (.int (0 : Int32)))]), (eA dk18 (.object "java/lang/Object") (dq K))] ++ G) jc fc (List.mem_append_right _ hjcF) r18 k18 dr18 (dq R) R.length (dq_len (by omega)) (by omega)) (by decide) (by decide) (pc := 394) (Ls := #[vI u0, vI u1, vI u2, vI u3, vI nn, vR b1, vR b6, vR b11, vI tt, .val tv, vR cl, vR ul, vI (R.length).toInt32, vI (K.length).toInt32, vI (nb V), vR b16, vI (((0 : Int32) + (0 : Int32)) + (nb .null)), vI (((R.length).toInt32 + (K.length).toInt32) + (nb V)), vI (((R.length).toInt32 + (K.length).toInt32) + (nb V)), vI ci, vR jc, uN, uN, uN, uN]) (argsL := [(.ref jc)]) (rest := []) (by rw [hml]; rfl) (lenOf pd_oLcom_example_deadletter_deadletter_job_Job_cV rfl) rfl (Nat.le_of_eq rfl) (hb hby at_394) (by decide) (by decide)
                replace H31 : OHere p l e _ (s.setVm T14.vm) m _ below meth c Z n0 ks14 T31 25 142 ([(eO b16 "com/example/deadletter/deadletter/worker/WaitingJobs" [("com/example/deadletter/deadletter/worker/WaitingJobs", "ready", "Ljava/util/Deque;", (.ref r18)), ("com/example/deadletter/deadletter/worker/WaitingJobs", "toCount", "Ljava/util/Deque;", (.ref k18)), ("com/example/deadletter/deadletter/worker/WaitingJobs", "takenOver", "Lcom/example/deadletter/deadletter/job/Job;", .null)]), (eO r18 "java/util/ArrayDeque" [("java/util/ArrayDeque", "elements", "[Ljava/lang/Object;", (.ref dr18)), ("java/util/ArrayDeque", "tail", "I", (.int (R.length + 1).toInt32)), ("java/util/ArrayDeque", "head", "I", (.int (0 : Int32)))]), (eA dr18 (.object "java/lang/Object") ((dq R).set R.length (.ref jc))), (eO k18 "java/util/ArrayDeque" [("java/util/ArrayDeque", "elements", "[Ljava/lang/Object;", (.ref dk18)), ("java/util/ArrayDeque", "tail", "I", (.int (K.length).toInt32)), ("java/util/ArrayDeque", "head", "I", (.int (0 : Int32)))]), (eA dk18 (.object "java/lang/Object") (dq K))] ++ G) := H31
                refine OEndsW.pre (fun t_ k_ => st31 _ k_) ?_
                show OEndsW p e below s _ _ _ (T31.setTop (mkF m 397 #[vI u0, vI u1, vI u2, vI u3, vI nn, vR b1, vR b6, vR b11, vI tt, .val tv, vR cl, vR ul, vI (R.length).toInt32, vI (K.length).toInt32, vI (nb V), vR b16, vI (((0 : Int32) + (0 : Int32)) + (nb .null)), vI (((R.length).toInt32 + (K.length).toInt32) + (nb V)), vI (((R.length).toInt32 + (K.length).toInt32) + (nb V)), vI ci, vR jc, uN, uN, uN, uN] []))
                refine OEndsW.pre (fun t_ k_ => XS.iload H31.here hx rfl (hb hby at_397) rfl k_) ?_
                show OEndsW p e below s _ _ _ (T31.setTop (mkF m 399 #[vI u0, vI u1, vI u2, vI u3, vI nn, vR b1, vR b6, vR b11, vI tt, .val tv, vR cl, vR ul, vI (R.length).toInt32, vI (K.length).toInt32, vI (nb V), vR b16, vI (((0 : Int32) + (0 : Int32)) + (nb .null)), vI (((R.length).toInt32 + (K.length).toInt32) + (nb V)), vI (((R.length).toInt32 + (K.length).toInt32) + (nb V)), vI ci, vR jc, uN, uN, uN, uN] [(.int (nb V))]))
                refine OEndsW.pre (fun t_ k_ => XT.iconstV H31.here hx rfl (1 : Int32) (hb hby at_399) rfl k_) ?_
                show OEndsW p e below s _ _ _ (T31.setTop (mkF m 400 #[vI u0, vI u1, vI u2, vI u3, vI nn, vR b1, vR b6, vR b11, vI tt, .val tv, vR cl, vR ul, vI (R.length).toInt32, vI (K.length).toInt32, vI (nb V), vR b16, vI (((0 : Int32) + (0 : Int32)) + (nb .null)), vI (((R.length).toInt32 + (K.length).toInt32) + (nb V)), vI (((R.length).toInt32 + (K.length).toInt32) + (nb V)), vI ci, vR jc, uN, uN, uN, uN] [(.int (1 : Int32)), (.int (nb V))]))
                refine OEndsW.pre (fun t_ k_ => XS.icmpNo H31.here hx rfl (hb hby at_400) rfl (XT.ii_ne_f (by rw [hVj]; rfl)) k_) ?_
                show OEndsW p e below s _ _ _ (T31.setTop (mkF m 403 #[vI u0, vI u1, vI u2, vI u3, vI nn, vR b1, vR b6, vR b11, vI tt, .val tv, vR cl, vR ul, vI (R.length).toInt32, vI (K.length).toInt32, vI (nb V), vR b16, vI (((0 : Int32) + (0 : Int32)) + (nb .null)), vI (((R.length).toInt32 + (K.length).toInt32) + (nb V)), vI (((R.length).toInt32 + (K.length).toInt32) + (nb V)), vI ci, vR jc, uN, uN, uN, uN] []))
                refine OEndsW.pre (fun t_ k_ => XS.iload H31.here hx rfl (hb hby at_403) rfl k_) ?_
                show OEndsW p e below s _ _ _ (T31.setTop (mkF m 405 #[vI u0, vI u1, vI u2, vI u3, vI nn, vR b1, vR b6, vR b11, vI tt, .val tv, vR cl, vR ul, vI (R.length).toInt32, vI (K.length).toInt32, vI (nb V), vR b16, vI (((0 : Int32) + (0 : Int32)) + (nb .null)), vI (((R.length).toInt32 + (K.length).toInt32) + (nb V)), vI (((R.length).toInt32 + (K.length).toInt32) + (nb V)), vI ci, vR jc, uN, uN, uN, uN] [(.int ci)]))
                refine OEndsW.pre (fun t_ k_ => XS.iload H31.here hx rfl (hb hby at_405) rfl k_) ?_
                show OEndsW p e below s _ _ _ (T31.setTop (mkF m 407 #[vI u0, vI u1, vI u2, vI u3, vI nn, vR b1, vR b6, vR b11, vI tt, .val tv, vR cl, vR ul, vI (R.length).toInt32, vI (K.length).toInt32, vI (nb V), vR b16, vI (((0 : Int32) + (0 : Int32)) + (nb .null)), vI (((R.length).toInt32 + (K.length).toInt32) + (nb V)), vI (((R.length).toInt32 + (K.length).toInt32) + (nb V)), vI ci, vR jc, uN, uN, uN, uN] [(.int tt), (.int ci)]))
                refine OEndsW.pre (fun t_ k_ => XS.icmpNo H31.here hx rfl (hb hby at_407) rfl (XT.ii_ne_f (hct.mpr ((hVj.symm).trans ((hVtv.resolve_left (by rw [hVj]; simp)))))) k_) ?_
                show OEndsW p e below s _ _ _ (T31.setTop (mkF m 410 #[vI u0, vI u1, vI u2, vI u3, vI nn, vR b1, vR b6, vR b11, vI tt, .val tv, vR cl, vR ul, vI (R.length).toInt32, vI (K.length).toInt32, vI (nb V), vR b16, vI (((0 : Int32) + (0 : Int32)) + (nb .null)), vI (((R.length).toInt32 + (K.length).toInt32) + (nb V)), vI (((R.length).toInt32 + (K.length).toInt32) + (nb V)), vI ci, vR jc, uN, uN, uN, uN] []))
                refine OEndsW.pre (fun t_ k_ => XT.iconstV H31.here hx rfl (0 : Int32) (hb hby at_410) rfl k_) ?_
                show OEndsW p e below s _ _ _ (T31.setTop (mkF m 411 #[vI u0, vI u1, vI u2, vI u3, vI nn, vR b1, vR b6, vR b11, vI tt, .val tv, vR cl, vR ul, vI (R.length).toInt32, vI (K.length).toInt32, vI (nb V), vR b16, vI (((0 : Int32) + (0 : Int32)) + (nb .null)), vI (((R.length).toInt32 + (K.length).toInt32) + (nb V)), vI (((R.length).toInt32 + (K.length).toInt32) + (nb V)), vI ci, vR jc, uN, uN, uN, uN] [(.int (0 : Int32))]))
                refine OEndsW.pre (fun t_ k_ => XS.istore H31.here hx rfl (hb hby at_411) rfl (l' := #[vI u0, vI u1, vI u2, vI u3, vI nn, vR b1, vR b6, vR b11, vI tt, .val tv, vR cl, vR ul, vI (R.length).toInt32, vI (K.length).toInt32, vI (0 : Int32), vR b16, vI (((0 : Int32) + (0 : Int32)) + (nb .null)), vI (((R.length).toInt32 + (K.length).toInt32) + (nb V)), vI (((R.length).toInt32 + (K.length).toInt32) + (nb V)), vI ci, vR jc, uN, uN, uN, uN]) rfl k_) ?_
                show OEndsW p e below s _ _ _ (T31.setTop (mkF m 413 #[vI u0, vI u1, vI u2, vI u3, vI nn, vR b1, vR b6, vR b11, vI tt, .val tv, vR cl, vR ul, vI (R.length).toInt32, vI (K.length).toInt32, vI (0 : Int32), vR b16, vI (((0 : Int32) + (0 : Int32)) + (nb .null)), vI (((R.length).toInt32 + (K.length).toInt32) + (nb V)), vI (((R.length).toInt32 + (K.length).toInt32) + (nb V)), vI ci, vR jc, uN, uN, uN, uN] []))
                refine OEndsW.pre (fun t_ k_ => XT.iincV H31.here hx rfl (l' := #[vI u0, vI u1, vI u2, vI u3, vI nn, vR b1, vR b6, vR b11, vI tt, .val tv, vR cl, vR ul, vI ((R.length).toInt32 + (1 : Int32)), vI (K.length).toInt32, vI (0 : Int32), vR b16, vI (((0 : Int32) + (0 : Int32)) + (nb .null)), vI (((R.length).toInt32 + (K.length).toInt32) + (nb V)), vI (((R.length).toInt32 + (K.length).toInt32) + (nb V)), vI ci, vR jc, uN, uN, uN, uN]) (1 : Int32) (hb hby at_413) rfl rfl rfl k_) ?_
                show OEndsW p e below s _ _ _ (T31.setTop (mkF m 416 #[vI u0, vI u1, vI u2, vI u3, vI nn, vR b1, vR b6, vR b11, vI tt, .val tv, vR cl, vR ul, vI ((R.length).toInt32 + (1 : Int32)), vI (K.length).toInt32, vI (0 : Int32), vR b16, vI (((0 : Int32) + (0 : Int32)) + (nb .null)), vI (((R.length).toInt32 + (K.length).toInt32) + (nb V)), vI (((R.length).toInt32 + (K.length).toInt32) + (nb V)), vI ci, vR jc, uN, uN, uN, uN] []))
                have HP : OHere p l e room_1 (s.setVm T14.vm) m #[(.int u0), (.int u1), (.int u2), (.int u3)] below meth c Z n0 ks14 T31 25 142 ([(eO b16 "com/example/deadletter/deadletter/worker/WaitingJobs" [("com/example/deadletter/deadletter/worker/WaitingJobs", "ready", "Ljava/util/Deque;", (.ref r18)), ("com/example/deadletter/deadletter/worker/WaitingJobs", "toCount", "Ljava/util/Deque;", (.ref k18)), ("com/example/deadletter/deadletter/worker/WaitingJobs", "takenOver", "Lcom/example/deadletter/deadletter/job/Job;", .null)]), (eO r18 "java/util/ArrayDeque" [("java/util/ArrayDeque", "elements", "[Ljava/lang/Object;", (.ref dr18)), ("java/util/ArrayDeque", "tail", "I", (.int (R.length + 1).toInt32)), ("java/util/ArrayDeque", "head", "I", (.int (0 : Int32)))]), (eA dr18 (.object "java/lang/Object") ((dq R).set R.length (.ref jc))), (eO k18 "java/util/ArrayDeque" [("java/util/ArrayDeque", "elements", "[Ljava/lang/Object;", (.ref dk18)), ("java/util/ArrayDeque", "tail", "I", (.int (K.length).toInt32)), ("java/util/ArrayDeque", "head", "I", (.int (0 : Int32)))]), (eA dk18 (.object "java/lang/Object") (dq K))] ++ G) := OHere.pick H31 [0, 1, 2, 3, 4] (by decide) rfl
                rw [dq_set jc (by omega), show R.length + 1 = (R ++ [jc]).length from by simp] at HP
                rw [i_succ R.length, show R.length + 1 = (R ++ [jc]).length from by simp]
                exact tail416 jc _ (R ++ [jc]) .null (by simp; omega) rfl (fun x hx => (List.mem_append.mp hx).elim (fun q => hJG x (hRm x q)) (fun q => by rw [List.mem_singleton.mp q]; exact ⟨_, hjcF⟩)) HP
              · obtain ⟨T32, _, _, ⟨rfl, rfl⟩, H32, st32⟩ := OHere.virtual HG hx hZ14 (y := (⟨"com/example/deadletter/deadletter/worker/WaitingJobs", "turnCome", "(Lcom/example/deadletter/deadletter/job/Job;)V"⟩ : MethodName)) (z := (⟨"com/example/deadletter/deadletter/worker/WaitingJobs", "turnCome", "(Lcom/example/deadletter/deadletter/job/Job;)V"⟩ : MethodName)) (W := 0) (a := b16) (q := 0) (fs := [("com/example/deadletter/deadletter/worker/WaitingJobs", "ready", "Ljava/util/Deque;", (.ref r18)), ("com/example/deadletter/deadletter/worker/WaitingJobs", "toCount", "Ljava/util/Deque;", (.ref k18)), ("com/example/deadletter/deadletter/worker/WaitingJobs", "takenOver", "Lcom/example/deadletter/deadletter/job/Job;", V)]) hown14 (tWd hw 173 rfl) (tWd hw 174 rfl) (nf_sel (tWd hw 112 rfl) rfl) (tWd hw 176 rfl) (tWd hw 175 rfl) (tWd hw 89 rfl) (tWd hw 177 rfl) (by decide) rfl (conTC0 l Z a0 hw n0 [] b16 ([(eO k18 "java/util/ArrayDeque" [("java/util/ArrayDeque", "elements", "[Ljava/lang/Object;", (.ref dk18)), ("java/util/ArrayDeque", "tail", "I", (.int (K.length).toInt32)), ("java/util/ArrayDeque", "head", "I", (.int (0 : Int32)))]), (eA dk18 (.object "java/lang/Object") (dq K))] ++ G) jc fc (List.mem_append_right _ hjcF) r18 k18 dr18 V hVr (fun q => hVj q.symm) (dq R) R.length (dq_len (by omega)) (by omega)) (by decide) (by decide) (pc := 394) (Ls := #[vI u0, vI u1, vI u2, vI u3, vI nn, vR b1, vR b6, vR b11, vI tt, .val tv, vR cl, vR ul, vI (R.length).toInt32, vI (K.length).toInt32, vI (nb V), vR b16, vI (((0 : Int32) + (0 : Int32)) + (nb .null)), vI (((R.length).toInt32 + (K.length).toInt32) + (nb V)), vI (((R.length).toInt32 + (K.length).toInt32) + (nb V)), vI ci, vR jc, uN, uN, uN, uN]) (argsL := [(.ref jc)]) (rest := []) (by rw [hml]; rfl) (lenOf pd_oLcom_example_deadletter_deadletter_job_Job_cV rfl) rfl (Nat.le_of_eq rfl) (hb hby at_394) (by decide) (by decide)
                replace H32 : OHere p l e _ (s.setVm T14.vm) m _ below meth c Z n0 ks14 T32 25 142 ([(eO b16 "com/example/deadletter/deadletter/worker/WaitingJobs" [("com/example/deadletter/deadletter/worker/WaitingJobs", "ready", "Ljava/util/Deque;", (.ref r18)), ("com/example/deadletter/deadletter/worker/WaitingJobs", "toCount", "Ljava/util/Deque;", (.ref k18)), ("com/example/deadletter/deadletter/worker/WaitingJobs", "takenOver", "Lcom/example/deadletter/deadletter/job/Job;", V)]), (eO r18 "java/util/ArrayDeque" [("java/util/ArrayDeque", "elements", "[Ljava/lang/Object;", (.ref dr18)), ("java/util/ArrayDeque", "tail", "I", (.int (R.length).toInt32)), ("java/util/ArrayDeque", "head", "I", (.int (0 : Int32)))]), (eA dr18 (.object "java/lang/Object") (dq R)), (eO k18 "java/util/ArrayDeque" [("java/util/ArrayDeque", "elements", "[Ljava/lang/Object;", (.ref dk18)), ("java/util/ArrayDeque", "tail", "I", (.int (K.length).toInt32)), ("java/util/ArrayDeque", "head", "I", (.int (0 : Int32)))]), (eA dk18 (.object "java/lang/Object") (dq K))] ++ G) := H32
                refine OEndsW.pre (fun t_ k_ => st32 _ k_) ?_
                show OEndsW p e below s _ _ _ (T32.setTop (mkF m 397 #[vI u0, vI u1, vI u2, vI u3, vI nn, vR b1, vR b6, vR b11, vI tt, .val tv, vR cl, vR ul, vI (R.length).toInt32, vI (K.length).toInt32, vI (nb V), vR b16, vI (((0 : Int32) + (0 : Int32)) + (nb .null)), vI (((R.length).toInt32 + (K.length).toInt32) + (nb V)), vI (((R.length).toInt32 + (K.length).toInt32) + (nb V)), vI ci, vR jc, uN, uN, uN, uN] []))
                refine OEndsW.pre (fun t_ k_ => XS.iload H32.here hx rfl (hb hby at_397) rfl k_) ?_
                show OEndsW p e below s _ _ _ (T32.setTop (mkF m 399 #[vI u0, vI u1, vI u2, vI u3, vI nn, vR b1, vR b6, vR b11, vI tt, .val tv, vR cl, vR ul, vI (R.length).toInt32, vI (K.length).toInt32, vI (nb V), vR b16, vI (((0 : Int32) + (0 : Int32)) + (nb .null)), vI (((R.length).toInt32 + (K.length).toInt32) + (nb V)), vI (((R.length).toInt32 + (K.length).toInt32) + (nb V)), vI ci, vR jc, uN, uN, uN, uN] [(.int (nb V))]))
                refine OEndsW.pre (fun t_ k_ => XT.iconstV H32.here hx rfl (1 : Int32) (hb hby at_399) rfl k_) ?_
                show OEndsW p e below s _ _ _ (T32.setTop (mkF m 400 #[vI u0, vI u1, vI u2, vI u3, vI nn, vR b1, vR b6, vR b11, vI tt, .val tv, vR cl, vR ul, vI (R.length).toInt32, vI (K.length).toInt32, vI (nb V), vR b16, vI (((0 : Int32) + (0 : Int32)) + (nb .null)), vI (((R.length).toInt32 + (K.length).toInt32) + (nb V)), vI (((R.length).toInt32 + (K.length).toInt32) + (nb V)), vI ci, vR jc, uN, uN, uN, uN] [(.int (1 : Int32)), (.int (nb V))]))
                by_cases c2 : (nb V) = (1 : Int32)
                · refine OEndsW.pre (fun t_ k_ => XS.icmpNo H32.here hx rfl (hb hby at_400) rfl (XT.ii_ne_f c2) k_) ?_
                  show OEndsW p e below s _ _ _ (T32.setTop (mkF m 403 #[vI u0, vI u1, vI u2, vI u3, vI nn, vR b1, vR b6, vR b11, vI tt, .val tv, vR cl, vR ul, vI (R.length).toInt32, vI (K.length).toInt32, vI (nb V), vR b16, vI (((0 : Int32) + (0 : Int32)) + (nb .null)), vI (((R.length).toInt32 + (K.length).toInt32) + (nb V)), vI (((R.length).toInt32 + (K.length).toInt32) + (nb V)), vI ci, vR jc, uN, uN, uN, uN] []))
                  refine OEndsW.pre (fun t_ k_ => XS.iload H32.here hx rfl (hb hby at_403) rfl k_) ?_
                  show OEndsW p e below s _ _ _ (T32.setTop (mkF m 405 #[vI u0, vI u1, vI u2, vI u3, vI nn, vR b1, vR b6, vR b11, vI tt, .val tv, vR cl, vR ul, vI (R.length).toInt32, vI (K.length).toInt32, vI (nb V), vR b16, vI (((0 : Int32) + (0 : Int32)) + (nb .null)), vI (((R.length).toInt32 + (K.length).toInt32) + (nb V)), vI (((R.length).toInt32 + (K.length).toInt32) + (nb V)), vI ci, vR jc, uN, uN, uN, uN] [(.int ci)]))
                  refine OEndsW.pre (fun t_ k_ => XS.iload H32.here hx rfl (hb hby at_405) rfl k_) ?_
                  show OEndsW p e below s _ _ _ (T32.setTop (mkF m 407 #[vI u0, vI u1, vI u2, vI u3, vI nn, vR b1, vR b6, vR b11, vI tt, .val tv, vR cl, vR ul, vI (R.length).toInt32, vI (K.length).toInt32, vI (nb V), vR b16, vI (((0 : Int32) + (0 : Int32)) + (nb .null)), vI (((R.length).toInt32 + (K.length).toInt32) + (nb V)), vI (((R.length).toInt32 + (K.length).toInt32) + (nb V)), vI ci, vR jc, uN, uN, uN, uN] [(.int tt), (.int ci)]))
                  refine OEndsW.pre (fun t_ k_ => XS.icmpYes H32.here hx rfl (pc0 := 407) (pc' := 416) rfl (hb hby at_407) rfl (XT.ii_ne_t (fun q => hVj ((hVtv.resolve_left (fun q' => absurd c2 (by rw [q']; decide))).trans (hct.mp q).symm))) (by decide) (by decide) k_) ?_
                  show OEndsW p e below s _ _ _ (T32.setTop (mkF m 416 #[vI u0, vI u1, vI u2, vI u3, vI nn, vR b1, vR b6, vR b11, vI tt, .val tv, vR cl, vR ul, vI (R.length).toInt32, vI (K.length).toInt32, vI (nb V), vR b16, vI (((0 : Int32) + (0 : Int32)) + (nb .null)), vI (((R.length).toInt32 + (K.length).toInt32) + (nb V)), vI (((R.length).toInt32 + (K.length).toInt32) + (nb V)), vI ci, vR jc, uN, uN, uN, uN] []))
                  have HP : OHere p l e room_1 (s.setVm T14.vm) m #[(.int u0), (.int u1), (.int u2), (.int u3)] below meth c Z n0 ks14 T32 25 142 ([(eO b16 "com/example/deadletter/deadletter/worker/WaitingJobs" [("com/example/deadletter/deadletter/worker/WaitingJobs", "ready", "Ljava/util/Deque;", (.ref r18)), ("com/example/deadletter/deadletter/worker/WaitingJobs", "toCount", "Ljava/util/Deque;", (.ref k18)), ("com/example/deadletter/deadletter/worker/WaitingJobs", "takenOver", "Lcom/example/deadletter/deadletter/job/Job;", V)]), (eO r18 "java/util/ArrayDeque" [("java/util/ArrayDeque", "elements", "[Ljava/lang/Object;", (.ref dr18)), ("java/util/ArrayDeque", "tail", "I", (.int (R.length).toInt32)), ("java/util/ArrayDeque", "head", "I", (.int (0 : Int32)))]), (eA dr18 (.object "java/lang/Object") (dq R)), (eO k18 "java/util/ArrayDeque" [("java/util/ArrayDeque", "elements", "[Ljava/lang/Object;", (.ref dk18)), ("java/util/ArrayDeque", "tail", "I", (.int (K.length).toInt32)), ("java/util/ArrayDeque", "head", "I", (.int (0 : Int32)))]), (eA dk18 (.object "java/lang/Object") (dq K))] ++ G) := OHere.pick H32 [0, 1, 2, 3, 4] (by decide) rfl
                  exact tail416 jc _ R V (by omega) hVr (fun x hx => hJG x (hRm x hx)) HP
                · refine OEndsW.pre (fun t_ k_ => XS.icmpYes H32.here hx rfl (pc0 := 400) (pc' := 416) rfl (hb hby at_400) rfl (XT.ii_ne_t c2) (by decide) (by decide) k_) ?_
                  show OEndsW p e below s _ _ _ (T32.setTop (mkF m 416 #[vI u0, vI u1, vI u2, vI u3, vI nn, vR b1, vR b6, vR b11, vI tt, .val tv, vR cl, vR ul, vI (R.length).toInt32, vI (K.length).toInt32, vI (nb V), vR b16, vI (((0 : Int32) + (0 : Int32)) + (nb .null)), vI (((R.length).toInt32 + (K.length).toInt32) + (nb V)), vI (((R.length).toInt32 + (K.length).toInt32) + (nb V)), vI ci, vR jc, uN, uN, uN, uN] []))
                  have HP : OHere p l e room_1 (s.setVm T14.vm) m #[(.int u0), (.int u1), (.int u2), (.int u3)] below meth c Z n0 ks14 T32 25 142 ([(eO b16 "com/example/deadletter/deadletter/worker/WaitingJobs" [("com/example/deadletter/deadletter/worker/WaitingJobs", "ready", "Ljava/util/Deque;", (.ref r18)), ("com/example/deadletter/deadletter/worker/WaitingJobs", "toCount", "Ljava/util/Deque;", (.ref k18)), ("com/example/deadletter/deadletter/worker/WaitingJobs", "takenOver", "Lcom/example/deadletter/deadletter/job/Job;", V)]), (eO r18 "java/util/ArrayDeque" [("java/util/ArrayDeque", "elements", "[Ljava/lang/Object;", (.ref dr18)), ("java/util/ArrayDeque", "tail", "I", (.int (R.length).toInt32)), ("java/util/ArrayDeque", "head", "I", (.int (0 : Int32)))]), (eA dr18 (.object "java/lang/Object") (dq R)), (eO k18 "java/util/ArrayDeque" [("java/util/ArrayDeque", "elements", "[Ljava/lang/Object;", (.ref dk18)), ("java/util/ArrayDeque", "tail", "I", (.int (K.length).toInt32)), ("java/util/ArrayDeque", "head", "I", (.int (0 : Int32)))]), (eA dk18 (.object "java/lang/Object") (dq K))] ++ G) := OHere.pick H32 [0, 1, 2, 3, 4] (by decide) rfl
                  exact tail416 jc _ R V (by omega) hVr (fun x hx => hJG x (hRm x hx)) HP
          refine OEndsW.pre (fun t_ k_ => XS.iload HG.here hx rfl (hb hby at_359) rfl k_) ?_
          show OEndsW p e below s _ _ _ (T26.setTop (mkF m 361 #[vI u0, vI u1, vI u2, vI u3, vI nn, vR b1, vR b6, vR b11, vI tt, .val tv, vR cl, vR ul, vI (R.length).toInt32, vI (K.length).toInt32, vI (nb V), vR b16, vI (((0 : Int32) + (0 : Int32)) + (nb .null)), vI (((R.length).toInt32 + (K.length).toInt32) + (nb V)), vI (((R.length).toInt32 + (K.length).toInt32) + (nb V)), vI ci, uN, uN, uN, uN, uN] [(.int ci)]))
          by_cases c1 : ci = (0 : Int32)
          · refine OEndsW.pre (fun t_ k_ => XS.ifNo HG.here hx rfl (hb hby at_361) rfl (XT.i0_ne_f c1) k_) ?_
            show OEndsW p e below s _ _ _ (T26.setTop (mkF m 364 #[vI u0, vI u1, vI u2, vI u3, vI nn, vR b1, vR b6, vR b11, vI tt, .val tv, vR cl, vR ul, vI (R.length).toInt32, vI (K.length).toInt32, vI (nb V), vR b16, vI (((0 : Int32) + (0 : Int32)) + (nb .null)), vI (((R.length).toInt32 + (K.length).toInt32) + (nb V)), vI (((R.length).toInt32 + (K.length).toInt32) + (nb V)), vI ci, uN, uN, uN, uN, uN] []))
            refine OEndsW.pre (fun t_ k_ => XS.aload HG.here hx rfl (hb hby at_364) rfl rfl k_) ?_
            show OEndsW p e below s _ _ _ (T26.setTop (mkF m 366 #[vI u0, vI u1, vI u2, vI u3, vI nn, vR b1, vR b6, vR b11, vI tt, .val tv, vR cl, vR ul, vI (R.length).toInt32, vI (K.length).toInt32, vI (nb V), vR b16, vI (((0 : Int32) + (0 : Int32)) + (nb .null)), vI (((R.length).toInt32 + (K.length).toInt32) + (nb V)), vI (((R.length).toInt32 + (K.length).toInt32) + (nb V)), vI ci, uN, uN, uN, uN, uN] [(.ref b1)]))
            refine OEndsW.pre (fun t_ k_ => XS.goto HG.here hx rfl (pc0 := 366) (pc' := 382) rfl (hb hby at_366) (by decide) (by decide) k_) ?_
            show OEndsW p e below s _ _ _ (T26.setTop (mkF m 382 #[vI u0, vI u1, vI u2, vI u3, vI nn, vR b1, vR b6, vR b11, vI tt, .val tv, vR cl, vR ul, vI (R.length).toInt32, vI (K.length).toInt32, vI (nb V), vR b16, vI (((0 : Int32) + (0 : Int32)) + (nb .null)), vI (((R.length).toInt32 + (K.length).toInt32) + (nb V)), vI (((R.length).toInt32 + (K.length).toInt32) + (nb V)), vI ci, uN, uN, uN, uN, uN] [(.ref b1)]))
            exact tail382 b1 (Or.inl ⟨c1, rfl⟩)
          · refine OEndsW.pre (fun t_ k_ => XS.ifYes HG.here hx rfl (pc0 := 361) (pc' := 369) rfl (hb hby at_361) rfl (XT.i0_ne_t c1) (by decide) (by decide) k_) ?_
            show OEndsW p e below s _ _ _ (T26.setTop (mkF m 369 #[vI u0, vI u1, vI u2, vI u3, vI nn, vR b1, vR b6, vR b11, vI tt, .val tv, vR cl, vR ul, vI (R.length).toInt32, vI (K.length).toInt32, vI (nb V), vR b16, vI (((0 : Int32) + (0 : Int32)) + (nb .null)), vI (((R.length).toInt32 + (K.length).toInt32) + (nb V)), vI (((R.length).toInt32 + (K.length).toInt32) + (nb V)), vI ci, uN, uN, uN, uN, uN] []))
            refine OEndsW.pre (fun t_ k_ => XS.iload HG.here hx rfl (hb hby at_369) rfl k_) ?_
            show OEndsW p e below s _ _ _ (T26.setTop (mkF m 371 #[vI u0, vI u1, vI u2, vI u3, vI nn, vR b1, vR b6, vR b11, vI tt, .val tv, vR cl, vR ul, vI (R.length).toInt32, vI (K.length).toInt32, vI (nb V), vR b16, vI (((0 : Int32) + (0 : Int32)) + (nb .null)), vI (((R.length).toInt32 + (K.length).toInt32) + (nb V)), vI (((R.length).toInt32 + (K.length).toInt32) + (nb V)), vI ci, uN, uN, uN, uN, uN] [(.int ci)]))
            refine OEndsW.pre (fun t_ k_ => XT.iconstV HG.here hx rfl (1 : Int32) (hb hby at_371) rfl k_) ?_
            show OEndsW p e below s _ _ _ (T26.setTop (mkF m 372 #[vI u0, vI u1, vI u2, vI u3, vI nn, vR b1, vR b6, vR b11, vI tt, .val tv, vR cl, vR ul, vI (R.length).toInt32, vI (K.length).toInt32, vI (nb V), vR b16, vI (((0 : Int32) + (0 : Int32)) + (nb .null)), vI (((R.length).toInt32 + (K.length).toInt32) + (nb V)), vI (((R.length).toInt32 + (K.length).toInt32) + (nb V)), vI ci, uN, uN, uN, uN, uN] [(.int (1 : Int32)), (.int ci)]))
            by_cases c2 : ci = (1 : Int32)
            · refine OEndsW.pre (fun t_ k_ => XS.icmpNo HG.here hx rfl (hb hby at_372) rfl (XT.ii_ne_f c2) k_) ?_
              show OEndsW p e below s _ _ _ (T26.setTop (mkF m 375 #[vI u0, vI u1, vI u2, vI u3, vI nn, vR b1, vR b6, vR b11, vI tt, .val tv, vR cl, vR ul, vI (R.length).toInt32, vI (K.length).toInt32, vI (nb V), vR b16, vI (((0 : Int32) + (0 : Int32)) + (nb .null)), vI (((R.length).toInt32 + (K.length).toInt32) + (nb V)), vI (((R.length).toInt32 + (K.length).toInt32) + (nb V)), vI ci, uN, uN, uN, uN, uN] []))
              refine OEndsW.pre (fun t_ k_ => XS.aload HG.here hx rfl (hb hby at_375) rfl rfl k_) ?_
              show OEndsW p e below s _ _ _ (T26.setTop (mkF m 377 #[vI u0, vI u1, vI u2, vI u3, vI nn, vR b1, vR b6, vR b11, vI tt, .val tv, vR cl, vR ul, vI (R.length).toInt32, vI (K.length).toInt32, vI (nb V), vR b16, vI (((0 : Int32) + (0 : Int32)) + (nb .null)), vI (((R.length).toInt32 + (K.length).toInt32) + (nb V)), vI (((R.length).toInt32 + (K.length).toInt32) + (nb V)), vI ci, uN, uN, uN, uN, uN] [(.ref b6)]))
              refine OEndsW.pre (fun t_ k_ => XS.goto HG.here hx rfl (pc0 := 377) (pc' := 382) rfl (hb hby at_377) (by decide) (by decide) k_) ?_
              show OEndsW p e below s _ _ _ (T26.setTop (mkF m 382 #[vI u0, vI u1, vI u2, vI u3, vI nn, vR b1, vR b6, vR b11, vI tt, .val tv, vR cl, vR ul, vI (R.length).toInt32, vI (K.length).toInt32, vI (nb V), vR b16, vI (((0 : Int32) + (0 : Int32)) + (nb .null)), vI (((R.length).toInt32 + (K.length).toInt32) + (nb V)), vI (((R.length).toInt32 + (K.length).toInt32) + (nb V)), vI ci, uN, uN, uN, uN, uN] [(.ref b6)]))
              exact tail382 b6 (Or.inr (Or.inl ⟨c2, rfl⟩))
            · refine OEndsW.pre (fun t_ k_ => XS.icmpYes HG.here hx rfl (pc0 := 372) (pc' := 380) rfl (hb hby at_372) rfl (XT.ii_ne_t c2) (by decide) (by decide) k_) ?_
              show OEndsW p e below s _ _ _ (T26.setTop (mkF m 380 #[vI u0, vI u1, vI u2, vI u3, vI nn, vR b1, vR b6, vR b11, vI tt, .val tv, vR cl, vR ul, vI (R.length).toInt32, vI (K.length).toInt32, vI (nb V), vR b16, vI (((0 : Int32) + (0 : Int32)) + (nb .null)), vI (((R.length).toInt32 + (K.length).toInt32) + (nb V)), vI (((R.length).toInt32 + (K.length).toInt32) + (nb V)), vI ci, uN, uN, uN, uN, uN] []))
              refine OEndsW.pre (fun t_ k_ => XS.aload HG.here hx rfl (hb hby at_380) rfl rfl k_) ?_
              show OEndsW p e below s _ _ _ (T26.setTop (mkF m 382 #[vI u0, vI u1, vI u2, vI u3, vI nn, vR b1, vR b6, vR b11, vI tt, .val tv, vR cl, vR ul, vI (R.length).toInt32, vI (K.length).toInt32, vI (nb V), vR b16, vI (((0 : Int32) + (0 : Int32)) + (nb .null)), vI (((R.length).toInt32 + (K.length).toInt32) + (nb V)), vI (((R.length).toInt32 + (K.length).toInt32) + (nb V)), vI ci, uN, uN, uN, uN, uN] [(.ref b11)]))
              exact tail382 b11 (Or.inr (Or.inr ⟨(hci.resolve_left c1).resolve_left c2, rfl⟩))
        have tail273 : ∀ rd ct tkn : Int32, Cn tv us (xs.take 2) rd ct tkn → OEndsW p e below s room_1.cells room_1.slots (fun v' h' L => Fr n0 L ∧ v' = some (.int 1)) (T.setTop (mkF m 273 #[vI u0, vI u1, vI u2, vI u3, vI nn, vR b1, vR b6, vR b11, vI tt, .val tv, vR cl, vR ul, vI rd, vI ct, vI tkn, uN, uN, uN, uN, uN, uN, uN, uN, uN, uN] [])) := by
          intro rd ct tkn hcn
          refine OEndsW.pre (fun t_ k_ => XS.iload H.here hx rfl (hb hby at_273) rfl k_) ?_
          show OEndsW p e below s _ _ _ (T.setTop (mkF m 275 #[vI u0, vI u1, vI u2, vI u3, vI nn, vR b1, vR b6, vR b11, vI tt, .val tv, vR cl, vR ul, vI rd, vI ct, vI tkn, uN, uN, uN, uN, uN, uN, uN, uN, uN, uN] [(.int nn)]))
          refine OEndsW.pre (fun t_ k_ => XT.iconstV H.here hx rfl (2 : Int32) (hb hby at_275) rfl k_) ?_
          show OEndsW p e below s _ _ _ (T.setTop (mkF m 276 #[vI u0, vI u1, vI u2, vI u3, vI nn, vR b1, vR b6, vR b11, vI tt, .val tv, vR cl, vR ul, vI rd, vI ct, vI tkn, uN, uN, uN, uN, uN, uN, uN, uN, uN, uN] [(.int (2 : Int32)), (.int nn)]))
          by_cases c1 : (2 : Int32) < nn
          · refine OEndsW.pre (fun t_ k_ => XS.icmpNo H.here hx rfl (hb hby at_276) rfl (XT.ii_le_f c1) k_) ?_
            show OEndsW p e below s _ _ _ (T.setTop (mkF m 279 #[vI u0, vI u1, vI u2, vI u3, vI nn, vR b1, vR b6, vR b11, vI tt, .val tv, vR cl, vR ul, vI rd, vI ct, vI tkn, uN, uN, uN, uN, uN, uN, uN, uN, uN, uN] []))
            refine OEndsW.pre (fun t_ k_ => XS.iload H.here hx rfl (hb hby at_279) rfl k_) ?_
            show OEndsW p e below s _ _ _ (T.setTop (mkF m 281 #[vI u0, vI u1, vI u2, vI u3, vI nn, vR b1, vR b6, vR b11, vI tt, .val tv, vR cl, vR ul, vI rd, vI ct, vI tkn, uN, uN, uN, uN, uN, uN, uN, uN, uN, uN] [(.int tt)]))
            refine OEndsW.pre (fun t_ k_ => XT.iconstV H.here hx rfl (2 : Int32) (hb hby at_281) rfl k_) ?_
            show OEndsW p e below s _ _ _ (T.setTop (mkF m 282 #[vI u0, vI u1, vI u2, vI u3, vI nn, vR b1, vR b6, vR b11, vI tt, .val tv, vR cl, vR ul, vI rd, vI ct, vI tkn, uN, uN, uN, uN, uN, uN, uN, uN, uN, uN] [(.int (2 : Int32)), (.int tt)]))
            by_cases c2 : tt = (2 : Int32)
            · refine OEndsW.pre (fun t_ k_ => XS.icmpNo H.here hx rfl (hb hby at_282) rfl (XT.ii_ne_f c2) k_) ?_
              show OEndsW p e below s _ _ _ (T.setTop (mkF m 285 #[vI u0, vI u1, vI u2, vI u3, vI nn, vR b1, vR b6, vR b11, vI tt, .val tv, vR cl, vR ul, vI rd, vI ct, vI tkn, uN, uN, uN, uN, uN, uN, uN, uN, uN, uN] []))
              refine OEndsW.pre (fun t_ k_ => XT.iconstV H.here hx rfl (1 : Int32) (hb hby at_285) rfl k_) ?_
              show OEndsW p e below s _ _ _ (T.setTop (mkF m 286 #[vI u0, vI u1, vI u2, vI u3, vI nn, vR b1, vR b6, vR b11, vI tt, .val tv, vR cl, vR ul, vI rd, vI ct, vI tkn, uN, uN, uN, uN, uN, uN, uN, uN, uN, uN] [(.int (1 : Int32))]))
              refine OEndsW.pre (fun t_ k_ => XS.istore H.here hx rfl (hb hby at_286) rfl (l' := #[vI u0, vI u1, vI u2, vI u3, vI nn, vR b1, vR b6, vR b11, vI tt, .val tv, vR cl, vR ul, vI rd, vI ct, vI (1 : Int32), uN, uN, uN, uN, uN, uN, uN, uN, uN, uN]) rfl k_) ?_
              show OEndsW p e below s _ _ _ (T.setTop (mkF m 288 #[vI u0, vI u1, vI u2, vI u3, vI nn, vR b1, vR b6, vR b11, vI tt, .val tv, vR cl, vR ul, vI rd, vI ct, vI (1 : Int32), uN, uN, uN, uN, uN, uN, uN, uN, uN, uN] []))
              refine OEndsW.pre (fun t_ k_ => XS.goto H.here hx rfl (pc0 := 288) (pc' := 306) rfl (hb hby at_288) (by decide) (by decide) k_) ?_
              show OEndsW p e below s _ _ _ (T.setTop (mkF m 306 #[vI u0, vI u1, vI u2, vI u3, vI nn, vR b1, vR b6, vR b11, vI tt, .val tv, vR cl, vR ul, vI rd, vI ct, vI (1 : Int32), uN, uN, uN, uN, uN, uN, uN, uN, uN, uN] []))
              exact tail306 rd ct (1 : Int32) (by rw [hxs.a3 c1]; exact cn_t hcn (tk2.mp c2.symm))
            · refine OEndsW.pre (fun t_ k_ => XS.icmpYes H.here hx rfl (pc0 := 282) (pc' := 291) rfl (hb hby at_282) rfl (XT.ii_ne_t c2) (by decide) (by decide) k_) ?_
              show OEndsW p e below s _ _ _ (T.setTop (mkF m 291 #[vI u0, vI u1, vI u2, vI u3, vI nn, vR b1, vR b6, vR b11, vI tt, .val tv, vR cl, vR ul, vI rd, vI ct, vI tkn, uN, uN, uN, uN, uN, uN, uN, uN, uN, uN] []))
              refine OEndsW.pre (fun t_ k_ => XS.iloadN H.here hx rfl (hb hby at_291) rfl k_) ?_
              show OEndsW p e below s _ _ _ (T.setTop (mkF m 292 #[vI u0, vI u1, vI u2, vI u3, vI nn, vR b1, vR b6, vR b11, vI tt, .val tv, vR cl, vR ul, vI rd, vI ct, vI tkn, uN, uN, uN, uN, uN, uN, uN, uN, uN, uN] [(.int u1)]))
              refine OEndsW.pre (fun t_ k_ => XT.iconstV H.here hx rfl (4 : Int32) (hb hby at_292) rfl k_) ?_
              show OEndsW p e below s _ _ _ (T.setTop (mkF m 293 #[vI u0, vI u1, vI u2, vI u3, vI nn, vR b1, vR b6, vR b11, vI tt, .val tv, vR cl, vR ul, vI rd, vI ct, vI tkn, uN, uN, uN, uN, uN, uN, uN, uN, uN, uN] [(.int (4 : Int32)), (.int u1)]))
              refine OEndsW.pre (fun t_ k_ => XS.iand H.here hx rfl (hb hby at_293) rfl k_) ?_
              show OEndsW p e below s _ _ _ (T.setTop (mkF m 294 #[vI u0, vI u1, vI u2, vI u3, vI nn, vR b1, vR b6, vR b11, vI tt, .val tv, vR cl, vR ul, vI rd, vI ct, vI tkn, uN, uN, uN, uN, uN, uN, uN, uN, uN, uN] [(.int (u1 &&& (4 : Int32)))]))
              by_cases c3 : (u1 &&& (4 : Int32)) = (0 : Int32)
              · refine OEndsW.pre (fun t_ k_ => XS.ifYes H.here hx rfl (pc0 := 294) (pc' := 303) rfl (hb hby at_294) rfl (XT.i0_eq_t c3) (by decide) (by decide) k_) ?_
                show OEndsW p e below s _ _ _ (T.setTop (mkF m 303 #[vI u0, vI u1, vI u2, vI u3, vI nn, vR b1, vR b6, vR b11, vI tt, .val tv, vR cl, vR ul, vI rd, vI ct, vI tkn, uN, uN, uN, uN, uN, uN, uN, uN, uN, uN] []))
                refine OEndsW.pre (fun t_ k_ => XT.iincV H.here hx rfl (l' := #[vI u0, vI u1, vI u2, vI u3, vI nn, vR b1, vR b6, vR b11, vI tt, .val tv, vR cl, vR ul, vI (rd + (1 : Int32)), vI ct, vI tkn, uN, uN, uN, uN, uN, uN, uN, uN, uN, uN]) (1 : Int32) (hb hby at_303) rfl rfl rfl k_) ?_
                show OEndsW p e below s _ _ _ (T.setTop (mkF m 306 #[vI u0, vI u1, vI u2, vI u3, vI nn, vR b1, vR b6, vR b11, vI tt, .val tv, vR cl, vR ul, vI (rd + (1 : Int32)), vI ct, vI tkn, uN, uN, uN, uN, uN, uN, uN, uN, uN, uN] []))
                exact tail306 (rd + (1 : Int32)) ct tkn (by rw [hxs.a3 c1]; exact cn_r hcn (fun q => c2 (tk2.mpr q).symm) (fun q => (hus.2.2.mp q) c3))
              · refine OEndsW.pre (fun t_ k_ => XS.ifNo H.here hx rfl (hb hby at_294) rfl (XT.i0_eq_f c3) k_) ?_
                show OEndsW p e below s _ _ _ (T.setTop (mkF m 297 #[vI u0, vI u1, vI u2, vI u3, vI nn, vR b1, vR b6, vR b11, vI tt, .val tv, vR cl, vR ul, vI rd, vI ct, vI tkn, uN, uN, uN, uN, uN, uN, uN, uN, uN, uN] []))
                refine OEndsW.pre (fun t_ k_ => XT.iincV H.here hx rfl (l' := #[vI u0, vI u1, vI u2, vI u3, vI nn, vR b1, vR b6, vR b11, vI tt, .val tv, vR cl, vR ul, vI rd, vI (ct + (1 : Int32)), vI tkn, uN, uN, uN, uN, uN, uN, uN, uN, uN, uN]) (1 : Int32) (hb hby at_297) rfl rfl rfl k_) ?_
                show OEndsW p e below s _ _ _ (T.setTop (mkF m 300 #[vI u0, vI u1, vI u2, vI u3, vI nn, vR b1, vR b6, vR b11, vI tt, .val tv, vR cl, vR ul, vI rd, vI (ct + (1 : Int32)), vI tkn, uN, uN, uN, uN, uN, uN, uN, uN, uN, uN] []))
                refine OEndsW.pre (fun t_ k_ => XS.goto H.here hx rfl (pc0 := 300) (pc' := 306) rfl (hb hby at_300) (by decide) (by decide) k_) ?_
                show OEndsW p e below s _ _ _ (T.setTop (mkF m 306 #[vI u0, vI u1, vI u2, vI u3, vI nn, vR b1, vR b6, vR b11, vI tt, .val tv, vR cl, vR ul, vI rd, vI (ct + (1 : Int32)), vI tkn, uN, uN, uN, uN, uN, uN, uN, uN, uN, uN] []))
                exact tail306 rd (ct + (1 : Int32)) tkn (by rw [hxs.a3 c1]; exact cn_c hcn (fun q => c2 (tk2.mpr q).symm) (hus.2.2.mpr c3))
          · refine OEndsW.pre (fun t_ k_ => XS.icmpYes H.here hx rfl (pc0 := 276) (pc' := 306) rfl (hb hby at_276) rfl (XT.ii_le_t c1) (by decide) (by decide) k_) ?_
            show OEndsW p e below s _ _ _ (T.setTop (mkF m 306 #[vI u0, vI u1, vI u2, vI u3, vI nn, vR b1, vR b6, vR b11, vI tt, .val tv, vR cl, vR ul, vI rd, vI ct, vI tkn, uN, uN, uN, uN, uN, uN, uN, uN, uN, uN] []))
            exact tail306 rd ct tkn (by rw [hxs.b3 c1]; exact hcn)
        have tail240 : ∀ rd ct tkn : Int32, Cn tv us (xs.take 1) rd ct tkn → OEndsW p e below s room_1.cells room_1.slots (fun v' h' L => Fr n0 L ∧ v' = some (.int 1)) (T.setTop (mkF m 240 #[vI u0, vI u1, vI u2, vI u3, vI nn, vR b1, vR b6, vR b11, vI tt, .val tv, vR cl, vR ul, vI rd, vI ct, vI tkn, uN, uN, uN, uN, uN, uN, uN, uN, uN, uN] [])) := by
          intro rd ct tkn hcn
          refine OEndsW.pre (fun t_ k_ => XS.iload H.here hx rfl (hb hby at_240) rfl k_) ?_
          show OEndsW p e below s _ _ _ (T.setTop (mkF m 242 #[vI u0, vI u1, vI u2, vI u3, vI nn, vR b1, vR b6, vR b11, vI tt, .val tv, vR cl, vR ul, vI rd, vI ct, vI tkn, uN, uN, uN, uN, uN, uN, uN, uN, uN, uN] [(.int nn)]))
          refine OEndsW.pre (fun t_ k_ => XT.iconstV H.here hx rfl (1 : Int32) (hb hby at_242) rfl k_) ?_
          show OEndsW p e below s _ _ _ (T.setTop (mkF m 243 #[vI u0, vI u1, vI u2, vI u3, vI nn, vR b1, vR b6, vR b11, vI tt, .val tv, vR cl, vR ul, vI rd, vI ct, vI tkn, uN, uN, uN, uN, uN, uN, uN, uN, uN, uN] [(.int (1 : Int32)), (.int nn)]))
          by_cases c1 : (1 : Int32) < nn
          · refine OEndsW.pre (fun t_ k_ => XS.icmpNo H.here hx rfl (hb hby at_243) rfl (XT.ii_le_f c1) k_) ?_
            show OEndsW p e below s _ _ _ (T.setTop (mkF m 246 #[vI u0, vI u1, vI u2, vI u3, vI nn, vR b1, vR b6, vR b11, vI tt, .val tv, vR cl, vR ul, vI rd, vI ct, vI tkn, uN, uN, uN, uN, uN, uN, uN, uN, uN, uN] []))
            refine OEndsW.pre (fun t_ k_ => XS.iload H.here hx rfl (hb hby at_246) rfl k_) ?_
            show OEndsW p e below s _ _ _ (T.setTop (mkF m 248 #[vI u0, vI u1, vI u2, vI u3, vI nn, vR b1, vR b6, vR b11, vI tt, .val tv, vR cl, vR ul, vI rd, vI ct, vI tkn, uN, uN, uN, uN, uN, uN, uN, uN, uN, uN] [(.int tt)]))
            refine OEndsW.pre (fun t_ k_ => XT.iconstV H.here hx rfl (1 : Int32) (hb hby at_248) rfl k_) ?_
            show OEndsW p e below s _ _ _ (T.setTop (mkF m 249 #[vI u0, vI u1, vI u2, vI u3, vI nn, vR b1, vR b6, vR b11, vI tt, .val tv, vR cl, vR ul, vI rd, vI ct, vI tkn, uN, uN, uN, uN, uN, uN, uN, uN, uN, uN] [(.int (1 : Int32)), (.int tt)]))
            by_cases c2 : tt = (1 : Int32)
            · refine OEndsW.pre (fun t_ k_ => XS.icmpNo H.here hx rfl (hb hby at_249) rfl (XT.ii_ne_f c2) k_) ?_
              show OEndsW p e below s _ _ _ (T.setTop (mkF m 252 #[vI u0, vI u1, vI u2, vI u3, vI nn, vR b1, vR b6, vR b11, vI tt, .val tv, vR cl, vR ul, vI rd, vI ct, vI tkn, uN, uN, uN, uN, uN, uN, uN, uN, uN, uN] []))
              refine OEndsW.pre (fun t_ k_ => XT.iconstV H.here hx rfl (1 : Int32) (hb hby at_252) rfl k_) ?_
              show OEndsW p e below s _ _ _ (T.setTop (mkF m 253 #[vI u0, vI u1, vI u2, vI u3, vI nn, vR b1, vR b6, vR b11, vI tt, .val tv, vR cl, vR ul, vI rd, vI ct, vI tkn, uN, uN, uN, uN, uN, uN, uN, uN, uN, uN] [(.int (1 : Int32))]))
              refine OEndsW.pre (fun t_ k_ => XS.istore H.here hx rfl (hb hby at_253) rfl (l' := #[vI u0, vI u1, vI u2, vI u3, vI nn, vR b1, vR b6, vR b11, vI tt, .val tv, vR cl, vR ul, vI rd, vI ct, vI (1 : Int32), uN, uN, uN, uN, uN, uN, uN, uN, uN, uN]) rfl k_) ?_
              show OEndsW p e below s _ _ _ (T.setTop (mkF m 255 #[vI u0, vI u1, vI u2, vI u3, vI nn, vR b1, vR b6, vR b11, vI tt, .val tv, vR cl, vR ul, vI rd, vI ct, vI (1 : Int32), uN, uN, uN, uN, uN, uN, uN, uN, uN, uN] []))
              refine OEndsW.pre (fun t_ k_ => XS.goto H.here hx rfl (pc0 := 255) (pc' := 273) rfl (hb hby at_255) (by decide) (by decide) k_) ?_
              show OEndsW p e below s _ _ _ (T.setTop (mkF m 273 #[vI u0, vI u1, vI u2, vI u3, vI nn, vR b1, vR b6, vR b11, vI tt, .val tv, vR cl, vR ul, vI rd, vI ct, vI (1 : Int32), uN, uN, uN, uN, uN, uN, uN, uN, uN, uN] []))
              exact tail273 rd ct (1 : Int32) (by rw [hxs.a2 c1]; exact cn_t hcn (tk1.mp c2.symm))
            · refine OEndsW.pre (fun t_ k_ => XS.icmpYes H.here hx rfl (pc0 := 249) (pc' := 258) rfl (hb hby at_249) rfl (XT.ii_ne_t c2) (by decide) (by decide) k_) ?_
              show OEndsW p e below s _ _ _ (T.setTop (mkF m 258 #[vI u0, vI u1, vI u2, vI u3, vI nn, vR b1, vR b6, vR b11, vI tt, .val tv, vR cl, vR ul, vI rd, vI ct, vI tkn, uN, uN, uN, uN, uN, uN, uN, uN, uN, uN] []))
              refine OEndsW.pre (fun t_ k_ => XS.iloadN H.here hx rfl (hb hby at_258) rfl k_) ?_
              show OEndsW p e below s _ _ _ (T.setTop (mkF m 259 #[vI u0, vI u1, vI u2, vI u3, vI nn, vR b1, vR b6, vR b11, vI tt, .val tv, vR cl, vR ul, vI rd, vI ct, vI tkn, uN, uN, uN, uN, uN, uN, uN, uN, uN, uN] [(.int u1)]))
              refine OEndsW.pre (fun t_ k_ => XT.iconstV H.here hx rfl (2 : Int32) (hb hby at_259) rfl k_) ?_
              show OEndsW p e below s _ _ _ (T.setTop (mkF m 260 #[vI u0, vI u1, vI u2, vI u3, vI nn, vR b1, vR b6, vR b11, vI tt, .val tv, vR cl, vR ul, vI rd, vI ct, vI tkn, uN, uN, uN, uN, uN, uN, uN, uN, uN, uN] [(.int (2 : Int32)), (.int u1)]))
              refine OEndsW.pre (fun t_ k_ => XS.iand H.here hx rfl (hb hby at_260) rfl k_) ?_
              show OEndsW p e below s _ _ _ (T.setTop (mkF m 261 #[vI u0, vI u1, vI u2, vI u3, vI nn, vR b1, vR b6, vR b11, vI tt, .val tv, vR cl, vR ul, vI rd, vI ct, vI tkn, uN, uN, uN, uN, uN, uN, uN, uN, uN, uN] [(.int (u1 &&& (2 : Int32)))]))
              by_cases c3 : (u1 &&& (2 : Int32)) = (0 : Int32)
              · refine OEndsW.pre (fun t_ k_ => XS.ifYes H.here hx rfl (pc0 := 261) (pc' := 270) rfl (hb hby at_261) rfl (XT.i0_eq_t c3) (by decide) (by decide) k_) ?_
                show OEndsW p e below s _ _ _ (T.setTop (mkF m 270 #[vI u0, vI u1, vI u2, vI u3, vI nn, vR b1, vR b6, vR b11, vI tt, .val tv, vR cl, vR ul, vI rd, vI ct, vI tkn, uN, uN, uN, uN, uN, uN, uN, uN, uN, uN] []))
                refine OEndsW.pre (fun t_ k_ => XT.iincV H.here hx rfl (l' := #[vI u0, vI u1, vI u2, vI u3, vI nn, vR b1, vR b6, vR b11, vI tt, .val tv, vR cl, vR ul, vI (rd + (1 : Int32)), vI ct, vI tkn, uN, uN, uN, uN, uN, uN, uN, uN, uN, uN]) (1 : Int32) (hb hby at_270) rfl rfl rfl k_) ?_
                show OEndsW p e below s _ _ _ (T.setTop (mkF m 273 #[vI u0, vI u1, vI u2, vI u3, vI nn, vR b1, vR b6, vR b11, vI tt, .val tv, vR cl, vR ul, vI (rd + (1 : Int32)), vI ct, vI tkn, uN, uN, uN, uN, uN, uN, uN, uN, uN, uN] []))
                exact tail273 (rd + (1 : Int32)) ct tkn (by rw [hxs.a2 c1]; exact cn_r hcn (fun q => c2 (tk1.mpr q).symm) (fun q => (hus.2.1.mp q) c3))
              · refine OEndsW.pre (fun t_ k_ => XS.ifNo H.here hx rfl (hb hby at_261) rfl (XT.i0_eq_f c3) k_) ?_
                show OEndsW p e below s _ _ _ (T.setTop (mkF m 264 #[vI u0, vI u1, vI u2, vI u3, vI nn, vR b1, vR b6, vR b11, vI tt, .val tv, vR cl, vR ul, vI rd, vI ct, vI tkn, uN, uN, uN, uN, uN, uN, uN, uN, uN, uN] []))
                refine OEndsW.pre (fun t_ k_ => XT.iincV H.here hx rfl (l' := #[vI u0, vI u1, vI u2, vI u3, vI nn, vR b1, vR b6, vR b11, vI tt, .val tv, vR cl, vR ul, vI rd, vI (ct + (1 : Int32)), vI tkn, uN, uN, uN, uN, uN, uN, uN, uN, uN, uN]) (1 : Int32) (hb hby at_264) rfl rfl rfl k_) ?_
                show OEndsW p e below s _ _ _ (T.setTop (mkF m 267 #[vI u0, vI u1, vI u2, vI u3, vI nn, vR b1, vR b6, vR b11, vI tt, .val tv, vR cl, vR ul, vI rd, vI (ct + (1 : Int32)), vI tkn, uN, uN, uN, uN, uN, uN, uN, uN, uN, uN] []))
                refine OEndsW.pre (fun t_ k_ => XS.goto H.here hx rfl (pc0 := 267) (pc' := 273) rfl (hb hby at_267) (by decide) (by decide) k_) ?_
                show OEndsW p e below s _ _ _ (T.setTop (mkF m 273 #[vI u0, vI u1, vI u2, vI u3, vI nn, vR b1, vR b6, vR b11, vI tt, .val tv, vR cl, vR ul, vI rd, vI (ct + (1 : Int32)), vI tkn, uN, uN, uN, uN, uN, uN, uN, uN, uN, uN] []))
                exact tail273 rd (ct + (1 : Int32)) tkn (by rw [hxs.a2 c1]; exact cn_c hcn (fun q => c2 (tk1.mpr q).symm) (hus.2.1.mpr c3))
          · refine OEndsW.pre (fun t_ k_ => XS.icmpYes H.here hx rfl (pc0 := 243) (pc' := 273) rfl (hb hby at_243) rfl (XT.ii_le_t c1) (by decide) (by decide) k_) ?_
            show OEndsW p e below s _ _ _ (T.setTop (mkF m 273 #[vI u0, vI u1, vI u2, vI u3, vI nn, vR b1, vR b6, vR b11, vI tt, .val tv, vR cl, vR ul, vI rd, vI ct, vI tkn, uN, uN, uN, uN, uN, uN, uN, uN, uN, uN] []))
            exact tail273 rd ct tkn (by rw [hxs.b2 c1]; exact hcn)
        refine OEndsW.pre (fun t_ k_ => XT.iconstV H.here hx rfl (0 : Int32) (hb hby at_200) rfl k_) ?_
        show OEndsW p e below s _ _ _ (T.setTop (mkF m 201 #[vI u0, vI u1, vI u2, vI u3, vI nn, vR b1, vR b6, vR b11, vI tt, .val tv, vR cl, vR ul, uN, uN, uN, uN, uN, uN, uN, uN, uN, uN, uN, uN, uN] [(.int (0 : Int32))]))
        refine OEndsW.pre (fun t_ k_ => XS.istore H.here hx rfl (hb hby at_201) rfl (l' := #[vI u0, vI u1, vI u2, vI u3, vI nn, vR b1, vR b6, vR b11, vI tt, .val tv, vR cl, vR ul, vI (0 : Int32), uN, uN, uN, uN, uN, uN, uN, uN, uN, uN, uN, uN]) rfl k_) ?_
        show OEndsW p e below s _ _ _ (T.setTop (mkF m 203 #[vI u0, vI u1, vI u2, vI u3, vI nn, vR b1, vR b6, vR b11, vI tt, .val tv, vR cl, vR ul, vI (0 : Int32), uN, uN, uN, uN, uN, uN, uN, uN, uN, uN, uN, uN] []))
        refine OEndsW.pre (fun t_ k_ => XT.iconstV H.here hx rfl (0 : Int32) (hb hby at_203) rfl k_) ?_
        show OEndsW p e below s _ _ _ (T.setTop (mkF m 204 #[vI u0, vI u1, vI u2, vI u3, vI nn, vR b1, vR b6, vR b11, vI tt, .val tv, vR cl, vR ul, vI (0 : Int32), uN, uN, uN, uN, uN, uN, uN, uN, uN, uN, uN, uN] [(.int (0 : Int32))]))
        refine OEndsW.pre (fun t_ k_ => XS.istore H.here hx rfl (hb hby at_204) rfl (l' := #[vI u0, vI u1, vI u2, vI u3, vI nn, vR b1, vR b6, vR b11, vI tt, .val tv, vR cl, vR ul, vI (0 : Int32), vI (0 : Int32), uN, uN, uN, uN, uN, uN, uN, uN, uN, uN, uN]) rfl k_) ?_
        show OEndsW p e below s _ _ _ (T.setTop (mkF m 206 #[vI u0, vI u1, vI u2, vI u3, vI nn, vR b1, vR b6, vR b11, vI tt, .val tv, vR cl, vR ul, vI (0 : Int32), vI (0 : Int32), uN, uN, uN, uN, uN, uN, uN, uN, uN, uN, uN] []))
        refine OEndsW.pre (fun t_ k_ => XT.iconstV H.here hx rfl (0 : Int32) (hb hby at_206) rfl k_) ?_
        show OEndsW p e below s _ _ _ (T.setTop (mkF m 207 #[vI u0, vI u1, vI u2, vI u3, vI nn, vR b1, vR b6, vR b11, vI tt, .val tv, vR cl, vR ul, vI (0 : Int32), vI (0 : Int32), uN, uN, uN, uN, uN, uN, uN, uN, uN, uN, uN] [(.int (0 : Int32))]))
        refine OEndsW.pre (fun t_ k_ => XS.istore H.here hx rfl (hb hby at_207) rfl (l' := #[vI u0, vI u1, vI u2, vI u3, vI nn, vR b1, vR b6, vR b11, vI tt, .val tv, vR cl, vR ul, vI (0 : Int32), vI (0 : Int32), vI (0 : Int32), uN, uN, uN, uN, uN, uN, uN, uN, uN, uN]) rfl k_) ?_
        show OEndsW p e below s _ _ _ (T.setTop (mkF m 209 #[vI u0, vI u1, vI u2, vI u3, vI nn, vR b1, vR b6, vR b11, vI tt, .val tv, vR cl, vR ul, vI (0 : Int32), vI (0 : Int32), vI (0 : Int32), uN, uN, uN, uN, uN, uN, uN, uN, uN, uN] []))
        refine OEndsW.pre (fun t_ k_ => XS.iload H.here hx rfl (hb hby at_209) rfl k_) ?_
        show OEndsW p e below s _ _ _ (T.setTop (mkF m 211 #[vI u0, vI u1, vI u2, vI u3, vI nn, vR b1, vR b6, vR b11, vI tt, .val tv, vR cl, vR ul, vI (0 : Int32), vI (0 : Int32), vI (0 : Int32), uN, uN, uN, uN, uN, uN, uN, uN, uN, uN] [(.int nn)]))
        by_cases c1 : (0 : Int32) < nn
        · refine OEndsW.pre (fun t_ k_ => XS.ifNo H.here hx rfl (hb hby at_211) rfl (XT.i0_le_f c1) k_) ?_
          show OEndsW p e below s _ _ _ (T.setTop (mkF m 214 #[vI u0, vI u1, vI u2, vI u3, vI nn, vR b1, vR b6, vR b11, vI tt, .val tv, vR cl, vR ul, vI (0 : Int32), vI (0 : Int32), vI (0 : Int32), uN, uN, uN, uN, uN, uN, uN, uN, uN, uN] []))
          refine OEndsW.pre (fun t_ k_ => XS.iload H.here hx rfl (hb hby at_214) rfl k_) ?_
          show OEndsW p e below s _ _ _ (T.setTop (mkF m 216 #[vI u0, vI u1, vI u2, vI u3, vI nn, vR b1, vR b6, vR b11, vI tt, .val tv, vR cl, vR ul, vI (0 : Int32), vI (0 : Int32), vI (0 : Int32), uN, uN, uN, uN, uN, uN, uN, uN, uN, uN] [(.int tt)]))
          by_cases c2 : tt = (0 : Int32)
          · refine OEndsW.pre (fun t_ k_ => XS.ifNo H.here hx rfl (hb hby at_216) rfl (XT.i0_ne_f c2) k_) ?_
            show OEndsW p e below s _ _ _ (T.setTop (mkF m 219 #[vI u0, vI u1, vI u2, vI u3, vI nn, vR b1, vR b6, vR b11, vI tt, .val tv, vR cl, vR ul, vI (0 : Int32), vI (0 : Int32), vI (0 : Int32), uN, uN, uN, uN, uN, uN, uN, uN, uN, uN] []))
            refine OEndsW.pre (fun t_ k_ => XT.iconstV H.here hx rfl (1 : Int32) (hb hby at_219) rfl k_) ?_
            show OEndsW p e below s _ _ _ (T.setTop (mkF m 220 #[vI u0, vI u1, vI u2, vI u3, vI nn, vR b1, vR b6, vR b11, vI tt, .val tv, vR cl, vR ul, vI (0 : Int32), vI (0 : Int32), vI (0 : Int32), uN, uN, uN, uN, uN, uN, uN, uN, uN, uN] [(.int (1 : Int32))]))
            refine OEndsW.pre (fun t_ k_ => XS.istore H.here hx rfl (hb hby at_220) rfl (l' := #[vI u0, vI u1, vI u2, vI u3, vI nn, vR b1, vR b6, vR b11, vI tt, .val tv, vR cl, vR ul, vI (0 : Int32), vI (0 : Int32), vI (1 : Int32), uN, uN, uN, uN, uN, uN, uN, uN, uN, uN]) rfl k_) ?_
            show OEndsW p e below s _ _ _ (T.setTop (mkF m 222 #[vI u0, vI u1, vI u2, vI u3, vI nn, vR b1, vR b6, vR b11, vI tt, .val tv, vR cl, vR ul, vI (0 : Int32), vI (0 : Int32), vI (1 : Int32), uN, uN, uN, uN, uN, uN, uN, uN, uN, uN] []))
            refine OEndsW.pre (fun t_ k_ => XS.goto H.here hx rfl (pc0 := 222) (pc' := 240) rfl (hb hby at_222) (by decide) (by decide) k_) ?_
            show OEndsW p e below s _ _ _ (T.setTop (mkF m 240 #[vI u0, vI u1, vI u2, vI u3, vI nn, vR b1, vR b6, vR b11, vI tt, .val tv, vR cl, vR ul, vI (0 : Int32), vI (0 : Int32), vI (1 : Int32), uN, uN, uN, uN, uN, uN, uN, uN, uN, uN] []))
            exact tail240 (0 : Int32) (0 : Int32) (1 : Int32) (by rw [hxs.a1 c1]; exact cn_t cn_nil (tk0.mp c2.symm))
          · refine OEndsW.pre (fun t_ k_ => XS.ifYes H.here hx rfl (pc0 := 216) (pc' := 225) rfl (hb hby at_216) rfl (XT.i0_ne_t c2) (by decide) (by decide) k_) ?_
            show OEndsW p e below s _ _ _ (T.setTop (mkF m 225 #[vI u0, vI u1, vI u2, vI u3, vI nn, vR b1, vR b6, vR b11, vI tt, .val tv, vR cl, vR ul, vI (0 : Int32), vI (0 : Int32), vI (0 : Int32), uN, uN, uN, uN, uN, uN, uN, uN, uN, uN] []))
            refine OEndsW.pre (fun t_ k_ => XS.iloadN H.here hx rfl (hb hby at_225) rfl k_) ?_
            show OEndsW p e below s _ _ _ (T.setTop (mkF m 226 #[vI u0, vI u1, vI u2, vI u3, vI nn, vR b1, vR b6, vR b11, vI tt, .val tv, vR cl, vR ul, vI (0 : Int32), vI (0 : Int32), vI (0 : Int32), uN, uN, uN, uN, uN, uN, uN, uN, uN, uN] [(.int u1)]))
            refine OEndsW.pre (fun t_ k_ => XT.iconstV H.here hx rfl (1 : Int32) (hb hby at_226) rfl k_) ?_
            show OEndsW p e below s _ _ _ (T.setTop (mkF m 227 #[vI u0, vI u1, vI u2, vI u3, vI nn, vR b1, vR b6, vR b11, vI tt, .val tv, vR cl, vR ul, vI (0 : Int32), vI (0 : Int32), vI (0 : Int32), uN, uN, uN, uN, uN, uN, uN, uN, uN, uN] [(.int (1 : Int32)), (.int u1)]))
            refine OEndsW.pre (fun t_ k_ => XS.iand H.here hx rfl (hb hby at_227) rfl k_) ?_
            show OEndsW p e below s _ _ _ (T.setTop (mkF m 228 #[vI u0, vI u1, vI u2, vI u3, vI nn, vR b1, vR b6, vR b11, vI tt, .val tv, vR cl, vR ul, vI (0 : Int32), vI (0 : Int32), vI (0 : Int32), uN, uN, uN, uN, uN, uN, uN, uN, uN, uN] [(.int (u1 &&& (1 : Int32)))]))
            by_cases c3 : (u1 &&& (1 : Int32)) = (0 : Int32)
            · refine OEndsW.pre (fun t_ k_ => XS.ifYes H.here hx rfl (pc0 := 228) (pc' := 237) rfl (hb hby at_228) rfl (XT.i0_eq_t c3) (by decide) (by decide) k_) ?_
              show OEndsW p e below s _ _ _ (T.setTop (mkF m 237 #[vI u0, vI u1, vI u2, vI u3, vI nn, vR b1, vR b6, vR b11, vI tt, .val tv, vR cl, vR ul, vI (0 : Int32), vI (0 : Int32), vI (0 : Int32), uN, uN, uN, uN, uN, uN, uN, uN, uN, uN] []))
              refine OEndsW.pre (fun t_ k_ => XT.iincV H.here hx rfl (l' := #[vI u0, vI u1, vI u2, vI u3, vI nn, vR b1, vR b6, vR b11, vI tt, .val tv, vR cl, vR ul, vI (1 : Int32), vI (0 : Int32), vI (0 : Int32), uN, uN, uN, uN, uN, uN, uN, uN, uN, uN]) (1 : Int32) (hb hby at_237) rfl rfl rfl k_) ?_
              show OEndsW p e below s _ _ _ (T.setTop (mkF m 240 #[vI u0, vI u1, vI u2, vI u3, vI nn, vR b1, vR b6, vR b11, vI tt, .val tv, vR cl, vR ul, vI (1 : Int32), vI (0 : Int32), vI (0 : Int32), uN, uN, uN, uN, uN, uN, uN, uN, uN, uN] []))
              exact tail240 (1 : Int32) (0 : Int32) (0 : Int32) (by rw [hxs.a1 c1]; exact cn_r cn_nil (fun q => c2 (tk0.mpr q).symm) (fun q => (hus.1.mp q) c3))
            · refine OEndsW.pre (fun t_ k_ => XS.ifNo H.here hx rfl (hb hby at_228) rfl (XT.i0_eq_f c3) k_) ?_
              show OEndsW p e below s _ _ _ (T.setTop (mkF m 231 #[vI u0, vI u1, vI u2, vI u3, vI nn, vR b1, vR b6, vR b11, vI tt, .val tv, vR cl, vR ul, vI (0 : Int32), vI (0 : Int32), vI (0 : Int32), uN, uN, uN, uN, uN, uN, uN, uN, uN, uN] []))
              refine OEndsW.pre (fun t_ k_ => XT.iincV H.here hx rfl (l' := #[vI u0, vI u1, vI u2, vI u3, vI nn, vR b1, vR b6, vR b11, vI tt, .val tv, vR cl, vR ul, vI (0 : Int32), vI (1 : Int32), vI (0 : Int32), uN, uN, uN, uN, uN, uN, uN, uN, uN, uN]) (1 : Int32) (hb hby at_231) rfl rfl rfl k_) ?_
              show OEndsW p e below s _ _ _ (T.setTop (mkF m 234 #[vI u0, vI u1, vI u2, vI u3, vI nn, vR b1, vR b6, vR b11, vI tt, .val tv, vR cl, vR ul, vI (0 : Int32), vI (1 : Int32), vI (0 : Int32), uN, uN, uN, uN, uN, uN, uN, uN, uN, uN] []))
              refine OEndsW.pre (fun t_ k_ => XS.goto H.here hx rfl (pc0 := 234) (pc' := 240) rfl (hb hby at_234) (by decide) (by decide) k_) ?_
              show OEndsW p e below s _ _ _ (T.setTop (mkF m 240 #[vI u0, vI u1, vI u2, vI u3, vI nn, vR b1, vR b6, vR b11, vI tt, .val tv, vR cl, vR ul, vI (0 : Int32), vI (1 : Int32), vI (0 : Int32), uN, uN, uN, uN, uN, uN, uN, uN, uN, uN] []))
              exact tail240 (0 : Int32) (1 : Int32) (0 : Int32) (by rw [hxs.a1 c1]; exact cn_c cn_nil (fun q => c2 (tk0.mpr q).symm) (hus.1.mpr c3))
        · refine OEndsW.pre (fun t_ k_ => XS.ifYes H.here hx rfl (pc0 := 211) (pc' := 240) rfl (hb hby at_211) rfl (XT.i0_le_t c1) (by decide) (by decide) k_) ?_
          show OEndsW p e below s _ _ _ (T.setTop (mkF m 240 #[vI u0, vI u1, vI u2, vI u3, vI nn, vR b1, vR b6, vR b11, vI tt, .val tv, vR cl, vR ul, vI (0 : Int32), vI (0 : Int32), vI (0 : Int32), uN, uN, uN, uN, uN, uN, uN, uN, uN, uN] []))
          exact tail240 (0 : Int32) (0 : Int32) (0 : Int32) (by rw [hxs.b1 c1]; exact cn_nil)
      obtain ⟨T34, b33, H34, st34⟩ := OHere.new H hx hZ14 (pc := 149) (Ls := #[vI u0, vI u1, vI u2, vI u3, vI nn, vR b1, vR b6, vR b11, vI tt, .val tv, vR cl, uN, uN, uN, uN, uN, uN, uN, uN, uN, uN, uN, uN, uN, uN]) (rest := []) hown14 (tWd hw 32 rfl) (tWd hw 33 rfl) (tWd hw 34 rfl) [("java/util/AbstractList", "modCount", "I", (.int 0)), ("java/util/ArrayList", "elementData", "[Ljava/lang/Object;", .null), ("java/util/ArrayList", "size", "I", (.int 0))] ⟨⟨Or.inl (tWd hw 52 rfl), .int, by decide, rfl⟩, ⟨Or.inl (tWd hw 55 rfl), (.array (.object "java/lang/Object")), by decide, rfl⟩, ⟨Or.inl (tWd hw 64 rfl), .int, by decide, rfl⟩, trivial⟩ (by first | decide | simp) (hb hby at_149) (by decide) (by decide)
      replace H34 : OHere p l e _ (s.setVm T14.vm) m _ below meth c Z n0 ks14 T34 18 85 ([(eO b33 "java/util/ArrayList" [("java/util/AbstractList", "modCount", "I", (.int 0)), ("java/util/ArrayList", "elementData", "[Ljava/lang/Object;", .null), ("java/util/ArrayList", "size", "I", (.int 0))]), (eO cl "java/util/ArrayList" [("java/util/AbstractList", "modCount", "I", (.int mc)), ("java/util/ArrayList", "elementData", "[Ljava/lang/Object;", (.ref dc)), ("java/util/ArrayList", "size", "I", (.int (xs.length).toInt32))])] ++ F) := H34
      refine OEndsW.pre (fun t_ k_ => st34 _ k_) ?_
      show OEndsW p e below s _ _ _ (T34.setTop (mkF m 152 #[vI u0, vI u1, vI u2, vI u3, vI nn, vR b1, vR b6, vR b11, vI tt, .val tv, vR cl, uN, uN, uN, uN, uN, uN, uN, uN, uN, uN, uN, uN, uN, uN] [(.ref b33)]))
      refine OEndsW.pre (fun t_ k_ => XS.dup H34.here hx rfl (hb hby at_152) rfl rfl k_) ?_
      show OEndsW p e below s _ _ _ (T34.setTop (mkF m 153 #[vI u0, vI u1, vI u2, vI u3, vI nn, vR b1, vR b6, vR b11, vI tt, .val tv, vR cl, uN, uN, uN, uN, uN, uN, uN, uN, uN, uN, uN, uN, uN, uN] [(.ref b33), (.ref b33)]))
      obtain ⟨T35, _, _, ⟨rfl, rfl⟩, H35, st35⟩ := OHere.special H34 hx hZ14 (y := (⟨"java/util/ArrayList", "<init>", "()V"⟩ : MethodName)) rfl (W := 1) (a := b33) hown14 (tWd hw 35 rfl) (tWd hw 36 rfl) (tWd hw 34 rfl) (tWd hw 37 rfl) (by decide) (conALi l Z a0 hw n0 [] b33 ([(eO cl "java/util/ArrayList" [("java/util/AbstractList", "modCount", "I", (.int mc)), ("java/util/ArrayList", "elementData", "[Ljava/lang/Object;", (.ref dc)), ("java/util/ArrayList", "size", "I", (.int (xs.length).toInt32))])] ++ F) dd hSt hDd) (by decide) (by decide) (pc := 153) (Ls := #[vI u0, vI u1, vI u2, vI u3, vI nn, vR b1, vR b6, vR b11, vI tt, .val tv, vR cl, uN, uN, uN, uN, uN, uN, uN, uN, uN, uN, uN, uN, uN, uN]) (argsL := []) (rest := [(.ref b33)]) (by rw [hml]; rfl) (lenOf pd_ocV rfl) rfl (Nat.le_of_eq rfl) (hb hby at_153) (by decide) (by decide)
      replace H35 : OHere p l e _ (s.setVm T14.vm) m _ below meth c Z n0 ks14 T35 18 85 ([(eO b33 "java/util/ArrayList" [("java/util/AbstractList", "modCount", "I", (.int (0 : Int32))), ("java/util/ArrayList", "elementData", "[Ljava/lang/Object;", (.ref dd)), ("java/util/ArrayList", "size", "I", (.int (0 : Int32)))]), (eO cl "java/util/ArrayList" [("java/util/AbstractList", "modCount", "I", (.int mc)), ("java/util/ArrayList", "elementData", "[Ljava/lang/Object;", (.ref dc)), ("java/util/ArrayList", "size", "I", (.int (xs.length).toInt32))])] ++ F) := H35
      refine OEndsW.pre (fun t_ k_ => st35 _ k_) ?_
      show OEndsW p e below s _ _ _ (T35.setTop (mkF m 156 #[vI u0, vI u1, vI u2, vI u3, vI nn, vR b1, vR b6, vR b11, vI tt, .val tv, vR cl, uN, uN, uN, uN, uN, uN, uN, uN, uN, uN, uN, uN, uN, uN] [(.ref b33)]))
      refine OEndsW.pre (fun t_ k_ => XS.astore H35.here hx rfl (hb hby at_156) rfl rfl (l' := #[vI u0, vI u1, vI u2, vI u3, vI nn, vR b1, vR b6, vR b11, vI tt, .val tv, vR cl, vR b33, uN, uN, uN, uN, uN, uN, uN, uN, uN, uN, uN, uN, uN]) rfl k_) ?_
      show OEndsW p e below s _ _ _ (T35.setTop (mkF m 158 #[vI u0, vI u1, vI u2, vI u3, vI nn, vR b1, vR b6, vR b11, vI tt, .val tv, vR cl, vR b33, uN, uN, uN, uN, uN, uN, uN, uN, uN, uN, uN, uN, uN] []))
      refine OEndsW.pre (fun t_ k_ => XS.iloadN H35.here hx rfl (hb hby at_158) rfl k_) ?_
      show OEndsW p e below s _ _ _ (T35.setTop (mkF m 159 #[vI u0, vI u1, vI u2, vI u3, vI nn, vR b1, vR b6, vR b11, vI tt, .val tv, vR cl, vR b33, uN, uN, uN, uN, uN, uN, uN, uN, uN, uN, uN, uN, uN] [(.int u1)]))
      refine OEndsW.pre (fun t_ k_ => XT.iconstV H35.here hx rfl (1 : Int32) (hb hby at_159) rfl k_) ?_
      show OEndsW p e below s _ _ _ (T35.setTop (mkF m 160 #[vI u0, vI u1, vI u2, vI u3, vI nn, vR b1, vR b6, vR b11, vI tt, .val tv, vR cl, vR b33, uN, uN, uN, uN, uN, uN, uN, uN, uN, uN, uN, uN, uN] [(.int (1 : Int32)), (.int u1)]))
      refine OEndsW.pre (fun t_ k_ => XS.iand H35.here hx rfl (hb hby at_160) rfl k_) ?_
      show OEndsW p e below s _ _ _ (T35.setTop (mkF m 161 #[vI u0, vI u1, vI u2, vI u3, vI nn, vR b1, vR b6, vR b11, vI tt, .val tv, vR cl, vR b33, uN, uN, uN, uN, uN, uN, uN, uN, uN, uN, uN, uN, uN] [(.int (u1 &&& (1 : Int32)))]))
      by_cases c1 : (u1 &&& (1 : Int32)) = (0 : Int32)
      · refine OEndsW.pre (fun t_ k_ => XS.ifYes H35.here hx rfl (pc0 := 161) (pc' := 172) rfl (hb hby at_161) rfl (XT.i0_eq_t c1) (by decide) (by decide) k_) ?_
        show OEndsW p e below s _ _ _ (T35.setTop (mkF m 172 #[vI u0, vI u1, vI u2, vI u3, vI nn, vR b1, vR b6, vR b11, vI tt, .val tv, vR cl, vR b33, uN, uN, uN, uN, uN, uN, uN, uN, uN, uN, uN, uN, uN] []))
        refine OEndsW.pre (fun t_ k_ => XS.iloadN H35.here hx rfl (hb hby at_172) rfl k_) ?_
        show OEndsW p e below s _ _ _ (T35.setTop (mkF m 173 #[vI u0, vI u1, vI u2, vI u3, vI nn, vR b1, vR b6, vR b11, vI tt, .val tv, vR cl, vR b33, uN, uN, uN, uN, uN, uN, uN, uN, uN, uN, uN, uN, uN] [(.int u1)]))
        refine OEndsW.pre (fun t_ k_ => XT.iconstV H35.here hx rfl (2 : Int32) (hb hby at_173) rfl k_) ?_
        show OEndsW p e below s _ _ _ (T35.setTop (mkF m 174 #[vI u0, vI u1, vI u2, vI u3, vI nn, vR b1, vR b6, vR b11, vI tt, .val tv, vR cl, vR b33, uN, uN, uN, uN, uN, uN, uN, uN, uN, uN, uN, uN, uN] [(.int (2 : Int32)), (.int u1)]))
        refine OEndsW.pre (fun t_ k_ => XS.iand H35.here hx rfl (hb hby at_174) rfl k_) ?_
        show OEndsW p e below s _ _ _ (T35.setTop (mkF m 175 #[vI u0, vI u1, vI u2, vI u3, vI nn, vR b1, vR b6, vR b11, vI tt, .val tv, vR cl, vR b33, uN, uN, uN, uN, uN, uN, uN, uN, uN, uN, uN, uN, uN] [(.int (u1 &&& (2 : Int32)))]))
        by_cases c2 : (u1 &&& (2 : Int32)) = (0 : Int32)
        · refine OEndsW.pre (fun t_ k_ => XS.ifYes H35.here hx rfl (pc0 := 175) (pc' := 186) rfl (hb hby at_175) rfl (XT.i0_eq_t c2) (by decide) (by decide) k_) ?_
          show OEndsW p e below s _ _ _ (T35.setTop (mkF m 186 #[vI u0, vI u1, vI u2, vI u3, vI nn, vR b1, vR b6, vR b11, vI tt, .val tv, vR cl, vR b33, uN, uN, uN, uN, uN, uN, uN, uN, uN, uN, uN, uN, uN] []))
          refine OEndsW.pre (fun t_ k_ => XS.iloadN H35.here hx rfl (hb hby at_186) rfl k_) ?_
          show OEndsW p e below s _ _ _ (T35.setTop (mkF m 187 #[vI u0, vI u1, vI u2, vI u3, vI nn, vR b1, vR b6, vR b11, vI tt, .val tv, vR cl, vR b33, uN, uN, uN, uN, uN, uN, uN, uN, uN, uN, uN, uN, uN] [(.int u1)]))
          refine OEndsW.pre (fun t_ k_ => XT.iconstV H35.here hx rfl (4 : Int32) (hb hby at_187) rfl k_) ?_
          show OEndsW p e below s _ _ _ (T35.setTop (mkF m 188 #[vI u0, vI u1, vI u2, vI u3, vI nn, vR b1, vR b6, vR b11, vI tt, .val tv, vR cl, vR b33, uN, uN, uN, uN, uN, uN, uN, uN, uN, uN, uN, uN, uN] [(.int (4 : Int32)), (.int u1)]))
          refine OEndsW.pre (fun t_ k_ => XS.iand H35.here hx rfl (hb hby at_188) rfl k_) ?_
          show OEndsW p e below s _ _ _ (T35.setTop (mkF m 189 #[vI u0, vI u1, vI u2, vI u3, vI nn, vR b1, vR b6, vR b11, vI tt, .val tv, vR cl, vR b33, uN, uN, uN, uN, uN, uN, uN, uN, uN, uN, uN, uN, uN] [(.int (u1 &&& (4 : Int32)))]))
          by_cases c3 : (u1 &&& (4 : Int32)) = (0 : Int32)
          · refine OEndsW.pre (fun t_ k_ => XS.ifYes H35.here hx rfl (pc0 := 189) (pc' := 200) rfl (hb hby at_189) rfl (XT.i0_eq_t c3) (by decide) (by decide) k_) ?_
            show OEndsW p e below s _ _ _ (T35.setTop (mkF m 200 #[vI u0, vI u1, vI u2, vI u3, vI nn, vR b1, vR b6, vR b11, vI tt, .val tv, vR cl, vR b33, uN, uN, uN, uN, uN, uN, uN, uN, uN, uN, uN, uN, uN] []))
            have HQ : OHere p l e room_1 (s.setVm T14.vm) m #[(.int u0), (.int u1), (.int u2), (.int u3)] below meth c Z n0 ks14 T35 18 85 ([(eO b33 "java/util/ArrayList" [("java/util/AbstractList", "modCount", "I", (.int (0 : Int32))), ("java/util/ArrayList", "elementData", "[Ljava/lang/Object;", (.ref dd)), ("java/util/ArrayList", "size", "I", (.int (0 : Int32)))]), (eO cl "java/util/ArrayList" [("java/util/AbstractList", "modCount", "I", (.int mc)), ("java/util/ArrayList", "elementData", "[Ljava/lang/Object;", (.ref dc)), ("java/util/ArrayList", "size", "I", (.int (xs.length).toInt32))])] ++ F) := OHere.pick H35 [0, 1] (by decide) rfl
            exact tail200 _ F b33 dd (0 : Int32) [] (by decide) ⟨iff_of_false (by simp [h01, h02, h12, h01.symm, h02.symm, h12.symm]) (fun q => q c1), iff_of_false (by simp [h01, h02, h12, h01.symm, h02.symm, h12.symm]) (fun q => q c2), iff_of_false (by simp [h01, h02, h12, h01.symm, h02.symm, h12.symm]) (fun q => q c3)⟩ (fun _ _ q => by simp at q) hC hj0 hj1 hj2 (OHere.more HQ (by decide) (by decide))
          · refine OEndsW.pre (fun t_ k_ => XS.ifNo H35.here hx rfl (hb hby at_189) rfl (XT.i0_eq_f c3) k_) ?_
            show OEndsW p e below s _ _ _ (T35.setTop (mkF m 192 #[vI u0, vI u1, vI u2, vI u3, vI nn, vR b1, vR b6, vR b11, vI tt, .val tv, vR cl, vR b33, uN, uN, uN, uN, uN, uN, uN, uN, uN, uN, uN, uN, uN] []))
            refine OEndsW.pre (fun t_ k_ => XS.aload H35.here hx rfl (hb hby at_192) rfl rfl k_) ?_
            show OEndsW p e below s _ _ _ (T35.setTop (mkF m 194 #[vI u0, vI u1, vI u2, vI u3, vI nn, vR b1, vR b6, vR b11, vI tt, .val tv, vR cl, vR b33, uN, uN, uN, uN, uN, uN, uN, uN, uN, uN, uN, uN, uN] [(.ref b33)]))
            refine OEndsW.pre (fun t_ k_ => XS.aload H35.here hx rfl (hb hby at_194) rfl rfl k_) ?_
            show OEndsW p e below s _ _ _ (T35.setTop (mkF m 196 #[vI u0, vI u1, vI u2, vI u3, vI nn, vR b1, vR b6, vR b11, vI tt, .val tv, vR cl, vR b33, uN, uN, uN, uN, uN, uN, uN, uN, uN, uN, uN, uN, uN] [(.ref b11), (.ref b33)]))
            obtain ⟨T37, _, _, ⟨bl36, rfl, rfl⟩, H37, st37⟩ := OHere.virtual H35 hx hZ14 (y := (⟨"java/util/ArrayList", "add", "(Ljava/lang/Object;)Z"⟩ : MethodName)) (z := (⟨"java/util/ArrayList", "add", "(Ljava/lang/Object;)Z"⟩ : MethodName)) (W := 0) (a := b33) (q := 0) (fs := [("java/util/AbstractList", "modCount", "I", (.int (0 : Int32))), ("java/util/ArrayList", "elementData", "[Ljava/lang/Object;", (.ref dd)), ("java/util/ArrayList", "size", "I", (.int (0 : Int32)))]) hown14 (tWd hw 56 rfl) (tWd hw 57 rfl) (nf_sel (tWd hw 59 rfl) rfl) (tWd hw 59 rfl) (tWd hw 58 rfl) (tWd hw 34 rfl) (tWd hw 60 rfl) (by decide) rfl (conA6_0 l Z a0 hw n0 [] b33 ([(eO cl "java/util/ArrayList" [("java/util/AbstractList", "modCount", "I", (.int mc)), ("java/util/ArrayList", "elementData", "[Ljava/lang/Object;", (.ref dc)), ("java/util/ArrayList", "size", "I", (.int (xs.length).toInt32))])] ++ F) b11 f2 (List.mem_append_right _ hj2) dd hSt hDd) (by decide) (by decide) (pc := 196) (Ls := #[vI u0, vI u1, vI u2, vI u3, vI nn, vR b1, vR b6, vR b11, vI tt, .val tv, vR cl, vR b33, uN, uN, uN, uN, uN, uN, uN, uN, uN, uN, uN, uN, uN]) (argsL := [(.ref b11)]) (rest := []) (by rw [hml]; rfl) (lenOf pd_oLjava_lang_Object_cZ rfl) rfl (Nat.le_of_eq rfl) (hb hby at_196) (by decide) (by decide)
            replace H37 : OHere p l e _ (s.setVm T14.vm) m _ below meth c Z n0 ks14 T37 19 95 ([(eA bl36 (.object "java/lang/Object") [(.ref b11), .null, .null, .null, .null, .null, .null, .null, .null, .null]), (eO b33 "java/util/ArrayList" [("java/util/AbstractList", "modCount", "I", (.int (1 : Int32))), ("java/util/ArrayList", "elementData", "[Ljava/lang/Object;", (.ref bl36)), ("java/util/ArrayList", "size", "I", (.int (1 : Int32)))]), (eO cl "java/util/ArrayList" [("java/util/AbstractList", "modCount", "I", (.int mc)), ("java/util/ArrayList", "elementData", "[Ljava/lang/Object;", (.ref dc)), ("java/util/ArrayList", "size", "I", (.int (xs.length).toInt32))])] ++ F) := H37
            refine OEndsW.pre (fun t_ k_ => st37 _ k_) ?_
            show OEndsW p e below s _ _ _ (T37.setTop (mkF m 199 #[vI u0, vI u1, vI u2, vI u3, vI nn, vR b1, vR b6, vR b11, vI tt, .val tv, vR cl, vR b33, uN, uN, uN, uN, uN, uN, uN, uN, uN, uN, uN, uN, uN] [(.int (1 : Int32))]))
            refine OEndsW.pre (fun t_ k_ => XT.pop H37.here hx rfl (hb hby at_199) rfl rfl k_) ?_
            show OEndsW p e below s _ _ _ (T37.setTop (mkF m 200 #[vI u0, vI u1, vI u2, vI u3, vI nn, vR b1, vR b6, vR b11, vI tt, .val tv, vR cl, vR b33, uN, uN, uN, uN, uN, uN, uN, uN, uN, uN, uN, uN, uN] []))
            have HQ : OHere p l e room_1 (s.setVm T14.vm) m #[(.int u0), (.int u1), (.int u2), (.int u3)] below meth c Z n0 ks14 T37 19 95 ([(eO b33 "java/util/ArrayList" [("java/util/AbstractList", "modCount", "I", (.int (1 : Int32))), ("java/util/ArrayList", "elementData", "[Ljava/lang/Object;", (.ref bl36)), ("java/util/ArrayList", "size", "I", (.int (1 : Int32)))]), (eO cl "java/util/ArrayList" [("java/util/AbstractList", "modCount", "I", (.int mc)), ("java/util/ArrayList", "elementData", "[Ljava/lang/Object;", (.ref dc)), ("java/util/ArrayList", "size", "I", (.int (xs.length).toInt32))]), (eA bl36 (.object "java/lang/Object") [(.ref b11), .null, .null, .null, .null, .null, .null, .null, .null, .null])] ++ F) := OHere.pick H37 [1, 2, 0] (by decide) rfl
            exact tail200 _ ([eA bl36 (.object "java/lang/Object") (([b11] : List Addr).map Value.ref ++ List.replicate (10 - ([b11] : List Addr).length) Value.null)] ++ F) b33 bl36 (1 : Int32) [b11] (by simp) ⟨iff_of_false (by simp [h01, h02, h12, h01.symm, h02.symm, h12.symm]) (fun q => q c1), iff_of_false (by simp [h01, h02, h12, h01.symm, h02.symm, h12.symm]) (fun q => q c2), iff_of_true (by simp) c3⟩ (fun i y q => (hC_of (by simp) i y q).imp fun _ h => ⟨h.1, h.2.2⟩) (fun i y q => (hC i y q).imp fun _ h => ⟨List.mem_append_right _ h.1, h.2⟩) (List.mem_append_right _ hj0) (List.mem_append_right _ hj1) (List.mem_append_right _ hj2) HQ
        · refine OEndsW.pre (fun t_ k_ => XS.ifNo H35.here hx rfl (hb hby at_175) rfl (XT.i0_eq_f c2) k_) ?_
          show OEndsW p e below s _ _ _ (T35.setTop (mkF m 178 #[vI u0, vI u1, vI u2, vI u3, vI nn, vR b1, vR b6, vR b11, vI tt, .val tv, vR cl, vR b33, uN, uN, uN, uN, uN, uN, uN, uN, uN, uN, uN, uN, uN] []))
          refine OEndsW.pre (fun t_ k_ => XS.aload H35.here hx rfl (hb hby at_178) rfl rfl k_) ?_
          show OEndsW p e below s _ _ _ (T35.setTop (mkF m 180 #[vI u0, vI u1, vI u2, vI u3, vI nn, vR b1, vR b6, vR b11, vI tt, .val tv, vR cl, vR b33, uN, uN, uN, uN, uN, uN, uN, uN, uN, uN, uN, uN, uN] [(.ref b33)]))
          refine OEndsW.pre (fun t_ k_ => XS.aload H35.here hx rfl (hb hby at_180) rfl rfl k_) ?_
          show OEndsW p e below s _ _ _ (T35.setTop (mkF m 182 #[vI u0, vI u1, vI u2, vI u3, vI nn, vR b1, vR b6, vR b11, vI tt, .val tv, vR cl, vR b33, uN, uN, uN, uN, uN, uN, uN, uN, uN, uN, uN, uN, uN] [(.ref b6), (.ref b33)]))
          obtain ⟨T39, _, _, ⟨bl38, rfl, rfl⟩, H39, st39⟩ := OHere.virtual H35 hx hZ14 (y := (⟨"java/util/ArrayList", "add", "(Ljava/lang/Object;)Z"⟩ : MethodName)) (z := (⟨"java/util/ArrayList", "add", "(Ljava/lang/Object;)Z"⟩ : MethodName)) (W := 0) (a := b33) (q := 0) (fs := [("java/util/AbstractList", "modCount", "I", (.int (0 : Int32))), ("java/util/ArrayList", "elementData", "[Ljava/lang/Object;", (.ref dd)), ("java/util/ArrayList", "size", "I", (.int (0 : Int32)))]) hown14 (tWd hw 56 rfl) (tWd hw 57 rfl) (nf_sel (tWd hw 59 rfl) rfl) (tWd hw 59 rfl) (tWd hw 58 rfl) (tWd hw 34 rfl) (tWd hw 60 rfl) (by decide) rfl (conA6_0 l Z a0 hw n0 [] b33 ([(eO cl "java/util/ArrayList" [("java/util/AbstractList", "modCount", "I", (.int mc)), ("java/util/ArrayList", "elementData", "[Ljava/lang/Object;", (.ref dc)), ("java/util/ArrayList", "size", "I", (.int (xs.length).toInt32))])] ++ F) b6 f1 (List.mem_append_right _ hj1) dd hSt hDd) (by decide) (by decide) (pc := 182) (Ls := #[vI u0, vI u1, vI u2, vI u3, vI nn, vR b1, vR b6, vR b11, vI tt, .val tv, vR cl, vR b33, uN, uN, uN, uN, uN, uN, uN, uN, uN, uN, uN, uN, uN]) (argsL := [(.ref b6)]) (rest := []) (by rw [hml]; rfl) (lenOf pd_oLjava_lang_Object_cZ rfl) rfl (Nat.le_of_eq rfl) (hb hby at_182) (by decide) (by decide)
          replace H39 : OHere p l e _ (s.setVm T14.vm) m _ below meth c Z n0 ks14 T39 19 95 ([(eA bl38 (.object "java/lang/Object") [(.ref b6), .null, .null, .null, .null, .null, .null, .null, .null, .null]), (eO b33 "java/util/ArrayList" [("java/util/AbstractList", "modCount", "I", (.int (1 : Int32))), ("java/util/ArrayList", "elementData", "[Ljava/lang/Object;", (.ref bl38)), ("java/util/ArrayList", "size", "I", (.int (1 : Int32)))]), (eO cl "java/util/ArrayList" [("java/util/AbstractList", "modCount", "I", (.int mc)), ("java/util/ArrayList", "elementData", "[Ljava/lang/Object;", (.ref dc)), ("java/util/ArrayList", "size", "I", (.int (xs.length).toInt32))])] ++ F) := H39
          refine OEndsW.pre (fun t_ k_ => st39 _ k_) ?_
          show OEndsW p e below s _ _ _ (T39.setTop (mkF m 185 #[vI u0, vI u1, vI u2, vI u3, vI nn, vR b1, vR b6, vR b11, vI tt, .val tv, vR cl, vR b33, uN, uN, uN, uN, uN, uN, uN, uN, uN, uN, uN, uN, uN] [(.int (1 : Int32))]))
          refine OEndsW.pre (fun t_ k_ => XT.pop H39.here hx rfl (hb hby at_185) rfl rfl k_) ?_
          show OEndsW p e below s _ _ _ (T39.setTop (mkF m 186 #[vI u0, vI u1, vI u2, vI u3, vI nn, vR b1, vR b6, vR b11, vI tt, .val tv, vR cl, vR b33, uN, uN, uN, uN, uN, uN, uN, uN, uN, uN, uN, uN, uN] []))
          refine OEndsW.pre (fun t_ k_ => XS.iloadN H39.here hx rfl (hb hby at_186) rfl k_) ?_
          show OEndsW p e below s _ _ _ (T39.setTop (mkF m 187 #[vI u0, vI u1, vI u2, vI u3, vI nn, vR b1, vR b6, vR b11, vI tt, .val tv, vR cl, vR b33, uN, uN, uN, uN, uN, uN, uN, uN, uN, uN, uN, uN, uN] [(.int u1)]))
          refine OEndsW.pre (fun t_ k_ => XT.iconstV H39.here hx rfl (4 : Int32) (hb hby at_187) rfl k_) ?_
          show OEndsW p e below s _ _ _ (T39.setTop (mkF m 188 #[vI u0, vI u1, vI u2, vI u3, vI nn, vR b1, vR b6, vR b11, vI tt, .val tv, vR cl, vR b33, uN, uN, uN, uN, uN, uN, uN, uN, uN, uN, uN, uN, uN] [(.int (4 : Int32)), (.int u1)]))
          refine OEndsW.pre (fun t_ k_ => XS.iand H39.here hx rfl (hb hby at_188) rfl k_) ?_
          show OEndsW p e below s _ _ _ (T39.setTop (mkF m 189 #[vI u0, vI u1, vI u2, vI u3, vI nn, vR b1, vR b6, vR b11, vI tt, .val tv, vR cl, vR b33, uN, uN, uN, uN, uN, uN, uN, uN, uN, uN, uN, uN, uN] [(.int (u1 &&& (4 : Int32)))]))
          by_cases c3 : (u1 &&& (4 : Int32)) = (0 : Int32)
          · refine OEndsW.pre (fun t_ k_ => XS.ifYes H39.here hx rfl (pc0 := 189) (pc' := 200) rfl (hb hby at_189) rfl (XT.i0_eq_t c3) (by decide) (by decide) k_) ?_
            show OEndsW p e below s _ _ _ (T39.setTop (mkF m 200 #[vI u0, vI u1, vI u2, vI u3, vI nn, vR b1, vR b6, vR b11, vI tt, .val tv, vR cl, vR b33, uN, uN, uN, uN, uN, uN, uN, uN, uN, uN, uN, uN, uN] []))
            have HQ : OHere p l e room_1 (s.setVm T14.vm) m #[(.int u0), (.int u1), (.int u2), (.int u3)] below meth c Z n0 ks14 T39 19 95 ([(eO b33 "java/util/ArrayList" [("java/util/AbstractList", "modCount", "I", (.int (1 : Int32))), ("java/util/ArrayList", "elementData", "[Ljava/lang/Object;", (.ref bl38)), ("java/util/ArrayList", "size", "I", (.int (1 : Int32)))]), (eO cl "java/util/ArrayList" [("java/util/AbstractList", "modCount", "I", (.int mc)), ("java/util/ArrayList", "elementData", "[Ljava/lang/Object;", (.ref dc)), ("java/util/ArrayList", "size", "I", (.int (xs.length).toInt32))]), (eA bl38 (.object "java/lang/Object") [(.ref b6), .null, .null, .null, .null, .null, .null, .null, .null, .null])] ++ F) := OHere.pick H39 [1, 2, 0] (by decide) rfl
            exact tail200 _ ([eA bl38 (.object "java/lang/Object") (([b6] : List Addr).map Value.ref ++ List.replicate (10 - ([b6] : List Addr).length) Value.null)] ++ F) b33 bl38 (1 : Int32) [b6] (by simp) ⟨iff_of_false (by simp [h01, h02, h12, h01.symm, h02.symm, h12.symm]) (fun q => q c1), iff_of_true (by simp) c2, iff_of_false (by simp [h01, h02, h12, h01.symm, h02.symm, h12.symm]) (fun q => q c3)⟩ (fun i y q => (hC_of (by simp) i y q).imp fun _ h => ⟨h.1, h.2.2⟩) (fun i y q => (hC i y q).imp fun _ h => ⟨List.mem_append_right _ h.1, h.2⟩) (List.mem_append_right _ hj0) (List.mem_append_right _ hj1) (List.mem_append_right _ hj2) HQ
          · refine OEndsW.pre (fun t_ k_ => XS.ifNo H39.here hx rfl (hb hby at_189) rfl (XT.i0_eq_f c3) k_) ?_
            show OEndsW p e below s _ _ _ (T39.setTop (mkF m 192 #[vI u0, vI u1, vI u2, vI u3, vI nn, vR b1, vR b6, vR b11, vI tt, .val tv, vR cl, vR b33, uN, uN, uN, uN, uN, uN, uN, uN, uN, uN, uN, uN, uN] []))
            refine OEndsW.pre (fun t_ k_ => XS.aload H39.here hx rfl (hb hby at_192) rfl rfl k_) ?_
            show OEndsW p e below s _ _ _ (T39.setTop (mkF m 194 #[vI u0, vI u1, vI u2, vI u3, vI nn, vR b1, vR b6, vR b11, vI tt, .val tv, vR cl, vR b33, uN, uN, uN, uN, uN, uN, uN, uN, uN, uN, uN, uN, uN] [(.ref b33)]))
            refine OEndsW.pre (fun t_ k_ => XS.aload H39.here hx rfl (hb hby at_194) rfl rfl k_) ?_
            show OEndsW p e below s _ _ _ (T39.setTop (mkF m 196 #[vI u0, vI u1, vI u2, vI u3, vI nn, vR b1, vR b6, vR b11, vI tt, .val tv, vR cl, vR b33, uN, uN, uN, uN, uN, uN, uN, uN, uN, uN, uN, uN, uN] [(.ref b11), (.ref b33)]))
            have Hp41 : OHere p l e _ (s.setVm T14.vm) m _ below meth c Z n0 ks14 T39 19 95 ([(eO b33 "java/util/ArrayList" [("java/util/AbstractList", "modCount", "I", (.int (1 : Int32))), ("java/util/ArrayList", "elementData", "[Ljava/lang/Object;", (.ref bl38)), ("java/util/ArrayList", "size", "I", (.int (1 : Int32)))]), (eA bl38 (.object "java/lang/Object") [(.ref b6), .null, .null, .null, .null, .null, .null, .null, .null, .null]), (eO cl "java/util/ArrayList" [("java/util/AbstractList", "modCount", "I", (.int mc)), ("java/util/ArrayList", "elementData", "[Ljava/lang/Object;", (.ref dc)), ("java/util/ArrayList", "size", "I", (.int (xs.length).toInt32))])] ++ F) := OHere.pick H39 [1, 0, 2] (by decide) rfl
            obtain ⟨T42, _, _, ⟨rfl, rfl⟩, H42, st42⟩ := OHere.virtual Hp41 hx hZ14 (y := (⟨"java/util/ArrayList", "add", "(Ljava/lang/Object;)Z"⟩ : MethodName)) (z := (⟨"java/util/ArrayList", "add", "(Ljava/lang/Object;)Z"⟩ : MethodName)) (W := 0) (a := b33) (q := 0) (fs := [("java/util/AbstractList", "modCount", "I", (.int (1 : Int32))), ("java/util/ArrayList", "elementData", "[Ljava/lang/Object;", (.ref bl38)), ("java/util/ArrayList", "size", "I", (.int (1 : Int32)))]) hown14 (tWd hw 56 rfl) (tWd hw 57 rfl) (nf_sel (tWd hw 59 rfl) rfl) (tWd hw 59 rfl) (tWd hw 58 rfl) (tWd hw 34 rfl) (tWd hw 60 rfl) (by decide) rfl (conA6_1 l Z a0 hw n0 [] b33 ([(eO cl "java/util/ArrayList" [("java/util/AbstractList", "modCount", "I", (.int mc)), ("java/util/ArrayList", "elementData", "[Ljava/lang/Object;", (.ref dc)), ("java/util/ArrayList", "size", "I", (.int (xs.length).toInt32))])] ++ F) b11 f2 (List.mem_append_right _ hj2) bl38 b6 dd hSt hDd) (by decide) (by decide) (pc := 196) (Ls := #[vI u0, vI u1, vI u2, vI u3, vI nn, vR b1, vR b6, vR b11, vI tt, .val tv, vR cl, vR b33, uN, uN, uN, uN, uN, uN, uN, uN, uN, uN, uN, uN, uN]) (argsL := [(.ref b11)]) (rest := []) (by rw [hml]; rfl) (lenOf pd_oLjava_lang_Object_cZ rfl) rfl (Nat.le_of_eq rfl) (hb hby at_196) (by decide) (by decide)
            replace H42 : OHere p l e _ (s.setVm T14.vm) m _ below meth c Z n0 ks14 T42 19 95 ([(eO b33 "java/util/ArrayList" [("java/util/AbstractList", "modCount", "I", (.int (2 : Int32))), ("java/util/ArrayList", "elementData", "[Ljava/lang/Object;", (.ref bl38)), ("java/util/ArrayList", "size", "I", (.int (2 : Int32)))]), (eA bl38 (.object "java/lang/Object") [(.ref b6), (.ref b11), .null, .null, .null, .null, .null, .null, .null, .null]), (eO cl "java/util/ArrayList" [("java/util/AbstractList", "modCount", "I", (.int mc)), ("java/util/ArrayList", "elementData", "[Ljava/lang/Object;", (.ref dc)), ("java/util/ArrayList", "size", "I", (.int (xs.length).toInt32))])] ++ F) := H42
            refine OEndsW.pre (fun t_ k_ => st42 _ k_) ?_
            show OEndsW p e below s _ _ _ (T42.setTop (mkF m 199 #[vI u0, vI u1, vI u2, vI u3, vI nn, vR b1, vR b6, vR b11, vI tt, .val tv, vR cl, vR b33, uN, uN, uN, uN, uN, uN, uN, uN, uN, uN, uN, uN, uN] [(.int (1 : Int32))]))
            refine OEndsW.pre (fun t_ k_ => XT.pop H42.here hx rfl (hb hby at_199) rfl rfl k_) ?_
            show OEndsW p e below s _ _ _ (T42.setTop (mkF m 200 #[vI u0, vI u1, vI u2, vI u3, vI nn, vR b1, vR b6, vR b11, vI tt, .val tv, vR cl, vR b33, uN, uN, uN, uN, uN, uN, uN, uN, uN, uN, uN, uN, uN] []))
            have HQ : OHere p l e room_1 (s.setVm T14.vm) m #[(.int u0), (.int u1), (.int u2), (.int u3)] below meth c Z n0 ks14 T42 19 95 ([(eO b33 "java/util/ArrayList" [("java/util/AbstractList", "modCount", "I", (.int (2 : Int32))), ("java/util/ArrayList", "elementData", "[Ljava/lang/Object;", (.ref bl38)), ("java/util/ArrayList", "size", "I", (.int (2 : Int32)))]), (eO cl "java/util/ArrayList" [("java/util/AbstractList", "modCount", "I", (.int mc)), ("java/util/ArrayList", "elementData", "[Ljava/lang/Object;", (.ref dc)), ("java/util/ArrayList", "size", "I", (.int (xs.length).toInt32))]), (eA bl38 (.object "java/lang/Object") [(.ref b6), (.ref b11), .null, .null, .null, .null, .null, .null, .null, .null])] ++ F) := OHere.pick H42 [0, 2, 1] (by decide) rfl
            exact tail200 _ ([eA bl38 (.object "java/lang/Object") (([b6, b11] : List Addr).map Value.ref ++ List.replicate (10 - ([b6, b11] : List Addr).length) Value.null)] ++ F) b33 bl38 (2 : Int32) [b6, b11] (by simp) ⟨iff_of_false (by simp [h01, h02, h12, h01.symm, h02.symm, h12.symm]) (fun q => q c1), iff_of_true (by simp) c2, iff_of_true (by simp) c3⟩ (fun i y q => (hC_of (by simp) i y q).imp fun _ h => ⟨h.1, h.2.2⟩) (fun i y q => (hC i y q).imp fun _ h => ⟨List.mem_append_right _ h.1, h.2⟩) (List.mem_append_right _ hj0) (List.mem_append_right _ hj1) (List.mem_append_right _ hj2) HQ
      · refine OEndsW.pre (fun t_ k_ => XS.ifNo H35.here hx rfl (hb hby at_161) rfl (XT.i0_eq_f c1) k_) ?_
        show OEndsW p e below s _ _ _ (T35.setTop (mkF m 164 #[vI u0, vI u1, vI u2, vI u3, vI nn, vR b1, vR b6, vR b11, vI tt, .val tv, vR cl, vR b33, uN, uN, uN, uN, uN, uN, uN, uN, uN, uN, uN, uN, uN] []))
        refine OEndsW.pre (fun t_ k_ => XS.aload H35.here hx rfl (hb hby at_164) rfl rfl k_) ?_
        show OEndsW p e below s _ _ _ (T35.setTop (mkF m 166 #[vI u0, vI u1, vI u2, vI u3, vI nn, vR b1, vR b6, vR b11, vI tt, .val tv, vR cl, vR b33, uN, uN, uN, uN, uN, uN, uN, uN, uN, uN, uN, uN, uN] [(.ref b33)]))
        refine OEndsW.pre (fun t_ k_ => XS.aload H35.here hx rfl (hb hby at_166) rfl rfl k_) ?_
        show OEndsW p e below s _ _ _ (T35.setTop (mkF m 168 #[vI u0, vI u1, vI u2, vI u3, vI nn, vR b1, vR b6, vR b11, vI tt, .val tv, vR cl, vR b33, uN, uN, uN, uN, uN, uN, uN, uN, uN, uN, uN, uN, uN] [(.ref b1), (.ref b33)]))
        obtain ⟨T44, _, _, ⟨bl43, rfl, rfl⟩, H44, st44⟩ := OHere.virtual H35 hx hZ14 (y := (⟨"java/util/ArrayList", "add", "(Ljava/lang/Object;)Z"⟩ : MethodName)) (z := (⟨"java/util/ArrayList", "add", "(Ljava/lang/Object;)Z"⟩ : MethodName)) (W := 0) (a := b33) (q := 0) (fs := [("java/util/AbstractList", "modCount", "I", (.int (0 : Int32))), ("java/util/ArrayList", "elementData", "[Ljava/lang/Object;", (.ref dd)), ("java/util/ArrayList", "size", "I", (.int (0 : Int32)))]) hown14 (tWd hw 56 rfl) (tWd hw 57 rfl) (nf_sel (tWd hw 59 rfl) rfl) (tWd hw 59 rfl) (tWd hw 58 rfl) (tWd hw 34 rfl) (tWd hw 60 rfl) (by decide) rfl (conA6_0 l Z a0 hw n0 [] b33 ([(eO cl "java/util/ArrayList" [("java/util/AbstractList", "modCount", "I", (.int mc)), ("java/util/ArrayList", "elementData", "[Ljava/lang/Object;", (.ref dc)), ("java/util/ArrayList", "size", "I", (.int (xs.length).toInt32))])] ++ F) b1 f0 (List.mem_append_right _ hj0) dd hSt hDd) (by decide) (by decide) (pc := 168) (Ls := #[vI u0, vI u1, vI u2, vI u3, vI nn, vR b1, vR b6, vR b11, vI tt, .val tv, vR cl, vR b33, uN, uN, uN, uN, uN, uN, uN, uN, uN, uN, uN, uN, uN]) (argsL := [(.ref b1)]) (rest := []) (by rw [hml]; rfl) (lenOf pd_oLjava_lang_Object_cZ rfl) rfl (Nat.le_of_eq rfl) (hb hby at_168) (by decide) (by decide)
        replace H44 : OHere p l e _ (s.setVm T14.vm) m _ below meth c Z n0 ks14 T44 19 95 ([(eA bl43 (.object "java/lang/Object") [(.ref b1), .null, .null, .null, .null, .null, .null, .null, .null, .null]), (eO b33 "java/util/ArrayList" [("java/util/AbstractList", "modCount", "I", (.int (1 : Int32))), ("java/util/ArrayList", "elementData", "[Ljava/lang/Object;", (.ref bl43)), ("java/util/ArrayList", "size", "I", (.int (1 : Int32)))]), (eO cl "java/util/ArrayList" [("java/util/AbstractList", "modCount", "I", (.int mc)), ("java/util/ArrayList", "elementData", "[Ljava/lang/Object;", (.ref dc)), ("java/util/ArrayList", "size", "I", (.int (xs.length).toInt32))])] ++ F) := H44
        refine OEndsW.pre (fun t_ k_ => st44 _ k_) ?_
        show OEndsW p e below s _ _ _ (T44.setTop (mkF m 171 #[vI u0, vI u1, vI u2, vI u3, vI nn, vR b1, vR b6, vR b11, vI tt, .val tv, vR cl, vR b33, uN, uN, uN, uN, uN, uN, uN, uN, uN, uN, uN, uN, uN] [(.int (1 : Int32))]))
        refine OEndsW.pre (fun t_ k_ => XT.pop H44.here hx rfl (hb hby at_171) rfl rfl k_) ?_
        show OEndsW p e below s _ _ _ (T44.setTop (mkF m 172 #[vI u0, vI u1, vI u2, vI u3, vI nn, vR b1, vR b6, vR b11, vI tt, .val tv, vR cl, vR b33, uN, uN, uN, uN, uN, uN, uN, uN, uN, uN, uN, uN, uN] []))
        refine OEndsW.pre (fun t_ k_ => XS.iloadN H44.here hx rfl (hb hby at_172) rfl k_) ?_
        show OEndsW p e below s _ _ _ (T44.setTop (mkF m 173 #[vI u0, vI u1, vI u2, vI u3, vI nn, vR b1, vR b6, vR b11, vI tt, .val tv, vR cl, vR b33, uN, uN, uN, uN, uN, uN, uN, uN, uN, uN, uN, uN, uN] [(.int u1)]))
        refine OEndsW.pre (fun t_ k_ => XT.iconstV H44.here hx rfl (2 : Int32) (hb hby at_173) rfl k_) ?_
        show OEndsW p e below s _ _ _ (T44.setTop (mkF m 174 #[vI u0, vI u1, vI u2, vI u3, vI nn, vR b1, vR b6, vR b11, vI tt, .val tv, vR cl, vR b33, uN, uN, uN, uN, uN, uN, uN, uN, uN, uN, uN, uN, uN] [(.int (2 : Int32)), (.int u1)]))
        refine OEndsW.pre (fun t_ k_ => XS.iand H44.here hx rfl (hb hby at_174) rfl k_) ?_
        show OEndsW p e below s _ _ _ (T44.setTop (mkF m 175 #[vI u0, vI u1, vI u2, vI u3, vI nn, vR b1, vR b6, vR b11, vI tt, .val tv, vR cl, vR b33, uN, uN, uN, uN, uN, uN, uN, uN, uN, uN, uN, uN, uN] [(.int (u1 &&& (2 : Int32)))]))
        by_cases c2 : (u1 &&& (2 : Int32)) = (0 : Int32)
        · refine OEndsW.pre (fun t_ k_ => XS.ifYes H44.here hx rfl (pc0 := 175) (pc' := 186) rfl (hb hby at_175) rfl (XT.i0_eq_t c2) (by decide) (by decide) k_) ?_
          show OEndsW p e below s _ _ _ (T44.setTop (mkF m 186 #[vI u0, vI u1, vI u2, vI u3, vI nn, vR b1, vR b6, vR b11, vI tt, .val tv, vR cl, vR b33, uN, uN, uN, uN, uN, uN, uN, uN, uN, uN, uN, uN, uN] []))
          refine OEndsW.pre (fun t_ k_ => XS.iloadN H44.here hx rfl (hb hby at_186) rfl k_) ?_
          show OEndsW p e below s _ _ _ (T44.setTop (mkF m 187 #[vI u0, vI u1, vI u2, vI u3, vI nn, vR b1, vR b6, vR b11, vI tt, .val tv, vR cl, vR b33, uN, uN, uN, uN, uN, uN, uN, uN, uN, uN, uN, uN, uN] [(.int u1)]))
          refine OEndsW.pre (fun t_ k_ => XT.iconstV H44.here hx rfl (4 : Int32) (hb hby at_187) rfl k_) ?_
          show OEndsW p e below s _ _ _ (T44.setTop (mkF m 188 #[vI u0, vI u1, vI u2, vI u3, vI nn, vR b1, vR b6, vR b11, vI tt, .val tv, vR cl, vR b33, uN, uN, uN, uN, uN, uN, uN, uN, uN, uN, uN, uN, uN] [(.int (4 : Int32)), (.int u1)]))
          refine OEndsW.pre (fun t_ k_ => XS.iand H44.here hx rfl (hb hby at_188) rfl k_) ?_
          show OEndsW p e below s _ _ _ (T44.setTop (mkF m 189 #[vI u0, vI u1, vI u2, vI u3, vI nn, vR b1, vR b6, vR b11, vI tt, .val tv, vR cl, vR b33, uN, uN, uN, uN, uN, uN, uN, uN, uN, uN, uN, uN, uN] [(.int (u1 &&& (4 : Int32)))]))
          by_cases c3 : (u1 &&& (4 : Int32)) = (0 : Int32)
          · refine OEndsW.pre (fun t_ k_ => XS.ifYes H44.here hx rfl (pc0 := 189) (pc' := 200) rfl (hb hby at_189) rfl (XT.i0_eq_t c3) (by decide) (by decide) k_) ?_
            show OEndsW p e below s _ _ _ (T44.setTop (mkF m 200 #[vI u0, vI u1, vI u2, vI u3, vI nn, vR b1, vR b6, vR b11, vI tt, .val tv, vR cl, vR b33, uN, uN, uN, uN, uN, uN, uN, uN, uN, uN, uN, uN, uN] []))
            have HQ : OHere p l e room_1 (s.setVm T14.vm) m #[(.int u0), (.int u1), (.int u2), (.int u3)] below meth c Z n0 ks14 T44 19 95 ([(eO b33 "java/util/ArrayList" [("java/util/AbstractList", "modCount", "I", (.int (1 : Int32))), ("java/util/ArrayList", "elementData", "[Ljava/lang/Object;", (.ref bl43)), ("java/util/ArrayList", "size", "I", (.int (1 : Int32)))]), (eO cl "java/util/ArrayList" [("java/util/AbstractList", "modCount", "I", (.int mc)), ("java/util/ArrayList", "elementData", "[Ljava/lang/Object;", (.ref dc)), ("java/util/ArrayList", "size", "I", (.int (xs.length).toInt32))]), (eA bl43 (.object "java/lang/Object") [(.ref b1), .null, .null, .null, .null, .null, .null, .null, .null, .null])] ++ F) := OHere.pick H44 [1, 2, 0] (by decide) rfl
            exact tail200 _ ([eA bl43 (.object "java/lang/Object") (([b1] : List Addr).map Value.ref ++ List.replicate (10 - ([b1] : List Addr).length) Value.null)] ++ F) b33 bl43 (1 : Int32) [b1] (by simp) ⟨iff_of_true (by simp) c1, iff_of_false (by simp [h01, h02, h12, h01.symm, h02.symm, h12.symm]) (fun q => q c2), iff_of_false (by simp [h01, h02, h12, h01.symm, h02.symm, h12.symm]) (fun q => q c3)⟩ (fun i y q => (hC_of (by simp) i y q).imp fun _ h => ⟨h.1, h.2.2⟩) (fun i y q => (hC i y q).imp fun _ h => ⟨List.mem_append_right _ h.1, h.2⟩) (List.mem_append_right _ hj0) (List.mem_append_right _ hj1) (List.mem_append_right _ hj2) HQ
          · refine OEndsW.pre (fun t_ k_ => XS.ifNo H44.here hx rfl (hb hby at_189) rfl (XT.i0_eq_f c3) k_) ?_
            show OEndsW p e below s _ _ _ (T44.setTop (mkF m 192 #[vI u0, vI u1, vI u2, vI u3, vI nn, vR b1, vR b6, vR b11, vI tt, .val tv, vR cl, vR b33, uN, uN, uN, uN, uN, uN, uN, uN, uN, uN, uN, uN, uN] []))
            refine OEndsW.pre (fun t_ k_ => XS.aload H44.here hx rfl (hb hby at_192) rfl rfl k_) ?_
            show OEndsW p e below s _ _ _ (T44.setTop (mkF m 194 #[vI u0, vI u1, vI u2, vI u3, vI nn, vR b1, vR b6, vR b11, vI tt, .val tv, vR cl, vR b33, uN, uN, uN, uN, uN, uN, uN, uN, uN, uN, uN, uN, uN] [(.ref b33)]))
            refine OEndsW.pre (fun t_ k_ => XS.aload H44.here hx rfl (hb hby at_194) rfl rfl k_) ?_
            show OEndsW p e below s _ _ _ (T44.setTop (mkF m 196 #[vI u0, vI u1, vI u2, vI u3, vI nn, vR b1, vR b6, vR b11, vI tt, .val tv, vR cl, vR b33, uN, uN, uN, uN, uN, uN, uN, uN, uN, uN, uN, uN, uN] [(.ref b11), (.ref b33)]))
            have Hp46 : OHere p l e _ (s.setVm T14.vm) m _ below meth c Z n0 ks14 T44 19 95 ([(eO b33 "java/util/ArrayList" [("java/util/AbstractList", "modCount", "I", (.int (1 : Int32))), ("java/util/ArrayList", "elementData", "[Ljava/lang/Object;", (.ref bl43)), ("java/util/ArrayList", "size", "I", (.int (1 : Int32)))]), (eA bl43 (.object "java/lang/Object") [(.ref b1), .null, .null, .null, .null, .null, .null, .null, .null, .null]), (eO cl "java/util/ArrayList" [("java/util/AbstractList", "modCount", "I", (.int mc)), ("java/util/ArrayList", "elementData", "[Ljava/lang/Object;", (.ref dc)), ("java/util/ArrayList", "size", "I", (.int (xs.length).toInt32))])] ++ F) := OHere.pick H44 [1, 0, 2] (by decide) rfl
            obtain ⟨T47, _, _, ⟨rfl, rfl⟩, H47, st47⟩ := OHere.virtual Hp46 hx hZ14 (y := (⟨"java/util/ArrayList", "add", "(Ljava/lang/Object;)Z"⟩ : MethodName)) (z := (⟨"java/util/ArrayList", "add", "(Ljava/lang/Object;)Z"⟩ : MethodName)) (W := 0) (a := b33) (q := 0) (fs := [("java/util/AbstractList", "modCount", "I", (.int (1 : Int32))), ("java/util/ArrayList", "elementData", "[Ljava/lang/Object;", (.ref bl43)), ("java/util/ArrayList", "size", "I", (.int (1 : Int32)))]) hown14 (tWd hw 56 rfl) (tWd hw 57 rfl) (nf_sel (tWd hw 59 rfl) rfl) (tWd hw 59 rfl) (tWd hw 58 rfl) (tWd hw 34 rfl) (tWd hw 60 rfl) (by decide) rfl (conA6_1 l Z a0 hw n0 [] b33 ([(eO cl "java/util/ArrayList" [("java/util/AbstractList", "modCount", "I", (.int mc)), ("java/util/ArrayList", "elementData", "[Ljava/lang/Object;", (.ref dc)), ("java/util/ArrayList", "size", "I", (.int (xs.length).toInt32))])] ++ F) b11 f2 (List.mem_append_right _ hj2) bl43 b1 dd hSt hDd) (by decide) (by decide) (pc := 196) (Ls := #[vI u0, vI u1, vI u2, vI u3, vI nn, vR b1, vR b6, vR b11, vI tt, .val tv, vR cl, vR b33, uN, uN, uN, uN, uN, uN, uN, uN, uN, uN, uN, uN, uN]) (argsL := [(.ref b11)]) (rest := []) (by rw [hml]; rfl) (lenOf pd_oLjava_lang_Object_cZ rfl) rfl (Nat.le_of_eq rfl) (hb hby at_196) (by decide) (by decide)
            replace H47 : OHere p l e _ (s.setVm T14.vm) m _ below meth c Z n0 ks14 T47 19 95 ([(eO b33 "java/util/ArrayList" [("java/util/AbstractList", "modCount", "I", (.int (2 : Int32))), ("java/util/ArrayList", "elementData", "[Ljava/lang/Object;", (.ref bl43)), ("java/util/ArrayList", "size", "I", (.int (2 : Int32)))]), (eA bl43 (.object "java/lang/Object") [(.ref b1), (.ref b11), .null, .null, .null, .null, .null, .null, .null, .null]), (eO cl "java/util/ArrayList" [("java/util/AbstractList", "modCount", "I", (.int mc)), ("java/util/ArrayList", "elementData", "[Ljava/lang/Object;", (.ref dc)), ("java/util/ArrayList", "size", "I", (.int (xs.length).toInt32))])] ++ F) := H47
            refine OEndsW.pre (fun t_ k_ => st47 _ k_) ?_
            show OEndsW p e below s _ _ _ (T47.setTop (mkF m 199 #[vI u0, vI u1, vI u2, vI u3, vI nn, vR b1, vR b6, vR b11, vI tt, .val tv, vR cl, vR b33, uN, uN, uN, uN, uN, uN, uN, uN, uN, uN, uN, uN, uN] [(.int (1 : Int32))]))
            refine OEndsW.pre (fun t_ k_ => XT.pop H47.here hx rfl (hb hby at_199) rfl rfl k_) ?_
            show OEndsW p e below s _ _ _ (T47.setTop (mkF m 200 #[vI u0, vI u1, vI u2, vI u3, vI nn, vR b1, vR b6, vR b11, vI tt, .val tv, vR cl, vR b33, uN, uN, uN, uN, uN, uN, uN, uN, uN, uN, uN, uN, uN] []))
            have HQ : OHere p l e room_1 (s.setVm T14.vm) m #[(.int u0), (.int u1), (.int u2), (.int u3)] below meth c Z n0 ks14 T47 19 95 ([(eO b33 "java/util/ArrayList" [("java/util/AbstractList", "modCount", "I", (.int (2 : Int32))), ("java/util/ArrayList", "elementData", "[Ljava/lang/Object;", (.ref bl43)), ("java/util/ArrayList", "size", "I", (.int (2 : Int32)))]), (eO cl "java/util/ArrayList" [("java/util/AbstractList", "modCount", "I", (.int mc)), ("java/util/ArrayList", "elementData", "[Ljava/lang/Object;", (.ref dc)), ("java/util/ArrayList", "size", "I", (.int (xs.length).toInt32))]), (eA bl43 (.object "java/lang/Object") [(.ref b1), (.ref b11), .null, .null, .null, .null, .null, .null, .null, .null])] ++ F) := OHere.pick H47 [0, 2, 1] (by decide) rfl
            exact tail200 _ ([eA bl43 (.object "java/lang/Object") (([b1, b11] : List Addr).map Value.ref ++ List.replicate (10 - ([b1, b11] : List Addr).length) Value.null)] ++ F) b33 bl43 (2 : Int32) [b1, b11] (by simp) ⟨iff_of_true (by simp) c1, iff_of_false (by simp [h01, h02, h12, h01.symm, h02.symm, h12.symm]) (fun q => q c2), iff_of_true (by simp) c3⟩ (fun i y q => (hC_of (by simp) i y q).imp fun _ h => ⟨h.1, h.2.2⟩) (fun i y q => (hC i y q).imp fun _ h => ⟨List.mem_append_right _ h.1, h.2⟩) (List.mem_append_right _ hj0) (List.mem_append_right _ hj1) (List.mem_append_right _ hj2) HQ
        · refine OEndsW.pre (fun t_ k_ => XS.ifNo H44.here hx rfl (hb hby at_175) rfl (XT.i0_eq_f c2) k_) ?_
          show OEndsW p e below s _ _ _ (T44.setTop (mkF m 178 #[vI u0, vI u1, vI u2, vI u3, vI nn, vR b1, vR b6, vR b11, vI tt, .val tv, vR cl, vR b33, uN, uN, uN, uN, uN, uN, uN, uN, uN, uN, uN, uN, uN] []))
          refine OEndsW.pre (fun t_ k_ => XS.aload H44.here hx rfl (hb hby at_178) rfl rfl k_) ?_
          show OEndsW p e below s _ _ _ (T44.setTop (mkF m 180 #[vI u0, vI u1, vI u2, vI u3, vI nn, vR b1, vR b6, vR b11, vI tt, .val tv, vR cl, vR b33, uN, uN, uN, uN, uN, uN, uN, uN, uN, uN, uN, uN, uN] [(.ref b33)]))
          refine OEndsW.pre (fun t_ k_ => XS.aload H44.here hx rfl (hb hby at_180) rfl rfl k_) ?_
          show OEndsW p e below s _ _ _ (T44.setTop (mkF m 182 #[vI u0, vI u1, vI u2, vI u3, vI nn, vR b1, vR b6, vR b11, vI tt, .val tv, vR cl, vR b33, uN, uN, uN, uN, uN, uN, uN, uN, uN, uN, uN, uN, uN] [(.ref b6), (.ref b33)]))
          have Hp49 : OHere p l e _ (s.setVm T14.vm) m _ below meth c Z n0 ks14 T44 19 95 ([(eO b33 "java/util/ArrayList" [("java/util/AbstractList", "modCount", "I", (.int (1 : Int32))), ("java/util/ArrayList", "elementData", "[Ljava/lang/Object;", (.ref bl43)), ("java/util/ArrayList", "size", "I", (.int (1 : Int32)))]), (eA bl43 (.object "java/lang/Object") [(.ref b1), .null, .null, .null, .null, .null, .null, .null, .null, .null]), (eO cl "java/util/ArrayList" [("java/util/AbstractList", "modCount", "I", (.int mc)), ("java/util/ArrayList", "elementData", "[Ljava/lang/Object;", (.ref dc)), ("java/util/ArrayList", "size", "I", (.int (xs.length).toInt32))])] ++ F) := OHere.pick H44 [1, 0, 2] (by decide) rfl
          obtain ⟨T50, _, _, ⟨rfl, rfl⟩, H50, st50⟩ := OHere.virtual Hp49 hx hZ14 (y := (⟨"java/util/ArrayList", "add", "(Ljava/lang/Object;)Z"⟩ : MethodName)) (z := (⟨"java/util/ArrayList", "add", "(Ljava/lang/Object;)Z"⟩ : MethodName)) (W := 0) (a := b33) (q := 0) (fs := [("java/util/AbstractList", "modCount", "I", (.int (1 : Int32))), ("java/util/ArrayList", "elementData", "[Ljava/lang/Object;", (.ref bl43)), ("java/util/ArrayList", "size", "I", (.int (1 : Int32)))]) hown14 (tWd hw 56 rfl) (tWd hw 57 rfl) (nf_sel (tWd hw 59 rfl) rfl) (tWd hw 59 rfl) (tWd hw 58 rfl) (tWd hw 34 rfl) (tWd hw 60 rfl) (by decide) rfl (conA6_1 l Z a0 hw n0 [] b33 ([(eO cl "java/util/ArrayList" [("java/util/AbstractList", "modCount", "I", (.int mc)), ("java/util/ArrayList", "elementData", "[Ljava/lang/Object;", (.ref dc)), ("java/util/ArrayList", "size", "I", (.int (xs.length).toInt32))])] ++ F) b6 f1 (List.mem_append_right _ hj1) bl43 b1 dd hSt hDd) (by decide) (by decide) (pc := 182) (Ls := #[vI u0, vI u1, vI u2, vI u3, vI nn, vR b1, vR b6, vR b11, vI tt, .val tv, vR cl, vR b33, uN, uN, uN, uN, uN, uN, uN, uN, uN, uN, uN, uN, uN]) (argsL := [(.ref b6)]) (rest := []) (by rw [hml]; rfl) (lenOf pd_oLjava_lang_Object_cZ rfl) rfl (Nat.le_of_eq rfl) (hb hby at_182) (by decide) (by decide)
          replace H50 : OHere p l e _ (s.setVm T14.vm) m _ below meth c Z n0 ks14 T50 19 95 ([(eO b33 "java/util/ArrayList" [("java/util/AbstractList", "modCount", "I", (.int (2 : Int32))), ("java/util/ArrayList", "elementData", "[Ljava/lang/Object;", (.ref bl43)), ("java/util/ArrayList", "size", "I", (.int (2 : Int32)))]), (eA bl43 (.object "java/lang/Object") [(.ref b1), (.ref b6), .null, .null, .null, .null, .null, .null, .null, .null]), (eO cl "java/util/ArrayList" [("java/util/AbstractList", "modCount", "I", (.int mc)), ("java/util/ArrayList", "elementData", "[Ljava/lang/Object;", (.ref dc)), ("java/util/ArrayList", "size", "I", (.int (xs.length).toInt32))])] ++ F) := H50
          refine OEndsW.pre (fun t_ k_ => st50 _ k_) ?_
          show OEndsW p e below s _ _ _ (T50.setTop (mkF m 185 #[vI u0, vI u1, vI u2, vI u3, vI nn, vR b1, vR b6, vR b11, vI tt, .val tv, vR cl, vR b33, uN, uN, uN, uN, uN, uN, uN, uN, uN, uN, uN, uN, uN] [(.int (1 : Int32))]))
          refine OEndsW.pre (fun t_ k_ => XT.pop H50.here hx rfl (hb hby at_185) rfl rfl k_) ?_
          show OEndsW p e below s _ _ _ (T50.setTop (mkF m 186 #[vI u0, vI u1, vI u2, vI u3, vI nn, vR b1, vR b6, vR b11, vI tt, .val tv, vR cl, vR b33, uN, uN, uN, uN, uN, uN, uN, uN, uN, uN, uN, uN, uN] []))
          refine OEndsW.pre (fun t_ k_ => XS.iloadN H50.here hx rfl (hb hby at_186) rfl k_) ?_
          show OEndsW p e below s _ _ _ (T50.setTop (mkF m 187 #[vI u0, vI u1, vI u2, vI u3, vI nn, vR b1, vR b6, vR b11, vI tt, .val tv, vR cl, vR b33, uN, uN, uN, uN, uN, uN, uN, uN, uN, uN, uN, uN, uN] [(.int u1)]))
          refine OEndsW.pre (fun t_ k_ => XT.iconstV H50.here hx rfl (4 : Int32) (hb hby at_187) rfl k_) ?_
          show OEndsW p e below s _ _ _ (T50.setTop (mkF m 188 #[vI u0, vI u1, vI u2, vI u3, vI nn, vR b1, vR b6, vR b11, vI tt, .val tv, vR cl, vR b33, uN, uN, uN, uN, uN, uN, uN, uN, uN, uN, uN, uN, uN] [(.int (4 : Int32)), (.int u1)]))
          refine OEndsW.pre (fun t_ k_ => XS.iand H50.here hx rfl (hb hby at_188) rfl k_) ?_
          show OEndsW p e below s _ _ _ (T50.setTop (mkF m 189 #[vI u0, vI u1, vI u2, vI u3, vI nn, vR b1, vR b6, vR b11, vI tt, .val tv, vR cl, vR b33, uN, uN, uN, uN, uN, uN, uN, uN, uN, uN, uN, uN, uN] [(.int (u1 &&& (4 : Int32)))]))
          by_cases c3 : (u1 &&& (4 : Int32)) = (0 : Int32)
          · refine OEndsW.pre (fun t_ k_ => XS.ifYes H50.here hx rfl (pc0 := 189) (pc' := 200) rfl (hb hby at_189) rfl (XT.i0_eq_t c3) (by decide) (by decide) k_) ?_
            show OEndsW p e below s _ _ _ (T50.setTop (mkF m 200 #[vI u0, vI u1, vI u2, vI u3, vI nn, vR b1, vR b6, vR b11, vI tt, .val tv, vR cl, vR b33, uN, uN, uN, uN, uN, uN, uN, uN, uN, uN, uN, uN, uN] []))
            have HQ : OHere p l e room_1 (s.setVm T14.vm) m #[(.int u0), (.int u1), (.int u2), (.int u3)] below meth c Z n0 ks14 T50 19 95 ([(eO b33 "java/util/ArrayList" [("java/util/AbstractList", "modCount", "I", (.int (2 : Int32))), ("java/util/ArrayList", "elementData", "[Ljava/lang/Object;", (.ref bl43)), ("java/util/ArrayList", "size", "I", (.int (2 : Int32)))]), (eO cl "java/util/ArrayList" [("java/util/AbstractList", "modCount", "I", (.int mc)), ("java/util/ArrayList", "elementData", "[Ljava/lang/Object;", (.ref dc)), ("java/util/ArrayList", "size", "I", (.int (xs.length).toInt32))]), (eA bl43 (.object "java/lang/Object") [(.ref b1), (.ref b6), .null, .null, .null, .null, .null, .null, .null, .null])] ++ F) := OHere.pick H50 [0, 2, 1] (by decide) rfl
            exact tail200 _ ([eA bl43 (.object "java/lang/Object") (([b1, b6] : List Addr).map Value.ref ++ List.replicate (10 - ([b1, b6] : List Addr).length) Value.null)] ++ F) b33 bl43 (2 : Int32) [b1, b6] (by simp) ⟨iff_of_true (by simp) c1, iff_of_true (by simp) c2, iff_of_false (by simp [h01, h02, h12, h01.symm, h02.symm, h12.symm]) (fun q => q c3)⟩ (fun i y q => (hC_of (by simp) i y q).imp fun _ h => ⟨h.1, h.2.2⟩) (fun i y q => (hC i y q).imp fun _ h => ⟨List.mem_append_right _ h.1, h.2⟩) (List.mem_append_right _ hj0) (List.mem_append_right _ hj1) (List.mem_append_right _ hj2) HQ
          · refine OEndsW.pre (fun t_ k_ => XS.ifNo H50.here hx rfl (hb hby at_189) rfl (XT.i0_eq_f c3) k_) ?_
            show OEndsW p e below s _ _ _ (T50.setTop (mkF m 192 #[vI u0, vI u1, vI u2, vI u3, vI nn, vR b1, vR b6, vR b11, vI tt, .val tv, vR cl, vR b33, uN, uN, uN, uN, uN, uN, uN, uN, uN, uN, uN, uN, uN] []))
            refine OEndsW.pre (fun t_ k_ => XS.aload H50.here hx rfl (hb hby at_192) rfl rfl k_) ?_
            show OEndsW p e below s _ _ _ (T50.setTop (mkF m 194 #[vI u0, vI u1, vI u2, vI u3, vI nn, vR b1, vR b6, vR b11, vI tt, .val tv, vR cl, vR b33, uN, uN, uN, uN, uN, uN, uN, uN, uN, uN, uN, uN, uN] [(.ref b33)]))
            refine OEndsW.pre (fun t_ k_ => XS.aload H50.here hx rfl (hb hby at_194) rfl rfl k_) ?_
            show OEndsW p e below s _ _ _ (T50.setTop (mkF m 196 #[vI u0, vI u1, vI u2, vI u3, vI nn, vR b1, vR b6, vR b11, vI tt, .val tv, vR cl, vR b33, uN, uN, uN, uN, uN, uN, uN, uN, uN, uN, uN, uN, uN] [(.ref b11), (.ref b33)]))
            obtain ⟨T52, _, _, ⟨rfl, rfl⟩, H52, st52⟩ := OHere.virtual H50 hx hZ14 (y := (⟨"java/util/ArrayList", "add", "(Ljava/lang/Object;)Z"⟩ : MethodName)) (z := (⟨"java/util/ArrayList", "add", "(Ljava/lang/Object;)Z"⟩ : MethodName)) (W := 0) (a := b33) (q := 0) (fs := [("java/util/AbstractList", "modCount", "I", (.int (2 : Int32))), ("java/util/ArrayList", "elementData", "[Ljava/lang/Object;", (.ref bl43)), ("java/util/ArrayList", "size", "I", (.int (2 : Int32)))]) hown14 (tWd hw 56 rfl) (tWd hw 57 rfl) (nf_sel (tWd hw 59 rfl) rfl) (tWd hw 59 rfl) (tWd hw 58 rfl) (tWd hw 34 rfl) (tWd hw 60 rfl) (by decide) rfl (conA6_2 l Z a0 hw n0 [] b33 ([(eO cl "java/util/ArrayList" [("java/util/AbstractList", "modCount", "I", (.int mc)), ("java/util/ArrayList", "elementData", "[Ljava/lang/Object;", (.ref dc)), ("java/util/ArrayList", "size", "I", (.int (xs.length).toInt32))])] ++ F) b11 f2 (List.mem_append_right _ hj2) bl43 b1 b6 dd hSt hDd) (by decide) (by decide) (pc := 196) (Ls := #[vI u0, vI u1, vI u2, vI u3, vI nn, vR b1, vR b6, vR b11, vI tt, .val tv, vR cl, vR b33, uN, uN, uN, uN, uN, uN, uN, uN, uN, uN, uN, uN, uN]) (argsL := [(.ref b11)]) (rest := []) (by rw [hml]; rfl) (lenOf pd_oLjava_lang_Object_cZ rfl) rfl (Nat.le_of_eq rfl) (hb hby at_196) (by decide) (by decide)
            replace H52 : OHere p l e _ (s.setVm T14.vm) m _ below meth c Z n0 ks14 T52 19 95 ([(eO b33 "java/util/ArrayList" [("java/util/AbstractList", "modCount", "I", (.int (3 : Int32))), ("java/util/ArrayList", "elementData", "[Ljava/lang/Object;", (.ref bl43)), ("java/util/ArrayList", "size", "I", (.int (3 : Int32)))]), (eA bl43 (.object "java/lang/Object") [(.ref b1), (.ref b6), (.ref b11), .null, .null, .null, .null, .null, .null, .null]), (eO cl "java/util/ArrayList" [("java/util/AbstractList", "modCount", "I", (.int mc)), ("java/util/ArrayList", "elementData", "[Ljava/lang/Object;", (.ref dc)), ("java/util/ArrayList", "size", "I", (.int (xs.length).toInt32))])] ++ F) := H52
            refine OEndsW.pre (fun t_ k_ => st52 _ k_) ?_
            show OEndsW p e below s _ _ _ (T52.setTop (mkF m 199 #[vI u0, vI u1, vI u2, vI u3, vI nn, vR b1, vR b6, vR b11, vI tt, .val tv, vR cl, vR b33, uN, uN, uN, uN, uN, uN, uN, uN, uN, uN, uN, uN, uN] [(.int (1 : Int32))]))
            refine OEndsW.pre (fun t_ k_ => XT.pop H52.here hx rfl (hb hby at_199) rfl rfl k_) ?_
            show OEndsW p e below s _ _ _ (T52.setTop (mkF m 200 #[vI u0, vI u1, vI u2, vI u3, vI nn, vR b1, vR b6, vR b11, vI tt, .val tv, vR cl, vR b33, uN, uN, uN, uN, uN, uN, uN, uN, uN, uN, uN, uN, uN] []))
            have HQ : OHere p l e room_1 (s.setVm T14.vm) m #[(.int u0), (.int u1), (.int u2), (.int u3)] below meth c Z n0 ks14 T52 19 95 ([(eO b33 "java/util/ArrayList" [("java/util/AbstractList", "modCount", "I", (.int (3 : Int32))), ("java/util/ArrayList", "elementData", "[Ljava/lang/Object;", (.ref bl43)), ("java/util/ArrayList", "size", "I", (.int (3 : Int32)))]), (eO cl "java/util/ArrayList" [("java/util/AbstractList", "modCount", "I", (.int mc)), ("java/util/ArrayList", "elementData", "[Ljava/lang/Object;", (.ref dc)), ("java/util/ArrayList", "size", "I", (.int (xs.length).toInt32))]), (eA bl43 (.object "java/lang/Object") [(.ref b1), (.ref b6), (.ref b11), .null, .null, .null, .null, .null, .null, .null])] ++ F) := OHere.pick H52 [0, 2, 1] (by decide) rfl
            exact tail200 _ ([eA bl43 (.object "java/lang/Object") (([b1, b6, b11] : List Addr).map Value.ref ++ List.replicate (10 - ([b1, b6, b11] : List Addr).length) Value.null)] ++ F) b33 bl43 (3 : Int32) [b1, b6, b11] (by simp) ⟨iff_of_true (by simp) c1, iff_of_true (by simp) c2, iff_of_true (by simp) c3⟩ (fun i y q => (hC_of (by simp) i y q).imp fun _ h => ⟨h.1, h.2.2⟩) (fun i y q => (hC i y q).imp fun _ h => ⟨List.mem_append_right _ h.1, h.2⟩) (List.mem_append_right _ hj0) (List.mem_append_right _ hj1) (List.mem_append_right _ hj2) HQ
    refine OEndsW.pre (fun t_ k_ => XS.astore HF.here hx rfl (hb hby at_97) rfl htv (l' := #[vI u0, vI u1, vI u2, vI u3, vI nn, vR b1, vR b6, vR b11, vI tt, .val tv, uN, uN, uN, uN, uN, uN, uN, uN, uN, uN, uN, uN, uN, uN, uN]) (by rcases ref_cases htv with rfl | ⟨y_, rfl⟩ <;> rfl) k_) ?_
    show OEndsW p e below s _ _ _ (T15.setTop (mkF m 99 #[vI u0, vI u1, vI u2, vI u3, vI nn, vR b1, vR b6, vR b11, vI tt, .val tv, uN, uN, uN, uN, uN, uN, uN, uN, uN, uN, uN, uN, uN, uN, uN] []))
    obtain ⟨T54, b53, H54, st54⟩ := OHere.new HF hx hZ14 (pc := 99) (Ls := #[vI u0, vI u1, vI u2, vI u3, vI nn, vR b1, vR b6, vR b11, vI tt, .val tv, uN, uN, uN, uN, uN, uN, uN, uN, uN, uN, uN, uN, uN, uN, uN]) (rest := []) hown14 (tWd hw 32 rfl) (tWd hw 33 rfl) (tWd hw 34 rfl) [("java/util/AbstractList", "modCount", "I", (.int 0)), ("java/util/ArrayList", "elementData", "[Ljava/lang/Object;", .null), ("java/util/ArrayList", "size", "I", (.int 0))] ⟨⟨Or.inl (tWd hw 52 rfl), .int, by decide, rfl⟩, ⟨Or.inl (tWd hw 55 rfl), (.array (.object "java/lang/Object")), by decide, rfl⟩, ⟨Or.inl (tWd hw 64 rfl), .int, by decide, rfl⟩, trivial⟩ (by first | decide | simp) (hb hby at_99) (by decide) (by decide)
    replace H54 : OHere p l e _ (s.setVm T14.vm) m _ below meth c Z n0 ks14 T54 16 72 ([(eO b53 "java/util/ArrayList" [("java/util/AbstractList", "modCount", "I", (.int 0)), ("java/util/ArrayList", "elementData", "[Ljava/lang/Object;", .null), ("java/util/ArrayList", "size", "I", (.int 0))])] ++ F) := H54
    refine OEndsW.pre (fun t_ k_ => st54 _ k_) ?_
    show OEndsW p e below s _ _ _ (T54.setTop (mkF m 102 #[vI u0, vI u1, vI u2, vI u3, vI nn, vR b1, vR b6, vR b11, vI tt, .val tv, uN, uN, uN, uN, uN, uN, uN, uN, uN, uN, uN, uN, uN, uN, uN] [(.ref b53)]))
    refine OEndsW.pre (fun t_ k_ => XS.dup H54.here hx rfl (hb hby at_102) rfl rfl k_) ?_
    show OEndsW p e below s _ _ _ (T54.setTop (mkF m 103 #[vI u0, vI u1, vI u2, vI u3, vI nn, vR b1, vR b6, vR b11, vI tt, .val tv, uN, uN, uN, uN, uN, uN, uN, uN, uN, uN, uN, uN, uN, uN, uN] [(.ref b53), (.ref b53)]))
    obtain ⟨T55, _, _, ⟨rfl, rfl⟩, H55, st55⟩ := OHere.special H54 hx hZ14 (y := (⟨"java/util/ArrayList", "<init>", "()V"⟩ : MethodName)) rfl (W := 1) (a := b53) hown14 (tWd hw 35 rfl) (tWd hw 36 rfl) (tWd hw 34 rfl) (tWd hw 37 rfl) (by decide) (conALi l Z a0 hw n0 [] b53 ([] ++ F) dd hSt hDd) (by decide) (by decide) (pc := 103) (Ls := #[vI u0, vI u1, vI u2, vI u3, vI nn, vR b1, vR b6, vR b11, vI tt, .val tv, uN, uN, uN, uN, uN, uN, uN, uN, uN, uN, uN, uN, uN, uN, uN]) (argsL := []) (rest := [(.ref b53)]) (by rw [hml]; rfl) (lenOf pd_ocV rfl) rfl (Nat.le_of_eq rfl) (hb hby at_103) (by decide) (by decide)
    replace H55 : OHere p l e _ (s.setVm T14.vm) m _ below meth c Z n0 ks14 T55 16 72 ([(eO b53 "java/util/ArrayList" [("java/util/AbstractList", "modCount", "I", (.int (0 : Int32))), ("java/util/ArrayList", "elementData", "[Ljava/lang/Object;", (.ref dd)), ("java/util/ArrayList", "size", "I", (.int (0 : Int32)))])] ++ F) := H55
    refine OEndsW.pre (fun t_ k_ => st55 _ k_) ?_
    show OEndsW p e below s _ _ _ (T55.setTop (mkF m 106 #[vI u0, vI u1, vI u2, vI u3, vI nn, vR b1, vR b6, vR b11, vI tt, .val tv, uN, uN, uN, uN, uN, uN, uN, uN, uN, uN, uN, uN, uN, uN, uN] [(.ref b53)]))
    refine OEndsW.pre (fun t_ k_ => XS.astore H55.here hx rfl (hb hby at_106) rfl rfl (l' := #[vI u0, vI u1, vI u2, vI u3, vI nn, vR b1, vR b6, vR b11, vI tt, .val tv, vR b53, uN, uN, uN, uN, uN, uN, uN, uN, uN, uN, uN, uN, uN, uN]) rfl k_) ?_
    show OEndsW p e below s _ _ _ (T55.setTop (mkF m 108 #[vI u0, vI u1, vI u2, vI u3, vI nn, vR b1, vR b6, vR b11, vI tt, .val tv, vR b53, uN, uN, uN, uN, uN, uN, uN, uN, uN, uN, uN, uN, uN, uN] []))
    rcases hnn with hnk | hnk | hnk | hnk
    · refine OEndsW.pre (fun t_ k_ => XS.iload H55.here hx rfl (hb hby at_108) rfl k_) ?_
      show OEndsW p e below s _ _ _ (T55.setTop (mkF m 110 #[vI u0, vI u1, vI u2, vI u3, vI nn, vR b1, vR b6, vR b11, vI tt, .val tv, vR b53, uN, uN, uN, uN, uN, uN, uN, uN, uN, uN, uN, uN, uN, uN] [(.int nn)]))
      refine OEndsW.pre (fun t_ k_ => XS.ifYes H55.here hx rfl (pc0 := 110) (pc' := 121) rfl (hb hby at_110) rfl (XT.i0_le_t (by rw [hnk]; decide)) (by decide) (by decide) k_) ?_
      show OEndsW p e below s _ _ _ (T55.setTop (mkF m 121 #[vI u0, vI u1, vI u2, vI u3, vI nn, vR b1, vR b6, vR b11, vI tt, .val tv, vR b53, uN, uN, uN, uN, uN, uN, uN, uN, uN, uN, uN, uN, uN, uN] []))
      refine OEndsW.pre (fun t_ k_ => XS.iload H55.here hx rfl (hb hby at_121) rfl k_) ?_
      show OEndsW p e below s _ _ _ (T55.setTop (mkF m 123 #[vI u0, vI u1, vI u2, vI u3, vI nn, vR b1, vR b6, vR b11, vI tt, .val tv, vR b53, uN, uN, uN, uN, uN, uN, uN, uN, uN, uN, uN, uN, uN, uN] [(.int nn)]))
      refine OEndsW.pre (fun t_ k_ => XT.iconstV H55.here hx rfl (1 : Int32) (hb hby at_123) rfl k_) ?_
      show OEndsW p e below s _ _ _ (T55.setTop (mkF m 124 #[vI u0, vI u1, vI u2, vI u3, vI nn, vR b1, vR b6, vR b11, vI tt, .val tv, vR b53, uN, uN, uN, uN, uN, uN, uN, uN, uN, uN, uN, uN, uN, uN] [(.int (1 : Int32)), (.int nn)]))
      refine OEndsW.pre (fun t_ k_ => XS.icmpYes H55.here hx rfl (pc0 := 124) (pc' := 135) rfl (hb hby at_124) rfl (XT.ii_le_t (by rw [hnk]; decide)) (by decide) (by decide) k_) ?_
      show OEndsW p e below s _ _ _ (T55.setTop (mkF m 135 #[vI u0, vI u1, vI u2, vI u3, vI nn, vR b1, vR b6, vR b11, vI tt, .val tv, vR b53, uN, uN, uN, uN, uN, uN, uN, uN, uN, uN, uN, uN, uN, uN] []))
      refine OEndsW.pre (fun t_ k_ => XS.iload H55.here hx rfl (hb hby at_135) rfl k_) ?_
      show OEndsW p e below s _ _ _ (T55.setTop (mkF m 137 #[vI u0, vI u1, vI u2, vI u3, vI nn, vR b1, vR b6, vR b11, vI tt, .val tv, vR b53, uN, uN, uN, uN, uN, uN, uN, uN, uN, uN, uN, uN, uN, uN] [(.int nn)]))
      refine OEndsW.pre (fun t_ k_ => XT.iconstV H55.here hx rfl (2 : Int32) (hb hby at_137) rfl k_) ?_
      show OEndsW p e below s _ _ _ (T55.setTop (mkF m 138 #[vI u0, vI u1, vI u2, vI u3, vI nn, vR b1, vR b6, vR b11, vI tt, .val tv, vR b53, uN, uN, uN, uN, uN, uN, uN, uN, uN, uN, uN, uN, uN, uN] [(.int (2 : Int32)), (.int nn)]))
      refine OEndsW.pre (fun t_ k_ => XS.icmpYes H55.here hx rfl (pc0 := 138) (pc' := 149) rfl (hb hby at_138) rfl (XT.ii_le_t (by rw [hnk]; decide)) (by decide) (by decide) k_) ?_
      show OEndsW p e below s _ _ _ (T55.setTop (mkF m 149 #[vI u0, vI u1, vI u2, vI u3, vI nn, vR b1, vR b6, vR b11, vI tt, .val tv, vR b53, uN, uN, uN, uN, uN, uN, uN, uN, uN, uN, uN, uN, uN, uN] []))
      exact tail149 _ F b53 dd (0 : Int32) [] (Or.inl ⟨hnk, rfl⟩) (fun _ _ q => by simp at q) hj0 hj1 hj2 (OHere.more H55 (by decide) (by decide))
    · refine OEndsW.pre (fun t_ k_ => XS.iload H55.here hx rfl (hb hby at_108) rfl k_) ?_
      show OEndsW p e below s _ _ _ (T55.setTop (mkF m 110 #[vI u0, vI u1, vI u2, vI u3, vI nn, vR b1, vR b6, vR b11, vI tt, .val tv, vR b53, uN, uN, uN, uN, uN, uN, uN, uN, uN, uN, uN, uN, uN, uN] [(.int nn)]))
      refine OEndsW.pre (fun t_ k_ => XS.ifNo H55.here hx rfl (hb hby at_110) rfl (XT.i0_le_f (by rw [hnk]; decide)) k_) ?_
      show OEndsW p e below s _ _ _ (T55.setTop (mkF m 113 #[vI u0, vI u1, vI u2, vI u3, vI nn, vR b1, vR b6, vR b11, vI tt, .val tv, vR b53, uN, uN, uN, uN, uN, uN, uN, uN, uN, uN, uN, uN, uN, uN] []))
      refine OEndsW.pre (fun t_ k_ => XS.aload H55.here hx rfl (hb hby at_113) rfl rfl k_) ?_
      show OEndsW p e below s _ _ _ (T55.setTop (mkF m 115 #[vI u0, vI u1, vI u2, vI u3, vI nn, vR b1, vR b6, vR b11, vI tt, .val tv, vR b53, uN, uN, uN, uN, uN, uN, uN, uN, uN, uN, uN, uN, uN, uN] [(.ref b53)]))
      refine OEndsW.pre (fun t_ k_ => XS.aload H55.here hx rfl (hb hby at_115) rfl rfl k_) ?_
      show OEndsW p e below s _ _ _ (T55.setTop (mkF m 117 #[vI u0, vI u1, vI u2, vI u3, vI nn, vR b1, vR b6, vR b11, vI tt, .val tv, vR b53, uN, uN, uN, uN, uN, uN, uN, uN, uN, uN, uN, uN, uN, uN] [(.ref b1), (.ref b53)]))
      obtain ⟨T57, _, _, ⟨bl56, rfl, rfl⟩, H57, st57⟩ := OHere.virtual H55 hx hZ14 (y := (⟨"java/util/ArrayList", "add", "(Ljava/lang/Object;)Z"⟩ : MethodName)) (z := (⟨"java/util/ArrayList", "add", "(Ljava/lang/Object;)Z"⟩ : MethodName)) (W := 0) (a := b53) (q := 0) (fs := [("java/util/AbstractList", "modCount", "I", (.int (0 : Int32))), ("java/util/ArrayList", "elementData", "[Ljava/lang/Object;", (.ref dd)), ("java/util/ArrayList", "size", "I", (.int (0 : Int32)))]) hown14 (tWd hw 56 rfl) (tWd hw 57 rfl) (nf_sel (tWd hw 59 rfl) rfl) (tWd hw 59 rfl) (tWd hw 58 rfl) (tWd hw 34 rfl) (tWd hw 60 rfl) (by decide) rfl (conA6_0 l Z a0 hw n0 [] b53 ([] ++ F) b1 f0 (List.mem_append_right _ hj0) dd hSt hDd) (by decide) (by decide) (pc := 117) (Ls := #[vI u0, vI u1, vI u2, vI u3, vI nn, vR b1, vR b6, vR b11, vI tt, .val tv, vR b53, uN, uN, uN, uN, uN, uN, uN, uN, uN, uN, uN, uN, uN, uN]) (argsL := [(.ref b1)]) (rest := []) (by rw [hml]; rfl) (lenOf pd_oLjava_lang_Object_cZ rfl) rfl (Nat.le_of_eq rfl) (hb hby at_117) (by decide) (by decide)
      replace H57 : OHere p l e _ (s.setVm T14.vm) m _ below meth c Z n0 ks14 T57 17 82 ([(eA bl56 (.object "java/lang/Object") [(.ref b1), .null, .null, .null, .null, .null, .null, .null, .null, .null]), (eO b53 "java/util/ArrayList" [("java/util/AbstractList", "modCount", "I", (.int (1 : Int32))), ("java/util/ArrayList", "elementData", "[Ljava/lang/Object;", (.ref bl56)), ("java/util/ArrayList", "size", "I", (.int (1 : Int32)))])] ++ F) := H57
      refine OEndsW.pre (fun t_ k_ => st57 _ k_) ?_
      show OEndsW p e below s _ _ _ (T57.setTop (mkF m 120 #[vI u0, vI u1, vI u2, vI u3, vI nn, vR b1, vR b6, vR b11, vI tt, .val tv, vR b53, uN, uN, uN, uN, uN, uN, uN, uN, uN, uN, uN, uN, uN, uN] [(.int (1 : Int32))]))
      refine OEndsW.pre (fun t_ k_ => XT.pop H57.here hx rfl (hb hby at_120) rfl rfl k_) ?_
      show OEndsW p e below s _ _ _ (T57.setTop (mkF m 121 #[vI u0, vI u1, vI u2, vI u3, vI nn, vR b1, vR b6, vR b11, vI tt, .val tv, vR b53, uN, uN, uN, uN, uN, uN, uN, uN, uN, uN, uN, uN, uN, uN] []))
      refine OEndsW.pre (fun t_ k_ => XS.iload H57.here hx rfl (hb hby at_121) rfl k_) ?_
      show OEndsW p e below s _ _ _ (T57.setTop (mkF m 123 #[vI u0, vI u1, vI u2, vI u3, vI nn, vR b1, vR b6, vR b11, vI tt, .val tv, vR b53, uN, uN, uN, uN, uN, uN, uN, uN, uN, uN, uN, uN, uN, uN] [(.int nn)]))
      refine OEndsW.pre (fun t_ k_ => XT.iconstV H57.here hx rfl (1 : Int32) (hb hby at_123) rfl k_) ?_
      show OEndsW p e below s _ _ _ (T57.setTop (mkF m 124 #[vI u0, vI u1, vI u2, vI u3, vI nn, vR b1, vR b6, vR b11, vI tt, .val tv, vR b53, uN, uN, uN, uN, uN, uN, uN, uN, uN, uN, uN, uN, uN, uN] [(.int (1 : Int32)), (.int nn)]))
      refine OEndsW.pre (fun t_ k_ => XS.icmpYes H57.here hx rfl (pc0 := 124) (pc' := 135) rfl (hb hby at_124) rfl (XT.ii_le_t (by rw [hnk]; decide)) (by decide) (by decide) k_) ?_
      show OEndsW p e below s _ _ _ (T57.setTop (mkF m 135 #[vI u0, vI u1, vI u2, vI u3, vI nn, vR b1, vR b6, vR b11, vI tt, .val tv, vR b53, uN, uN, uN, uN, uN, uN, uN, uN, uN, uN, uN, uN, uN, uN] []))
      refine OEndsW.pre (fun t_ k_ => XS.iload H57.here hx rfl (hb hby at_135) rfl k_) ?_
      show OEndsW p e below s _ _ _ (T57.setTop (mkF m 137 #[vI u0, vI u1, vI u2, vI u3, vI nn, vR b1, vR b6, vR b11, vI tt, .val tv, vR b53, uN, uN, uN, uN, uN, uN, uN, uN, uN, uN, uN, uN, uN, uN] [(.int nn)]))
      refine OEndsW.pre (fun t_ k_ => XT.iconstV H57.here hx rfl (2 : Int32) (hb hby at_137) rfl k_) ?_
      show OEndsW p e below s _ _ _ (T57.setTop (mkF m 138 #[vI u0, vI u1, vI u2, vI u3, vI nn, vR b1, vR b6, vR b11, vI tt, .val tv, vR b53, uN, uN, uN, uN, uN, uN, uN, uN, uN, uN, uN, uN, uN, uN] [(.int (2 : Int32)), (.int nn)]))
      refine OEndsW.pre (fun t_ k_ => XS.icmpYes H57.here hx rfl (pc0 := 138) (pc' := 149) rfl (hb hby at_138) rfl (XT.ii_le_t (by rw [hnk]; decide)) (by decide) (by decide) k_) ?_
      show OEndsW p e below s _ _ _ (T57.setTop (mkF m 149 #[vI u0, vI u1, vI u2, vI u3, vI nn, vR b1, vR b6, vR b11, vI tt, .val tv, vR b53, uN, uN, uN, uN, uN, uN, uN, uN, uN, uN, uN, uN, uN, uN] []))
      have HQ : OHere p l e room_1 (s.setVm T14.vm) m #[(.int u0), (.int u1), (.int u2), (.int u3)] below meth c Z n0 ks14 T57 17 82 ([(eO b53 "java/util/ArrayList" [("java/util/AbstractList", "modCount", "I", (.int (1 : Int32))), ("java/util/ArrayList", "elementData", "[Ljava/lang/Object;", (.ref bl56)), ("java/util/ArrayList", "size", "I", (.int (1 : Int32)))]), (eA bl56 (.object "java/lang/Object") [(.ref b1), .null, .null, .null, .null, .null, .null, .null, .null, .null])] ++ F) := OHere.pick H57 [1, 0] (by decide) rfl
      exact tail149 _ ([eA bl56 (.object "java/lang/Object") (([b1] : List Addr).map Value.ref ++ List.replicate (10 - ([b1] : List Addr).length) Value.null)] ++ F) b53 bl56 (1 : Int32) [b1] (Or.inr (Or.inl ⟨hnk, rfl⟩)) (hC_of (by simp)) (List.mem_append_right _ hj0) (List.mem_append_right _ hj1) (List.mem_append_right _ hj2) HQ
    · refine OEndsW.pre (fun t_ k_ => XS.iload H55.here hx rfl (hb hby at_108) rfl k_) ?_
      show OEndsW p e below s _ _ _ (T55.setTop (mkF m 110 #[vI u0, vI u1, vI u2, vI u3, vI nn, vR b1, vR b6, vR b11, vI tt, .val tv, vR b53, uN, uN, uN, uN, uN, uN, uN, uN, uN, uN, uN, uN, uN, uN] [(.int nn)]))
      refine OEndsW.pre (fun t_ k_ => XS.ifNo H55.here hx rfl (hb hby at_110) rfl (XT.i0_le_f (by rw [hnk]; decide)) k_) ?_
      show OEndsW p e below s _ _ _ (T55.setTop (mkF m 113 #[vI u0, vI u1, vI u2, vI u3, vI nn, vR b1, vR b6, vR b11, vI tt, .val tv, vR b53, uN, uN, uN, uN, uN, uN, uN, uN, uN, uN, uN, uN, uN, uN] []))
      refine OEndsW.pre (fun t_ k_ => XS.aload H55.here hx rfl (hb hby at_113) rfl rfl k_) ?_
      show OEndsW p e below s _ _ _ (T55.setTop (mkF m 115 #[vI u0, vI u1, vI u2, vI u3, vI nn, vR b1, vR b6, vR b11, vI tt, .val tv, vR b53, uN, uN, uN, uN, uN, uN, uN, uN, uN, uN, uN, uN, uN, uN] [(.ref b53)]))
      refine OEndsW.pre (fun t_ k_ => XS.aload H55.here hx rfl (hb hby at_115) rfl rfl k_) ?_
      show OEndsW p e below s _ _ _ (T55.setTop (mkF m 117 #[vI u0, vI u1, vI u2, vI u3, vI nn, vR b1, vR b6, vR b11, vI tt, .val tv, vR b53, uN, uN, uN, uN, uN, uN, uN, uN, uN, uN, uN, uN, uN, uN] [(.ref b1), (.ref b53)]))
      obtain ⟨T59, _, _, ⟨bl58, rfl, rfl⟩, H59, st59⟩ := OHere.virtual H55 hx hZ14 (y := (⟨"java/util/ArrayList", "add", "(Ljava/lang/Object;)Z"⟩ : MethodName)) (z := (⟨"java/util/ArrayList", "add", "(Ljava/lang/Object;)Z"⟩ : MethodName)) (W := 0) (a := b53) (q := 0) (fs := [("java/util/AbstractList", "modCount", "I", (.int (0 : Int32))), ("java/util/ArrayList", "elementData", "[Ljava/lang/Object;", (.ref dd)), ("java/util/ArrayList", "size", "I", (.int (0 : Int32)))]) hown14 (tWd hw 56 rfl) (tWd hw 57 rfl) (nf_sel (tWd hw 59 rfl) rfl) (tWd hw 59 rfl) (tWd hw 58 rfl) (tWd hw 34 rfl) (tWd hw 60 rfl) (by decide) rfl (conA6_0 l Z a0 hw n0 [] b53 ([] ++ F) b1 f0 (List.mem_append_right _ hj0) dd hSt hDd) (by decide) (by decide) (pc := 117) (Ls := #[vI u0, vI u1, vI u2, vI u3, vI nn, vR b1, vR b6, vR b11, vI tt, .val tv, vR b53, uN, uN, uN, uN, uN, uN, uN, uN, uN, uN, uN, uN, uN, uN]) (argsL := [(.ref b1)]) (rest := []) (by rw [hml]; rfl) (lenOf pd_oLjava_lang_Object_cZ rfl) rfl (Nat.le_of_eq rfl) (hb hby at_117) (by decide) (by decide)
      replace H59 : OHere p l e _ (s.setVm T14.vm) m _ below meth c Z n0 ks14 T59 17 82 ([(eA bl58 (.object "java/lang/Object") [(.ref b1), .null, .null, .null, .null, .null, .null, .null, .null, .null]), (eO b53 "java/util/ArrayList" [("java/util/AbstractList", "modCount", "I", (.int (1 : Int32))), ("java/util/ArrayList", "elementData", "[Ljava/lang/Object;", (.ref bl58)), ("java/util/ArrayList", "size", "I", (.int (1 : Int32)))])] ++ F) := H59
      refine OEndsW.pre (fun t_ k_ => st59 _ k_) ?_
      show OEndsW p e below s _ _ _ (T59.setTop (mkF m 120 #[vI u0, vI u1, vI u2, vI u3, vI nn, vR b1, vR b6, vR b11, vI tt, .val tv, vR b53, uN, uN, uN, uN, uN, uN, uN, uN, uN, uN, uN, uN, uN, uN] [(.int (1 : Int32))]))
      refine OEndsW.pre (fun t_ k_ => XT.pop H59.here hx rfl (hb hby at_120) rfl rfl k_) ?_
      show OEndsW p e below s _ _ _ (T59.setTop (mkF m 121 #[vI u0, vI u1, vI u2, vI u3, vI nn, vR b1, vR b6, vR b11, vI tt, .val tv, vR b53, uN, uN, uN, uN, uN, uN, uN, uN, uN, uN, uN, uN, uN, uN] []))
      refine OEndsW.pre (fun t_ k_ => XS.iload H59.here hx rfl (hb hby at_121) rfl k_) ?_
      show OEndsW p e below s _ _ _ (T59.setTop (mkF m 123 #[vI u0, vI u1, vI u2, vI u3, vI nn, vR b1, vR b6, vR b11, vI tt, .val tv, vR b53, uN, uN, uN, uN, uN, uN, uN, uN, uN, uN, uN, uN, uN, uN] [(.int nn)]))
      refine OEndsW.pre (fun t_ k_ => XT.iconstV H59.here hx rfl (1 : Int32) (hb hby at_123) rfl k_) ?_
      show OEndsW p e below s _ _ _ (T59.setTop (mkF m 124 #[vI u0, vI u1, vI u2, vI u3, vI nn, vR b1, vR b6, vR b11, vI tt, .val tv, vR b53, uN, uN, uN, uN, uN, uN, uN, uN, uN, uN, uN, uN, uN, uN] [(.int (1 : Int32)), (.int nn)]))
      refine OEndsW.pre (fun t_ k_ => XS.icmpNo H59.here hx rfl (hb hby at_124) rfl (XT.ii_le_f (by rw [hnk]; decide)) k_) ?_
      show OEndsW p e below s _ _ _ (T59.setTop (mkF m 127 #[vI u0, vI u1, vI u2, vI u3, vI nn, vR b1, vR b6, vR b11, vI tt, .val tv, vR b53, uN, uN, uN, uN, uN, uN, uN, uN, uN, uN, uN, uN, uN, uN] []))
      refine OEndsW.pre (fun t_ k_ => XS.aload H59.here hx rfl (hb hby at_127) rfl rfl k_) ?_
      show OEndsW p e below s _ _ _ (T59.setTop (mkF m 129 #[vI u0, vI u1, vI u2, vI u3, vI nn, vR b1, vR b6, vR b11, vI tt, .val tv, vR b53, uN, uN, uN, uN, uN, uN, uN, uN, uN, uN, uN, uN, uN, uN] [(.ref b53)]))
      refine OEndsW.pre (fun t_ k_ => XS.aload H59.here hx rfl (hb hby at_129) rfl rfl k_) ?_
      show OEndsW p e below s _ _ _ (T59.setTop (mkF m 131 #[vI u0, vI u1, vI u2, vI u3, vI nn, vR b1, vR b6, vR b11, vI tt, .val tv, vR b53, uN, uN, uN, uN, uN, uN, uN, uN, uN, uN, uN, uN, uN, uN] [(.ref b6), (.ref b53)]))
      have Hp61 : OHere p l e _ (s.setVm T14.vm) m _ below meth c Z n0 ks14 T59 17 82 ([(eO b53 "java/util/ArrayList" [("java/util/AbstractList", "modCount", "I", (.int (1 : Int32))), ("java/util/ArrayList", "elementData", "[Ljava/lang/Object;", (.ref bl58)), ("java/util/ArrayList", "size", "I", (.int (1 : Int32)))]), (eA bl58 (.object "java/lang/Object") [(.ref b1), .null, .null, .null, .null, .null, .null, .null, .null, .null])] ++ F) := OHere.pick H59 [1, 0] (by decide) rfl
      obtain ⟨T62, _, _, ⟨rfl, rfl⟩, H62, st62⟩ := OHere.virtual Hp61 hx hZ14 (y := (⟨"java/util/ArrayList", "add", "(Ljava/lang/Object;)Z"⟩ : MethodName)) (z := (⟨"java/util/ArrayList", "add", "(Ljava/lang/Object;)Z"⟩ : MethodName)) (W := 0) (a := b53) (q := 0) (fs := [("java/util/AbstractList", "modCount", "I", (.int (1 : Int32))), ("java/util/ArrayList", "elementData", "[Ljava/lang/Object;", (.ref bl58)), ("java/util/ArrayList", "size", "I", (.int (1 : Int32)))]) hown14 (tWd hw 56 rfl) (tWd hw 57 rfl) (nf_sel (tWd hw 59 rfl) rfl) (tWd hw 59 rfl) (tWd hw 58 rfl) (tWd hw 34 rfl) (tWd hw 60 rfl) (by decide) rfl (conA6_1 l Z a0 hw n0 [] b53 ([] ++ F) b6 f1 (List.mem_append_right _ hj1) bl58 b1 dd hSt hDd) (by decide) (by decide) (pc := 131) (Ls := #[vI u0, vI u1, vI u2, vI u3, vI nn, vR b1, vR b6, vR b11, vI tt, .val tv, vR b53, uN, uN, uN, uN, uN, uN, uN, uN, uN, uN, uN, uN, uN, uN]) (argsL := [(.ref b6)]) (rest := []) (by rw [hml]; rfl) (lenOf pd_oLjava_lang_Object_cZ rfl) rfl (Nat.le_of_eq rfl) (hb hby at_131) (by decide) (by decide)
      replace H62 : OHere p l e _ (s.setVm T14.vm) m _ below meth c Z n0 ks14 T62 17 82 ([(eO b53 "java/util/ArrayList" [("java/util/AbstractList", "modCount", "I", (.int (2 : Int32))), ("java/util/ArrayList", "elementData", "[Ljava/lang/Object;", (.ref bl58)), ("java/util/ArrayList", "size", "I", (.int (2 : Int32)))]), (eA bl58 (.object "java/lang/Object") [(.ref b1), (.ref b6), .null, .null, .null, .null, .null, .null, .null, .null])] ++ F) := H62
      refine OEndsW.pre (fun t_ k_ => st62 _ k_) ?_
      show OEndsW p e below s _ _ _ (T62.setTop (mkF m 134 #[vI u0, vI u1, vI u2, vI u3, vI nn, vR b1, vR b6, vR b11, vI tt, .val tv, vR b53, uN, uN, uN, uN, uN, uN, uN, uN, uN, uN, uN, uN, uN, uN] [(.int (1 : Int32))]))
      refine OEndsW.pre (fun t_ k_ => XT.pop H62.here hx rfl (hb hby at_134) rfl rfl k_) ?_
      show OEndsW p e below s _ _ _ (T62.setTop (mkF m 135 #[vI u0, vI u1, vI u2, vI u3, vI nn, vR b1, vR b6, vR b11, vI tt, .val tv, vR b53, uN, uN, uN, uN, uN, uN, uN, uN, uN, uN, uN, uN, uN, uN] []))
      refine OEndsW.pre (fun t_ k_ => XS.iload H62.here hx rfl (hb hby at_135) rfl k_) ?_
      show OEndsW p e below s _ _ _ (T62.setTop (mkF m 137 #[vI u0, vI u1, vI u2, vI u3, vI nn, vR b1, vR b6, vR b11, vI tt, .val tv, vR b53, uN, uN, uN, uN, uN, uN, uN, uN, uN, uN, uN, uN, uN, uN] [(.int nn)]))
      refine OEndsW.pre (fun t_ k_ => XT.iconstV H62.here hx rfl (2 : Int32) (hb hby at_137) rfl k_) ?_
      show OEndsW p e below s _ _ _ (T62.setTop (mkF m 138 #[vI u0, vI u1, vI u2, vI u3, vI nn, vR b1, vR b6, vR b11, vI tt, .val tv, vR b53, uN, uN, uN, uN, uN, uN, uN, uN, uN, uN, uN, uN, uN, uN] [(.int (2 : Int32)), (.int nn)]))
      refine OEndsW.pre (fun t_ k_ => XS.icmpYes H62.here hx rfl (pc0 := 138) (pc' := 149) rfl (hb hby at_138) rfl (XT.ii_le_t (by rw [hnk]; decide)) (by decide) (by decide) k_) ?_
      show OEndsW p e below s _ _ _ (T62.setTop (mkF m 149 #[vI u0, vI u1, vI u2, vI u3, vI nn, vR b1, vR b6, vR b11, vI tt, .val tv, vR b53, uN, uN, uN, uN, uN, uN, uN, uN, uN, uN, uN, uN, uN, uN] []))
      have HQ : OHere p l e room_1 (s.setVm T14.vm) m #[(.int u0), (.int u1), (.int u2), (.int u3)] below meth c Z n0 ks14 T62 17 82 ([(eO b53 "java/util/ArrayList" [("java/util/AbstractList", "modCount", "I", (.int (2 : Int32))), ("java/util/ArrayList", "elementData", "[Ljava/lang/Object;", (.ref bl58)), ("java/util/ArrayList", "size", "I", (.int (2 : Int32)))]), (eA bl58 (.object "java/lang/Object") [(.ref b1), (.ref b6), .null, .null, .null, .null, .null, .null, .null, .null])] ++ F) := OHere.pick H62 [0, 1] (by decide) rfl
      exact tail149 _ ([eA bl58 (.object "java/lang/Object") (([b1, b6] : List Addr).map Value.ref ++ List.replicate (10 - ([b1, b6] : List Addr).length) Value.null)] ++ F) b53 bl58 (2 : Int32) [b1, b6] (Or.inr (Or.inr (Or.inl ⟨hnk, rfl⟩))) (hC_of (by simp)) (List.mem_append_right _ hj0) (List.mem_append_right _ hj1) (List.mem_append_right _ hj2) HQ
    · refine OEndsW.pre (fun t_ k_ => XS.iload H55.here hx rfl (hb hby at_108) rfl k_) ?_
      show OEndsW p e below s _ _ _ (T55.setTop (mkF m 110 #[vI u0, vI u1, vI u2, vI u3, vI nn, vR b1, vR b6, vR b11, vI tt, .val tv, vR b53, uN, uN, uN, uN, uN, uN, uN, uN, uN, uN, uN, uN, uN, uN] [(.int nn)]))
      refine OEndsW.pre (fun t_ k_ => XS.ifNo H55.here hx rfl (hb hby at_110) rfl (XT.i0_le_f (by rw [hnk]; decide)) k_) ?_
      show OEndsW p e below s _ _ _ (T55.setTop (mkF m 113 #[vI u0, vI u1, vI u2, vI u3, vI nn, vR b1, vR b6, vR b11, vI tt, .val tv, vR b53, uN, uN, uN, uN, uN, uN, uN, uN, uN, uN, uN, uN, uN, uN] []))
      refine OEndsW.pre (fun t_ k_ => XS.aload H55.here hx rfl (hb hby at_113) rfl rfl k_) ?_
      show OEndsW p e below s _ _ _ (T55.setTop (mkF m 115 #[vI u0, vI u1, vI u2, vI u3, vI nn, vR b1, vR b6, vR b11, vI tt, .val tv, vR b53, uN, uN, uN, uN, uN, uN, uN, uN, uN, uN, uN, uN, uN, uN] [(.ref b53)]))
      refine OEndsW.pre (fun t_ k_ => XS.aload H55.here hx rfl (hb hby at_115) rfl rfl k_) ?_
      show OEndsW p e below s _ _ _ (T55.setTop (mkF m 117 #[vI u0, vI u1, vI u2, vI u3, vI nn, vR b1, vR b6, vR b11, vI tt, .val tv, vR b53, uN, uN, uN, uN, uN, uN, uN, uN, uN, uN, uN, uN, uN, uN] [(.ref b1), (.ref b53)]))
      obtain ⟨T64, _, _, ⟨bl63, rfl, rfl⟩, H64, st64⟩ := OHere.virtual H55 hx hZ14 (y := (⟨"java/util/ArrayList", "add", "(Ljava/lang/Object;)Z"⟩ : MethodName)) (z := (⟨"java/util/ArrayList", "add", "(Ljava/lang/Object;)Z"⟩ : MethodName)) (W := 0) (a := b53) (q := 0) (fs := [("java/util/AbstractList", "modCount", "I", (.int (0 : Int32))), ("java/util/ArrayList", "elementData", "[Ljava/lang/Object;", (.ref dd)), ("java/util/ArrayList", "size", "I", (.int (0 : Int32)))]) hown14 (tWd hw 56 rfl) (tWd hw 57 rfl) (nf_sel (tWd hw 59 rfl) rfl) (tWd hw 59 rfl) (tWd hw 58 rfl) (tWd hw 34 rfl) (tWd hw 60 rfl) (by decide) rfl (conA6_0 l Z a0 hw n0 [] b53 ([] ++ F) b1 f0 (List.mem_append_right _ hj0) dd hSt hDd) (by decide) (by decide) (pc := 117) (Ls := #[vI u0, vI u1, vI u2, vI u3, vI nn, vR b1, vR b6, vR b11, vI tt, .val tv, vR b53, uN, uN, uN, uN, uN, uN, uN, uN, uN, uN, uN, uN, uN, uN]) (argsL := [(.ref b1)]) (rest := []) (by rw [hml]; rfl) (lenOf pd_oLjava_lang_Object_cZ rfl) rfl (Nat.le_of_eq rfl) (hb hby at_117) (by decide) (by decide)
      replace H64 : OHere p l e _ (s.setVm T14.vm) m _ below meth c Z n0 ks14 T64 17 82 ([(eA bl63 (.object "java/lang/Object") [(.ref b1), .null, .null, .null, .null, .null, .null, .null, .null, .null]), (eO b53 "java/util/ArrayList" [("java/util/AbstractList", "modCount", "I", (.int (1 : Int32))), ("java/util/ArrayList", "elementData", "[Ljava/lang/Object;", (.ref bl63)), ("java/util/ArrayList", "size", "I", (.int (1 : Int32)))])] ++ F) := H64
      refine OEndsW.pre (fun t_ k_ => st64 _ k_) ?_
      show OEndsW p e below s _ _ _ (T64.setTop (mkF m 120 #[vI u0, vI u1, vI u2, vI u3, vI nn, vR b1, vR b6, vR b11, vI tt, .val tv, vR b53, uN, uN, uN, uN, uN, uN, uN, uN, uN, uN, uN, uN, uN, uN] [(.int (1 : Int32))]))
      refine OEndsW.pre (fun t_ k_ => XT.pop H64.here hx rfl (hb hby at_120) rfl rfl k_) ?_
      show OEndsW p e below s _ _ _ (T64.setTop (mkF m 121 #[vI u0, vI u1, vI u2, vI u3, vI nn, vR b1, vR b6, vR b11, vI tt, .val tv, vR b53, uN, uN, uN, uN, uN, uN, uN, uN, uN, uN, uN, uN, uN, uN] []))
      refine OEndsW.pre (fun t_ k_ => XS.iload H64.here hx rfl (hb hby at_121) rfl k_) ?_
      show OEndsW p e below s _ _ _ (T64.setTop (mkF m 123 #[vI u0, vI u1, vI u2, vI u3, vI nn, vR b1, vR b6, vR b11, vI tt, .val tv, vR b53, uN, uN, uN, uN, uN, uN, uN, uN, uN, uN, uN, uN, uN, uN] [(.int nn)]))
      refine OEndsW.pre (fun t_ k_ => XT.iconstV H64.here hx rfl (1 : Int32) (hb hby at_123) rfl k_) ?_
      show OEndsW p e below s _ _ _ (T64.setTop (mkF m 124 #[vI u0, vI u1, vI u2, vI u3, vI nn, vR b1, vR b6, vR b11, vI tt, .val tv, vR b53, uN, uN, uN, uN, uN, uN, uN, uN, uN, uN, uN, uN, uN, uN] [(.int (1 : Int32)), (.int nn)]))
      refine OEndsW.pre (fun t_ k_ => XS.icmpNo H64.here hx rfl (hb hby at_124) rfl (XT.ii_le_f (by rw [hnk]; decide)) k_) ?_
      show OEndsW p e below s _ _ _ (T64.setTop (mkF m 127 #[vI u0, vI u1, vI u2, vI u3, vI nn, vR b1, vR b6, vR b11, vI tt, .val tv, vR b53, uN, uN, uN, uN, uN, uN, uN, uN, uN, uN, uN, uN, uN, uN] []))
      refine OEndsW.pre (fun t_ k_ => XS.aload H64.here hx rfl (hb hby at_127) rfl rfl k_) ?_
      show OEndsW p e below s _ _ _ (T64.setTop (mkF m 129 #[vI u0, vI u1, vI u2, vI u3, vI nn, vR b1, vR b6, vR b11, vI tt, .val tv, vR b53, uN, uN, uN, uN, uN, uN, uN, uN, uN, uN, uN, uN, uN, uN] [(.ref b53)]))
      refine OEndsW.pre (fun t_ k_ => XS.aload H64.here hx rfl (hb hby at_129) rfl rfl k_) ?_
      show OEndsW p e below s _ _ _ (T64.setTop (mkF m 131 #[vI u0, vI u1, vI u2, vI u3, vI nn, vR b1, vR b6, vR b11, vI tt, .val tv, vR b53, uN, uN, uN, uN, uN, uN, uN, uN, uN, uN, uN, uN, uN, uN] [(.ref b6), (.ref b53)]))
      have Hp66 : OHere p l e _ (s.setVm T14.vm) m _ below meth c Z n0 ks14 T64 17 82 ([(eO b53 "java/util/ArrayList" [("java/util/AbstractList", "modCount", "I", (.int (1 : Int32))), ("java/util/ArrayList", "elementData", "[Ljava/lang/Object;", (.ref bl63)), ("java/util/ArrayList", "size", "I", (.int (1 : Int32)))]), (eA bl63 (.object "java/lang/Object") [(.ref b1), .null, .null, .null, .null, .null, .null, .null, .null, .null])] ++ F) := OHere.pick H64 [1, 0] (by decide) rfl
      obtain ⟨T67, _, _, ⟨rfl, rfl⟩, H67, st67⟩ := OHere.virtual Hp66 hx hZ14 (y := (⟨"java/util/ArrayList", "add", "(Ljava/lang/Object;)Z"⟩ : MethodName)) (z := (⟨"java/util/ArrayList", "add", "(Ljava/lang/Object;)Z"⟩ : MethodName)) (W := 0) (a := b53) (q := 0) (fs := [("java/util/AbstractList", "modCount", "I", (.int (1 : Int32))), ("java/util/ArrayList", "elementData", "[Ljava/lang/Object;", (.ref bl63)), ("java/util/ArrayList", "size", "I", (.int (1 : Int32)))]) hown14 (tWd hw 56 rfl) (tWd hw 57 rfl) (nf_sel (tWd hw 59 rfl) rfl) (tWd hw 59 rfl) (tWd hw 58 rfl) (tWd hw 34 rfl) (tWd hw 60 rfl) (by decide) rfl (conA6_1 l Z a0 hw n0 [] b53 ([] ++ F) b6 f1 (List.mem_append_right _ hj1) bl63 b1 dd hSt hDd) (by decide) (by decide) (pc := 131) (Ls := #[vI u0, vI u1, vI u2, vI u3, vI nn, vR b1, vR b6, vR b11, vI tt, .val tv, vR b53, uN, uN, uN, uN, uN, uN, uN, uN, uN, uN, uN, uN, uN, uN]) (argsL := [(.ref b6)]) (rest := []) (by rw [hml]; rfl) (lenOf pd_oLjava_lang_Object_cZ rfl) rfl (Nat.le_of_eq rfl) (hb hby at_131) (by decide) (by decide)
      replace H67 : OHere p l e _ (s.setVm T14.vm) m _ below meth c Z n0 ks14 T67 17 82 ([(eO b53 "java/util/ArrayList" [("java/util/AbstractList", "modCount", "I", (.int (2 : Int32))), ("java/util/ArrayList", "elementData", "[Ljava/lang/Object;", (.ref bl63)), ("java/util/ArrayList", "size", "I", (.int (2 : Int32)))]), (eA bl63 (.object "java/lang/Object") [(.ref b1), (.ref b6), .null, .null, .null, .null, .null, .null, .null, .null])] ++ F) := H67
      refine OEndsW.pre (fun t_ k_ => st67 _ k_) ?_
      show OEndsW p e below s _ _ _ (T67.setTop (mkF m 134 #[vI u0, vI u1, vI u2, vI u3, vI nn, vR b1, vR b6, vR b11, vI tt, .val tv, vR b53, uN, uN, uN, uN, uN, uN, uN, uN, uN, uN, uN, uN, uN, uN] [(.int (1 : Int32))]))
      refine OEndsW.pre (fun t_ k_ => XT.pop H67.here hx rfl (hb hby at_134) rfl rfl k_) ?_
      show OEndsW p e below s _ _ _ (T67.setTop (mkF m 135 #[vI u0, vI u1, vI u2, vI u3, vI nn, vR b1, vR b6, vR b11, vI tt, .val tv, vR b53, uN, uN, uN, uN, uN, uN, uN, uN, uN, uN, uN, uN, uN, uN] []))
      refine OEndsW.pre (fun t_ k_ => XS.iload H67.here hx rfl (hb hby at_135) rfl k_) ?_
      show OEndsW p e below s _ _ _ (T67.setTop (mkF m 137 #[vI u0, vI u1, vI u2, vI u3, vI nn, vR b1, vR b6, vR b11, vI tt, .val tv, vR b53, uN, uN, uN, uN, uN, uN, uN, uN, uN, uN, uN, uN, uN, uN] [(.int nn)]))
      refine OEndsW.pre (fun t_ k_ => XT.iconstV H67.here hx rfl (2 : Int32) (hb hby at_137) rfl k_) ?_
      show OEndsW p e below s _ _ _ (T67.setTop (mkF m 138 #[vI u0, vI u1, vI u2, vI u3, vI nn, vR b1, vR b6, vR b11, vI tt, .val tv, vR b53, uN, uN, uN, uN, uN, uN, uN, uN, uN, uN, uN, uN, uN, uN] [(.int (2 : Int32)), (.int nn)]))
      refine OEndsW.pre (fun t_ k_ => XS.icmpNo H67.here hx rfl (hb hby at_138) rfl (XT.ii_le_f (by rw [hnk]; decide)) k_) ?_
      show OEndsW p e below s _ _ _ (T67.setTop (mkF m 141 #[vI u0, vI u1, vI u2, vI u3, vI nn, vR b1, vR b6, vR b11, vI tt, .val tv, vR b53, uN, uN, uN, uN, uN, uN, uN, uN, uN, uN, uN, uN, uN, uN] []))
      refine OEndsW.pre (fun t_ k_ => XS.aload H67.here hx rfl (hb hby at_141) rfl rfl k_) ?_
      show OEndsW p e below s _ _ _ (T67.setTop (mkF m 143 #[vI u0, vI u1, vI u2, vI u3, vI nn, vR b1, vR b6, vR b11, vI tt, .val tv, vR b53, uN, uN, uN, uN, uN, uN, uN, uN, uN, uN, uN, uN, uN, uN] [(.ref b53)]))
      refine OEndsW.pre (fun t_ k_ => XS.aload H67.here hx rfl (hb hby at_143) rfl rfl k_) ?_
      show OEndsW p e below s _ _ _ (T67.setTop (mkF m 145 #[vI u0, vI u1, vI u2, vI u3, vI nn, vR b1, vR b6, vR b11, vI tt, .val tv, vR b53, uN, uN, uN, uN, uN, uN, uN, uN, uN, uN, uN, uN, uN, uN] [(.ref b11), (.ref b53)]))
      obtain ⟨T69, _, _, ⟨rfl, rfl⟩, H69, st69⟩ := OHere.virtual H67 hx hZ14 (y := (⟨"java/util/ArrayList", "add", "(Ljava/lang/Object;)Z"⟩ : MethodName)) (z := (⟨"java/util/ArrayList", "add", "(Ljava/lang/Object;)Z"⟩ : MethodName)) (W := 0) (a := b53) (q := 0) (fs := [("java/util/AbstractList", "modCount", "I", (.int (2 : Int32))), ("java/util/ArrayList", "elementData", "[Ljava/lang/Object;", (.ref bl63)), ("java/util/ArrayList", "size", "I", (.int (2 : Int32)))]) hown14 (tWd hw 56 rfl) (tWd hw 57 rfl) (nf_sel (tWd hw 59 rfl) rfl) (tWd hw 59 rfl) (tWd hw 58 rfl) (tWd hw 34 rfl) (tWd hw 60 rfl) (by decide) rfl (conA6_2 l Z a0 hw n0 [] b53 ([] ++ F) b11 f2 (List.mem_append_right _ hj2) bl63 b1 b6 dd hSt hDd) (by decide) (by decide) (pc := 145) (Ls := #[vI u0, vI u1, vI u2, vI u3, vI nn, vR b1, vR b6, vR b11, vI tt, .val tv, vR b53, uN, uN, uN, uN, uN, uN, uN, uN, uN, uN, uN, uN, uN, uN]) (argsL := [(.ref b11)]) (rest := []) (by rw [hml]; rfl) (lenOf pd_oLjava_lang_Object_cZ rfl) rfl (Nat.le_of_eq rfl) (hb hby at_145) (by decide) (by decide)
      replace H69 : OHere p l e _ (s.setVm T14.vm) m _ below meth c Z n0 ks14 T69 17 82 ([(eO b53 "java/util/ArrayList" [("java/util/AbstractList", "modCount", "I", (.int (3 : Int32))), ("java/util/ArrayList", "elementData", "[Ljava/lang/Object;", (.ref bl63)), ("java/util/ArrayList", "size", "I", (.int (3 : Int32)))]), (eA bl63 (.object "java/lang/Object") [(.ref b1), (.ref b6), (.ref b11), .null, .null, .null, .null, .null, .null, .null])] ++ F) := H69
      refine OEndsW.pre (fun t_ k_ => st69 _ k_) ?_
      show OEndsW p e below s _ _ _ (T69.setTop (mkF m 148 #[vI u0, vI u1, vI u2, vI u3, vI nn, vR b1, vR b6, vR b11, vI tt, .val tv, vR b53, uN, uN, uN, uN, uN, uN, uN, uN, uN, uN, uN, uN, uN, uN] [(.int (1 : Int32))]))
      refine OEndsW.pre (fun t_ k_ => XT.pop H69.here hx rfl (hb hby at_148) rfl rfl k_) ?_
      show OEndsW p e below s _ _ _ (T69.setTop (mkF m 149 #[vI u0, vI u1, vI u2, vI u3, vI nn, vR b1, vR b6, vR b11, vI tt, .val tv, vR b53, uN, uN, uN, uN, uN, uN, uN, uN, uN, uN, uN, uN, uN, uN] []))
      have HQ : OHere p l e room_1 (s.setVm T14.vm) m #[(.int u0), (.int u1), (.int u2), (.int u3)] below meth c Z n0 ks14 T69 17 82 ([(eO b53 "java/util/ArrayList" [("java/util/AbstractList", "modCount", "I", (.int (3 : Int32))), ("java/util/ArrayList", "elementData", "[Ljava/lang/Object;", (.ref bl63)), ("java/util/ArrayList", "size", "I", (.int (3 : Int32)))]), (eA bl63 (.object "java/lang/Object") [(.ref b1), (.ref b6), (.ref b11), .null, .null, .null, .null, .null, .null, .null])] ++ F) := OHere.pick H69 [0, 1] (by decide) rfl
      exact tail149 _ ([eA bl63 (.object "java/lang/Object") (([b1, b6, b11] : List Addr).map Value.ref ++ List.replicate (10 - ([b1, b6, b11] : List Addr).length) Value.null)] ++ F) b53 bl63 (3 : Int32) [b1, b6, b11] (Or.inr (Or.inr (Or.inr ⟨hnk, rfl⟩))) (hC_of (by simp)) (List.mem_append_right _ hj0) (List.mem_append_right _ hj1) (List.mem_append_right _ hj2) HQ
  refine OEndsW.pre (fun t_ k_ => XS.iload HF.here hx rfl (hb hby at_64) rfl k_) ?_
  show OEndsW p e below s _ _ _ (T15.setTop (mkF m 66 #[vI u0, vI u1, vI u2, vI u3, vI nn, vR b1, vR b6, vR b11, vI tt, uN, uN, uN, uN, uN, uN, uN, uN, uN, uN, uN, uN, uN, uN, uN, uN] [(.int tt)]))
  by_cases c1 : tt = (0 : Int32)
  · refine OEndsW.pre (fun t_ k_ => XS.ifNo HF.here hx rfl (hb hby at_66) rfl (XT.i0_ne_f c1) k_) ?_
    show OEndsW p e below s _ _ _ (T15.setTop (mkF m 69 #[vI u0, vI u1, vI u2, vI u3, vI nn, vR b1, vR b6, vR b11, vI tt, uN, uN, uN, uN, uN, uN, uN, uN, uN, uN, uN, uN, uN, uN, uN, uN] []))
    refine OEndsW.pre (fun t_ k_ => XS.aload HF.here hx rfl (hb hby at_69) rfl rfl k_) ?_
    show OEndsW p e below s _ _ _ (T15.setTop (mkF m 71 #[vI u0, vI u1, vI u2, vI u3, vI nn, vR b1, vR b6, vR b11, vI tt, uN, uN, uN, uN, uN, uN, uN, uN, uN, uN, uN, uN, uN, uN, uN, uN] [(.ref b1)]))
    refine OEndsW.pre (fun t_ k_ => XS.goto HF.here hx rfl (pc0 := 71) (pc' := 97) rfl (hb hby at_71) (by decide) (by decide) k_) ?_
    show OEndsW p e below s _ _ _ (T15.setTop (mkF m 97 #[vI u0, vI u1, vI u2, vI u3, vI nn, vR b1, vR b6, vR b11, vI tt, uN, uN, uN, uN, uN, uN, uN, uN, uN, uN, uN, uN, uN, uN, uN, uN] [(.ref b1)]))
    exact tail97 (.ref b1) (Or.inl ⟨c1, rfl⟩)
  · refine OEndsW.pre (fun t_ k_ => XS.ifYes HF.here hx rfl (pc0 := 66) (pc' := 74) rfl (hb hby at_66) rfl (XT.i0_ne_t c1) (by decide) (by decide) k_) ?_
    show OEndsW p e below s _ _ _ (T15.setTop (mkF m 74 #[vI u0, vI u1, vI u2, vI u3, vI nn, vR b1, vR b6, vR b11, vI tt, uN, uN, uN, uN, uN, uN, uN, uN, uN, uN, uN, uN, uN, uN, uN, uN] []))
    refine OEndsW.pre (fun t_ k_ => XS.iload HF.here hx rfl (hb hby at_74) rfl k_) ?_
    show OEndsW p e below s _ _ _ (T15.setTop (mkF m 76 #[vI u0, vI u1, vI u2, vI u3, vI nn, vR b1, vR b6, vR b11, vI tt, uN, uN, uN, uN, uN, uN, uN, uN, uN, uN, uN, uN, uN, uN, uN, uN] [(.int tt)]))
    refine OEndsW.pre (fun t_ k_ => XT.iconstV HF.here hx rfl (1 : Int32) (hb hby at_76) rfl k_) ?_
    show OEndsW p e below s _ _ _ (T15.setTop (mkF m 77 #[vI u0, vI u1, vI u2, vI u3, vI nn, vR b1, vR b6, vR b11, vI tt, uN, uN, uN, uN, uN, uN, uN, uN, uN, uN, uN, uN, uN, uN, uN, uN] [(.int (1 : Int32)), (.int tt)]))
    by_cases c2 : tt = (1 : Int32)
    · refine OEndsW.pre (fun t_ k_ => XS.icmpNo HF.here hx rfl (hb hby at_77) rfl (XT.ii_ne_f c2) k_) ?_
      show OEndsW p e below s _ _ _ (T15.setTop (mkF m 80 #[vI u0, vI u1, vI u2, vI u3, vI nn, vR b1, vR b6, vR b11, vI tt, uN, uN, uN, uN, uN, uN, uN, uN, uN, uN, uN, uN, uN, uN, uN, uN] []))
      refine OEndsW.pre (fun t_ k_ => XS.aload HF.here hx rfl (hb hby at_80) rfl rfl k_) ?_
      show OEndsW p e below s _ _ _ (T15.setTop (mkF m 82 #[vI u0, vI u1, vI u2, vI u3, vI nn, vR b1, vR b6, vR b11, vI tt, uN, uN, uN, uN, uN, uN, uN, uN, uN, uN, uN, uN, uN, uN, uN, uN] [(.ref b6)]))
      refine OEndsW.pre (fun t_ k_ => XS.goto HF.here hx rfl (pc0 := 82) (pc' := 97) rfl (hb hby at_82) (by decide) (by decide) k_) ?_
      show OEndsW p e below s _ _ _ (T15.setTop (mkF m 97 #[vI u0, vI u1, vI u2, vI u3, vI nn, vR b1, vR b6, vR b11, vI tt, uN, uN, uN, uN, uN, uN, uN, uN, uN, uN, uN, uN, uN, uN, uN, uN] [(.ref b6)]))
      exact tail97 (.ref b6) (Or.inr (Or.inl ⟨c2, rfl⟩))
    · refine OEndsW.pre (fun t_ k_ => XS.icmpYes HF.here hx rfl (pc0 := 77) (pc' := 85) rfl (hb hby at_77) rfl (XT.ii_ne_t c2) (by decide) (by decide) k_) ?_
      show OEndsW p e below s _ _ _ (T15.setTop (mkF m 85 #[vI u0, vI u1, vI u2, vI u3, vI nn, vR b1, vR b6, vR b11, vI tt, uN, uN, uN, uN, uN, uN, uN, uN, uN, uN, uN, uN, uN, uN, uN, uN] []))
      refine OEndsW.pre (fun t_ k_ => XS.iload HF.here hx rfl (hb hby at_85) rfl k_) ?_
      show OEndsW p e below s _ _ _ (T15.setTop (mkF m 87 #[vI u0, vI u1, vI u2, vI u3, vI nn, vR b1, vR b6, vR b11, vI tt, uN, uN, uN, uN, uN, uN, uN, uN, uN, uN, uN, uN, uN, uN, uN, uN] [(.int tt)]))
      refine OEndsW.pre (fun t_ k_ => XT.iconstV HF.here hx rfl (2 : Int32) (hb hby at_87) rfl k_) ?_
      show OEndsW p e below s _ _ _ (T15.setTop (mkF m 88 #[vI u0, vI u1, vI u2, vI u3, vI nn, vR b1, vR b6, vR b11, vI tt, uN, uN, uN, uN, uN, uN, uN, uN, uN, uN, uN, uN, uN, uN, uN, uN] [(.int (2 : Int32)), (.int tt)]))
      by_cases c3 : tt = (2 : Int32)
      · refine OEndsW.pre (fun t_ k_ => XS.icmpNo HF.here hx rfl (hb hby at_88) rfl (XT.ii_ne_f c3) k_) ?_
        show OEndsW p e below s _ _ _ (T15.setTop (mkF m 91 #[vI u0, vI u1, vI u2, vI u3, vI nn, vR b1, vR b6, vR b11, vI tt, uN, uN, uN, uN, uN, uN, uN, uN, uN, uN, uN, uN, uN, uN, uN, uN] []))
        refine OEndsW.pre (fun t_ k_ => XS.aload HF.here hx rfl (hb hby at_91) rfl rfl k_) ?_
        show OEndsW p e below s _ _ _ (T15.setTop (mkF m 93 #[vI u0, vI u1, vI u2, vI u3, vI nn, vR b1, vR b6, vR b11, vI tt, uN, uN, uN, uN, uN, uN, uN, uN, uN, uN, uN, uN, uN, uN, uN, uN] [(.ref b11)]))
        refine OEndsW.pre (fun t_ k_ => XS.goto HF.here hx rfl (pc0 := 93) (pc' := 97) rfl (hb hby at_93) (by decide) (by decide) k_) ?_
        show OEndsW p e below s _ _ _ (T15.setTop (mkF m 97 #[vI u0, vI u1, vI u2, vI u3, vI nn, vR b1, vR b6, vR b11, vI tt, uN, uN, uN, uN, uN, uN, uN, uN, uN, uN, uN, uN, uN, uN, uN, uN] [(.ref b11)]))
        exact tail97 (.ref b11) (Or.inr (Or.inr (Or.inl ⟨c3, rfl⟩)))
      · refine OEndsW.pre (fun t_ k_ => XS.icmpYes HF.here hx rfl (pc0 := 88) (pc' := 96) rfl (hb hby at_88) rfl (XT.ii_ne_t c3) (by decide) (by decide) k_) ?_
        show OEndsW p e below s _ _ _ (T15.setTop (mkF m 96 #[vI u0, vI u1, vI u2, vI u3, vI nn, vR b1, vR b6, vR b11, vI tt, uN, uN, uN, uN, uN, uN, uN, uN, uN, uN, uN, uN, uN, uN, uN, uN] []))
        refine OEndsW.pre (fun t_ k_ => XS.aconstNull HF.here hx rfl (hb hby at_96) k_) ?_
        show OEndsW p e below s _ _ _ (T15.setTop (mkF m 97 #[vI u0, vI u1, vI u2, vI u3, vI nn, vR b1, vR b6, vR b11, vI tt, uN, uN, uN, uN, uN, uN, uN, uN, uN, uN, uN, uN, uN, uN, uN, uN] [.null]))
        exact tail97 .null (Or.inr (Or.inr (Or.inr ⟨((htt.resolve_left c1).resolve_left c2).resolve_left c3, rfl⟩)))

theorem dd_of {args : Array Value} {s : State} {t : Term} {C : String} (h : (Jvm.Cond.arrayOf t (.object C)).value args s none s [] = some true) (hl : (Jvm.Cond.eq (.length t) (.int 0)).value args s none s [] = some true) : ∃ a, t.eval args s none [] s = some (.ref a) ∧ OOldArr s a C 0 := by
  obtain ⟨a, ev⟩ := arr_v h
  obtain ⟨A, F⟩ := RoadKit.Arr.start ev h
  have hA : s.arrayAt? a = some A := IntBox.arrayAt_of F.1 F.2.1 F.2.2
  refine ⟨a, ev, A, F, ?_⟩
  by_cases q : A.slots.size < 2 ^ 31
  · have hv := len_f (args := args) (first := s) (o := none) (idx := []) (s := s) ev hA q
    have e : A.slots.size.toInt32 = 0 := by
      have h2 := hl
      have hz : (Term.int 0).eval args s none [] s = some (.int 0) := rfl
      simp only [Jvm.Cond.value, hv, hz] at h2
      simpa using h2
    have e2 := congrArg Int32.toInt e
    rw [show A.slots.size.toInt32 = Int32.ofNat A.slots.size from rfl, Int32.toInt_ofNat_of_lt q] at e2
    have : (0 : Int32).toInt = 0 := rfl
    omega
  · have hv : (Term.length t).eval args s none [] s = none := by simp [Term.eval, ev, hA]; omega
    simp [Jvm.Cond.value, hv] at hl
theorem wS_of {args : Array Value} {s : State} (hw : ∀ d ∈ tables_1, d.before args s = true) : ∀ a ∈ Bundle.stringAtoms, a.before args s = true := by
  intro a ha
  simp only [Bundle.stringAtoms, List.mem_cons, List.not_mem_nil, or_false] at ha
  rcases ha with rfl | rfl | rfl | rfl | rfl | rfl | rfl
  · exact hw _ (List.mem_of_getElem? (i := 4) rfl)
  · exact hw _ (List.mem_of_getElem? (i := 5) rfl)
  · exact hw _ (List.mem_of_getElem? (i := 6) rfl)
  · exact hw _ (List.mem_of_getElem? (i := 7) rfl)
  · exact hw _ (List.mem_of_getElem? (i := 8) rfl)
  · exact hw _ (List.mem_of_getElem? (i := 9) rfl)
  · exact hw _ (List.mem_of_getElem? (i := 10) rfl)
set_option maxRecDepth 65536 in
set_option maxHeartbeats 40000000 in
theorem comes_1 {Post : Tables → Env → Array Value → State → Outcome → State → Prop} (hpost : ∀ tb e args s v u, (limb_1_1.after args s (.returned v) u = true ∧ limb_1_2.after args s (.returned v) u = true ∧ True) → FramedW s (.returned v) u (Jvm.fieldLocs frame_1_writes args s ++ Jvm.arrayLocs frame_1_arrays args s ++ Jvm.staticLocs frame_1_statics s) 40 2368 → Post tb e args s (.returned v) u) :
    ArmFor flags0 classFile x code maxLocals ret World_1 tables_1 room_1 Calls_1 rest_1 Pre_1 Post := by
  intro l hfl _ _ p e ha hc hk s m args below hf hA hF happ hP
  obtain ⟨hcalls, hrest, hpre⟩ := hP
  obtain ⟨-, -, -, hnamed, -, -, -, hat⟩ := (Spec.applies_iff hf).mp happ
  obtain ⟨hg, hn⟩ := and_e (Cond.before_iff.mp (show (Jvm.Cond.and given_1 narrow_1).before args s = true from hpre))
  obtain ⟨g0, q0⟩ := and_e hg
  obtain ⟨g1, q1⟩ := and_e q0
  obtain ⟨g2, q2⟩ := and_e q1
  obtain ⟨g3, q3⟩ := and_e q2
  obtain ⟨w0, w1, w2, w3, rfl⟩ : ∃ w0 w1 w2 w3 : Value, args = #[w0, w1, w2, w3] := by
    have hs : args.size = 4 := by simpa [Cond.value, given_1] using g0
    obtain ⟨L⟩ := args
    match L, hs with
    | [w0, w1, w2, w3], _ => exact ⟨w0, w1, w2, w3, rfl⟩
  have hw := fun d (hd : d ∈ tables_1) => atoms_spec (ws := Jvm.Cond.code x code maxLocals ret :: tables_1) hat d (List.mem_cons_of_mem _ hd)
  obtain ⟨i0, j0⟩ := is_v g1
  obtain rfl : w0 = (.int i0) := Option.some.inj j0
  obtain ⟨i1, j1⟩ := is_v g2
  obtain rfl : w1 = (.int i1) := Option.some.inj j1
  obtain ⟨i2, j2⟩ := is_v g3
  obtain rfl : w2 = (.int i2) := Option.some.inj j2
  obtain ⟨i3, j3⟩ := is_v q3
  obtain rfl : w3 = (.int i3) := Option.some.inj j3
  have hr := Cond.before_iff.mp (show rest_1_c.before _ s = true from hrest)
  obtain ⟨r0, hr⟩ := and_e hr
  obtain ⟨r1, hr⟩ := and_e hr
  obtain ⟨r2, hr⟩ := and_e hr
  obtain ⟨r3, hr⟩ := and_e hr
  obtain ⟨r4, hr⟩ := and_e hr
  obtain ⟨r5, hr⟩ := and_e hr
  obtain ⟨r6, hr⟩ := and_e hr
  obtain ⟨r7, hr⟩ := and_e hr
  obtain ⟨r8, hr⟩ := and_e hr
  obtain ⟨dd, ev, hDd⟩ := dd_of r6 r8
  have hSt := Sta.start ev (Or.inr ⟨hw _ (List.mem_of_getElem? (i := 34) rfl), Cond.before_iff.mpr r2⟩)
  obtain ⟨n, o, h1, h2, h3, _, L, rfl, ⟨N, rfl⟩, hq⟩ := con0 l s _ hw s.heap.size tables_1 i0 i1 i2 i3 dd hSt hDd (wS_of hw) s.heap (OWorld.start s) p e ha hc hk s m _ below hf ((Spec.applies_iff_loose hf).mp happ).1 ⟨rfl, State.Warmed39.refl s, rfl⟩ trivial
  refine ⟨n, _, h1, h2, h3, hpost _ _ _ _ _ _ ⟨Cond.after_iff.mpr rfl, Cond.after_iff.mpr (eq_i res_at (Term.int_eval (1)) rfl), trivial⟩ ⟨hq.1, hq.2.1, hq.2.2.1, (hq.2.2.2.sift fun y hy => Or.inr (N y hy)).mono (by decide) (by decide)⟩⟩
theorem main_1_1 : Claimed_1_1 := comes_1 fun _ _ _ _ _ _ h hF => ⟨h.1, hF⟩
theorem main_1_2 : Claimed_1_2 := comes_1 fun _ _ _ _ _ _ h hF => ⟨h.2.1, hF⟩
end Jvm.Pilot.@@N@@
namespace Jvm.Pilot.@@N@@
open Jvm Jvm.ClassFile Sem Op Lib Jvm.Free Jvm.Stand Jvm.Pilot.@@N@@.Jvm.D
/-! MADE BY PROGRAM (witnessworld.py) out of the Statement's table words and the real class files: 30 classes; the members and pool entries that the words name. The judged class is class 1, her method 1. -/
namespace start1
open Jvm.ClassFile
def u (s : String) : CpInfo := .utf8 (stringToUtf16 s)
/-- a pool by its gaps: so many unusable entries, then the entry; so many at the end -/
def gap : Nat → List CpInfo → List CpInfo
  | 0, r => r
  | n + 1, r => .unusable :: gap n r
def poolList (es : List (Nat × CpInfo)) (last : Nat) : List CpInfo := es.foldr (fun e r => gap e.1 (e.2 :: r)) (gap last [])
def pool (es : List (Nat × CpInfo)) (last : Nat) : Array CpInfo := ⟨poolList es last⟩
def fileOf (pool : Array CpInfo) (this : Nat) (attrs : Array Attribute := #[]) (ms : Array MethodInfo := #[]) (fl : Nat := 33) (sup : Nat := 0) (ifs : Array Nat := #[]) (fds : Array FieldInfo := #[]) : ClassFile where
  minorVersion := 0
  majorVersion := 65
  constantPool := pool
  accessFlags := fl
  thisClass := this
  superClass := sup
  interfaces := ifs
  fields := fds
  methods := ms
  attributes := attrs
def plain (name : String) (sup : Option ClassId) : Class where
  name := name
  kind := .ordinary
  loader := none
  accessFlags := 33
  super := sup
  interfaces := #[]
  cf := none
  fields := #[]
  methods := #[]
  instanceTypes := #[]
  staticTypes := #[]
  resolved := #[]
  callSites := []
  init := .initialized
  statics := none
  mirror := none

def pool0 : Array CpInfo := pool [(5, u "<init>"), (0, u "()V"), (1, .class_ 10), (1, u "java/lang/Object"), (81, u "equals"), (0, u "(Ljava/lang/Object;)Z")] 30

def k0c0 : Code := { maxStack := 0, maxLocals := 1, code := object_method_1_code, exceptionTable := #[], attributes := #[] }
def k0m0 : Method := { name := "<init>", desc := "()V", sig := { parameters := [], returnType := none }, accessFlags := 1, code := some k0c0 }
def k0c1 : Code := { maxStack := 2, maxLocals := 2, code := object_method_4_code, exceptionTable := #[], attributes := #[] }
def k0m1 : Method := { name := "equals", desc := "(Ljava/lang/Object;)Z", sig := { parameters := [(.object "java/lang/Object")], returnType := some .boolean }, accessFlags := 1, code := some k0c1 }
/-- java/lang/Object -/
def k0 : Class := { plain "java/lang/Object" none with
  accessFlags := 33
  interfaces := #[]
  cf := some (fileOf pool0 8 #[] #[{ accessFlags := 1, nameIndex := 5, descriptorIndex := 6, attributes := #[] }, { accessFlags := 1, nameIndex := 92, descriptorIndex := 93, attributes := #[] }] 33 0 #[] #[])
  fields := #[]
  methods := #[k0m0, k0m1]
  instanceTypes := #[]
  staticTypes := #[]
  resolved := Array.replicate 124 none
  statics := none }

def pool1 : Array CpInfo := pool [(2, .class_ 4), (0, .nameAndType 5 6), (0, u "java/lang/Object"), (0, u "<init>"), (0, u "()V"), (0, .class_ 8), (0, u "com/example/deadletter/deadletter/job/Job"), (0, .string 10), (0, u "q"), (0, .string 12), (0, u "p"), (0, .methodref 7 14), (0, .nameAndType 5 15), (0, u "(Ljava/util/UUID;Ljava/lang/String;Ljava/lang/String;IIILjava/lang/String;)V"), (0, .class_ 17), (0, u "java/util/ArrayList"), (0, .methodref 16 3), (0, .methodref 16 20), (0, .nameAndType 21 22), (0, u "add"), (0, u "(Ljava/lang/Object;)Z"), (0, .class_ 24), (0, u "com/example/deadletter/deadletter/worker/WaitingJobs"), (0, .methodref 23 3), (0, .methodref 23 27), (0, .nameAndType 28 29), (0, u "size"), (0, u "()I"), (0, .methodref 23 31), (0, .nameAndType 21 32), (0, u "(Ljava/util/List;Ljava/util/Collection;Lcom/example/deadletter/deadletter/job/Job;)V"), (0, .methodref 23 34), (0, .nameAndType 35 36), (0, u "turnCome"), (0, u "(Lcom/example/deadletter/deadletter/job/Job;)V"), (0, .methodref 23 38), (0, .nameAndType 39 40), (0, u "take"), (0, u "()Lcom/example/deadletter/deadletter/job/Job;"), (0, .class_ 42), (0, u "com/example/deadletter/deadletter/worker/WaitingJobsSizePinLaw"), (2, u "law"), (0, u "(IIII)Z")] 3

def k1m0 : Method := { name := "<init>", desc := "()V", sig := { parameters := [], returnType := none }, accessFlags := 1, code := none }
def k1c1 : Code := { maxStack := 9, maxLocals := 25, code := code, exceptionTable := #[], attributes := #[] }
def k1m1 : Method := { name := "law", desc := "(IIII)Z", sig := { parameters := [.int, .int, .int, .int], returnType := some .boolean }, accessFlags := 9, code := some k1c1 }
/-- com/example/deadletter/deadletter/worker/WaitingJobsSizePinLaw -/
def k1 : Class := { plain "com/example/deadletter/deadletter/worker/WaitingJobsSizePinLaw" (some 0) with
  accessFlags := 49
  interfaces := #[]
  cf := some (fileOf pool1 41 #[] #[{ accessFlags := 1, nameIndex := 5, descriptorIndex := 6, attributes := #[] }, { accessFlags := 9, nameIndex := 45, descriptorIndex := 46, attributes := #[] }] 49 2 #[] #[])
  fields := #[]
  methods := #[k1m0, k1m1]
  instanceTypes := #[]
  staticTypes := #[]
  resolved := Array.replicate 50 none
  statics := none }

def pool2 : Array CpInfo := pool [(1, .methodref 2 3), (0, .class_ 4), (0, .nameAndType 5 6), (0, u "java/lang/Object"), (0, u "<init>"), (0, u "()V"), (0, .fieldref 8 9), (0, .class_ 10), (0, .nameAndType 11 12), (0, u "com/example/deadletter/deadletter/job/Job"), (0, u "id"), (0, u "Ljava/util/UUID;"), (0, .fieldref 8 14), (0, .nameAndType 15 16), (0, u "queue"), (0, u "Ljava/lang/String;"), (0, .fieldref 8 18), (0, .nameAndType 19 16), (0, u "payload"), (0, .fieldref 8 21), (0, .nameAndType 22 23), (0, u "attempt"), (0, u "I"), (0, .fieldref 8 25), (0, .nameAndType 26 23), (0, u "maxAttempts"), (0, .fieldref 8 28), (0, .nameAndType 29 23), (0, u "claim"), (0, .fieldref 8 31), (0, .nameAndType 32 16), (0, u "schedule"), (15, u "(Ljava/util/UUID;Ljava/lang/String;Ljava/lang/String;IIILjava/lang/String;)V")] 26

def k2c0 : Code := { maxStack := 2, maxLocals := 8, code := prog_8_method_1_code, exceptionTable := #[], attributes := #[] }
def k2m0 : Method := { name := "<init>", desc := "(Ljava/util/UUID;Ljava/lang/String;Ljava/lang/String;IIILjava/lang/String;)V", sig := { parameters := [(.object "java/util/UUID"), (.object "java/lang/String"), (.object "java/lang/String"), .int, .int, .int, (.object "java/lang/String")], returnType := none }, accessFlags := 1, code := some k2c0 }
/-- com/example/deadletter/deadletter/job/Job -/
def k2 : Class := { plain "com/example/deadletter/deadletter/job/Job" (some 0) with
  accessFlags := 33
  interfaces := #[]
  cf := some (fileOf pool2 8 #[] #[{ accessFlags := 1, nameIndex := 5, descriptorIndex := 48, attributes := #[] }] 33 2 #[] #[{ accessFlags := 18, nameIndex := 11, descriptorIndex := 12, attributes := #[] }, { accessFlags := 18, nameIndex := 15, descriptorIndex := 16, attributes := #[] }, { accessFlags := 18, nameIndex := 19, descriptorIndex := 16, attributes := #[] }, { accessFlags := 18, nameIndex := 22, descriptorIndex := 23, attributes := #[] }, { accessFlags := 18, nameIndex := 26, descriptorIndex := 23, attributes := #[] }, { accessFlags := 18, nameIndex := 29, descriptorIndex := 23, attributes := #[] }, { accessFlags := 18, nameIndex := 32, descriptorIndex := 16, attributes := #[] }])
  fields := #[{ name := "id", type := (.object "java/util/UUID"), accessFlags := 18, slot := 0, constantValue := 0 }, { name := "queue", type := (.object "java/lang/String"), accessFlags := 18, slot := 1, constantValue := 0 }, { name := "payload", type := (.object "java/lang/String"), accessFlags := 18, slot := 2, constantValue := 0 }, { name := "attempt", type := .int, accessFlags := 18, slot := 3, constantValue := 0 }, { name := "maxAttempts", type := .int, accessFlags := 18, slot := 4, constantValue := 0 }, { name := "claim", type := .int, accessFlags := 18, slot := 5, constantValue := 0 }, { name := "schedule", type := (.object "java/lang/String"), accessFlags := 18, slot := 6, constantValue := 0 }]
  methods := #[k2m0]
  instanceTypes := #[(.object "java/util/UUID"), (.object "java/lang/String"), (.object "java/lang/String"), .int, .int, .int, (.object "java/lang/String")]
  staticTypes := #[]
  resolved := Array.replicate 75 none
  statics := none }

def pool3 : Array CpInfo := pool [(1, .class_ 2), (0, u "java/io/Serializable"), (0, .class_ 4), (0, u "java/lang/Object")] 2

/-- java/io/Serializable -/
def k3 : Class := { plain "java/io/Serializable" (some 0) with
  accessFlags := 1537
  interfaces := #[]
  cf := some (fileOf pool3 1 #[] #[] 1537 3 #[] #[])
  fields := #[]
  methods := #[]
  instanceTypes := #[]
  staticTypes := #[]
  resolved := Array.replicate 7 none
  statics := none }

def pool4 : Array CpInfo := pool [(1, .class_ 2), (0, u "java/lang/Comparable"), (0, .class_ 4), (0, u "java/lang/Object")] 7

/-- java/lang/Comparable -/
def k4 : Class := { plain "java/lang/Comparable" (some 0) with
  accessFlags := 1537
  interfaces := #[]
  cf := some (fileOf pool4 1 #[] #[] 1537 3 #[] #[])
  fields := #[]
  methods := #[]
  instanceTypes := #[]
  staticTypes := #[]
  resolved := Array.replicate 12 none
  statics := none }

def pool5 : Array CpInfo := pool [(2, .class_ 4), (1, u "java/lang/CharSequence"), (42, .class_ 48), (0, u "java/lang/CharSequence$1CodePointIterator"), (10, .class_ 60), (0, u "java/lang/CharSequence$1CharIterator"), (5, .class_ 67), (0, u "java/lang/Object")] 63

/-- java/lang/CharSequence -/
def k5 : Class := { plain "java/lang/CharSequence" (some 0) with
  accessFlags := 1537
  interfaces := #[]
  cf := some (fileOf pool5 2 #[.nestMembers #[47, 59]] #[] 1537 66 #[] #[])
  fields := #[]
  methods := #[]
  instanceTypes := #[]
  staticTypes := #[]
  resolved := Array.replicate 131 none
  statics := none }

def pool6 : Array CpInfo := pool [(1, .class_ 2), (0, u "java/lang/constant/Constable"), (0, .class_ 4), (0, u "java/lang/Object")] 6

/-- java/lang/constant/Constable -/
def k6 : Class := { plain "java/lang/constant/Constable" (some 0) with
  accessFlags := 1537
  interfaces := #[]
  cf := some (fileOf pool6 1 #[] #[] 1537 3 #[] #[])
  fields := #[]
  methods := #[]
  instanceTypes := #[]
  staticTypes := #[]
  resolved := Array.replicate 11 none
  statics := none }

def pool7 : Array CpInfo := pool [(1, .class_ 2), (0, u "java/lang/constant/ConstantDesc"), (0, .class_ 4), (0, u "java/lang/Object")] 32

/-- java/lang/constant/ConstantDesc -/
def k7 : Class := { plain "java/lang/constant/ConstantDesc" (some 0) with
  accessFlags := 1537
  interfaces := #[]
  cf := some (fileOf pool7 1 #[] #[] 1537 3 #[] #[])
  fields := #[]
  methods := #[]
  instanceTypes := #[]
  staticTypes := #[]
  resolved := Array.replicate 37 none
  statics := none }

def pool8 : Array CpInfo := pool [(2, .class_ 4), (1, u "java/lang/Object"), (0, u "<init>"), (0, u "()V"), (3, .class_ 12), (1, u "java/lang/String"), (0, u "value"), (0, u "[B"), (2, u "coder"), (0, u "B"), (2, u "hash"), (0, u "I"), (2, u "hashIsZero"), (0, u "Z"), (13, u "COMPACT_STRINGS"), (534, .class_ 576), (0, u "java/lang/CharSequence"), (22, u "CASE_INSENSITIVE_ORDER"), (0, u "Ljava/util/Comparator;"), (500, u "serialPersistentFields"), (0, u "[Ljava/io/ObjectStreamField;"), (0, .class_ 1104), (0, u "java/lang/String$CaseInsensitiveComparator"), (1, .class_ 1107), (0, u "java/io/Serializable"), (0, .class_ 1109), (0, u "java/lang/Comparable"), (0, .class_ 1111), (0, u "java/lang/constant/Constable"), (0, .class_ 1113), (0, u "java/lang/constant/ConstantDesc"), (2, u "serialVersionUID"), (0, u "J"), (3, u "REPL"), (0, u "C"), (2, u "LATIN1"), (1, u "UTF16")] 323

def k8m0 : Method := { name := "<init>", desc := "()V", sig := { parameters := [], returnType := none }, accessFlags := 1, code := none }
/-- java/lang/String -/
def k8 : Class := { plain "java/lang/String" (some 0) with
  accessFlags := 49
  interfaces := #[3, 4, 5, 6, 7]
  cf := some (fileOf pool8 10 #[.nestMembers #[1103]] #[{ accessFlags := 1, nameIndex := 5, descriptorIndex := 6, attributes := #[] }] 49 2 #[1106, 1108, 575, 1110, 1112] #[{ accessFlags := 18, nameIndex := 13, descriptorIndex := 14, attributes := #[] }, { accessFlags := 18, nameIndex := 17, descriptorIndex := 18, attributes := #[] }, { accessFlags := 2, nameIndex := 21, descriptorIndex := 22, attributes := #[] }, { accessFlags := 2, nameIndex := 25, descriptorIndex := 26, attributes := #[] }, { accessFlags := 26, nameIndex := 1116, descriptorIndex := 1117, attributes := #[] }, { accessFlags := 24, nameIndex := 40, descriptorIndex := 26, attributes := #[] }, { accessFlags := 26, nameIndex := 1101, descriptorIndex := 1102, attributes := #[] }, { accessFlags := 26, nameIndex := 1121, descriptorIndex := 1122, attributes := #[] }, { accessFlags := 25, nameIndex := 599, descriptorIndex := 600, attributes := #[] }, { accessFlags := 24, nameIndex := 1125, descriptorIndex := 18, attributes := #[] }, { accessFlags := 24, nameIndex := 1127, descriptorIndex := 18, attributes := #[] }])
  fields := #[{ name := "value", type := (.array .byte), accessFlags := 18, slot := 0, constantValue := 0 }, { name := "coder", type := .byte, accessFlags := 18, slot := 1, constantValue := 0 }, { name := "hash", type := .int, accessFlags := 2, slot := 2, constantValue := 0 }, { name := "hashIsZero", type := .boolean, accessFlags := 2, slot := 3, constantValue := 0 }, { name := "serialVersionUID", type := .long, accessFlags := 26, slot := 0, constantValue := 0 }, { name := "COMPACT_STRINGS", type := .boolean, accessFlags := 24, slot := 1, constantValue := 0 }, { name := "serialPersistentFields", type := (.array (.object "java/io/ObjectStreamField")), accessFlags := 26, slot := 2, constantValue := 0 }, { name := "REPL", type := .char, accessFlags := 26, slot := 3, constantValue := 0 }, { name := "CASE_INSENSITIVE_ORDER", type := (.object "java/util/Comparator"), accessFlags := 25, slot := 4, constantValue := 0 }, { name := "LATIN1", type := .byte, accessFlags := 24, slot := 5, constantValue := 0 }, { name := "UTF16", type := .byte, accessFlags := 24, slot := 6, constantValue := 0 }]
  methods := #[k8m0]
  instanceTypes := #[(.array .byte), .byte, .int, .boolean]
  staticTypes := #[.long, .boolean, (.array (.object "java/io/ObjectStreamField")), .char, (.object "java/util/Comparator"), .byte, .byte]
  resolved := Array.replicate 1451 none
  statics := none }

def pool9 : Array CpInfo := pool [(8, .class_ 10), (1, u "java/lang/Iterable"), (24, .class_ 36), (0, u "java/lang/Object")] 25

/-- java/lang/Iterable -/
def k9 : Class := { plain "java/lang/Iterable" (some 0) with
  accessFlags := 1537
  interfaces := #[]
  cf := some (fileOf pool9 8 #[] #[] 1537 35 #[] #[])
  fields := #[]
  methods := #[]
  instanceTypes := #[]
  staticTypes := #[]
  resolved := Array.replicate 62 none
  statics := none }

def pool10 : Array CpInfo := pool [(10, .class_ 12), (1, u "java/util/Collection"), (27, u "(Ljava/lang/Object;)Z"), (19, .class_ 61), (0, u "java/lang/Object"), (0, .class_ 63), (0, u "java/lang/Iterable"), (3, u "contains")] 47

def k10m0 : Method := { name := "contains", desc := "(Ljava/lang/Object;)Z", sig := { parameters := [(.object "java/lang/Object")], returnType := some .boolean }, accessFlags := 1025, code := none }
/-- java/util/Collection -/
def k10 : Class := { plain "java/util/Collection" (some 0) with
  accessFlags := 1537
  interfaces := #[9]
  cf := some (fileOf pool10 10 #[] #[{ accessFlags := 1025, nameIndex := 67, descriptorIndex := 40, attributes := #[] }] 1537 60 #[62] #[])
  fields := #[]
  methods := #[k10m0]
  instanceTypes := #[]
  staticTypes := #[]
  resolved := Array.replicate 115 none
  statics := none }

def pool11 : Array CpInfo := pool [(1, .methodref 2 3), (0, .class_ 4), (0, .nameAndType 5 6), (0, u "java/lang/Object"), (0, u "<init>"), (0, u "()V"), (1, .class_ 10), (1, u "java/util/AbstractCollection"), (66, .class_ 78), (0, u "java/util/Collection")] 81

def k11c0 : Code := { maxStack := 1, maxLocals := 1, code := jdk_22_method_1_code, exceptionTable := #[], attributes := #[] }
def k11m0 : Method := { name := "<init>", desc := "()V", sig := { parameters := [], returnType := none }, accessFlags := 4, code := some k11c0 }
/-- java/util/AbstractCollection -/
def k11 : Class := { plain "java/util/AbstractCollection" (some 0) with
  accessFlags := 1057
  interfaces := #[10]
  cf := some (fileOf pool11 8 #[] #[{ accessFlags := 4, nameIndex := 5, descriptorIndex := 6, attributes := #[] }] 1057 2 #[77] #[])
  fields := #[]
  methods := #[k11m0]
  instanceTypes := #[]
  staticTypes := #[]
  resolved := Array.replicate 160 none
  statics := none }

def pool12 : Array CpInfo := pool [(8, .class_ 10), (1, u "java/util/SequencedCollection"), (15, .class_ 27), (0, u "java/lang/Object"), (0, .class_ 29), (0, u "java/util/Collection")] 27

/-- java/util/SequencedCollection -/
def k12 : Class := { plain "java/util/SequencedCollection" (some 0) with
  accessFlags := 1537
  interfaces := #[10]
  cf := some (fileOf pool12 8 #[] #[] 1537 26 #[28] #[])
  fields := #[]
  methods := #[]
  instanceTypes := #[]
  staticTypes := #[]
  resolved := Array.replicate 57 none
  statics := none }

def pool13 : Array CpInfo := pool [(8, .class_ 10), (1, u "java/util/List"), (92, .class_ 104), (0, u "java/lang/Object"), (15, .class_ 121), (0, u "java/util/SequencedCollection"), (1, u "iterator"), (0, u "()Ljava/util/Iterator;")] 126

def k13m0 : Method := { name := "iterator", desc := "()Ljava/util/Iterator;", sig := { parameters := [], returnType := some (.object "java/util/Iterator") }, accessFlags := 1025, code := none }
/-- java/util/List -/
def k13 : Class := { plain "java/util/List" (some 0) with
  accessFlags := 1537
  interfaces := #[12]
  cf := some (fileOf pool13 8 #[] #[{ accessFlags := 1025, nameIndex := 123, descriptorIndex := 124, attributes := #[] }] 1537 103 #[120] #[])
  fields := #[]
  methods := #[k13m0]
  instanceTypes := #[]
  staticTypes := #[]
  resolved := Array.replicate 251 none
  statics := none }

def pool14 : Array CpInfo := pool [(1, .methodref 2 3), (0, .class_ 4), (0, .nameAndType 5 6), (0, u "java/util/AbstractCollection"), (0, u "<init>"), (0, u "()V"), (0, .fieldref 8 9), (0, .class_ 10), (0, .nameAndType 11 12), (0, u "java/util/AbstractList"), (0, u "modCount"), (0, u "I"), (64, .class_ 78), (0, u "java/util/AbstractList$Itr"), (3, .class_ 83), (0, u "java/util/AbstractList$ListItr"), (9, .class_ 94), (0, u "java/util/AbstractList$RandomAccessSubList"), (3, .class_ 99), (0, u "java/util/AbstractList$SubList"), (33, .class_ 134), (0, u "java/util/List"), (73, .class_ 209), (0, u "java/util/AbstractList$SubList$1"), (0, .class_ 211), (0, u "java/util/AbstractList$RandomAccessSpliterator")] 6

def k14c0 : Code := { maxStack := 2, maxLocals := 1, code := jdk_39_method_1_code, exceptionTable := #[], attributes := #[] }
def k14m0 : Method := { name := "<init>", desc := "()V", sig := { parameters := [], returnType := none }, accessFlags := 4, code := some k14c0 }
/-- java/util/AbstractList -/
def k14 : Class := { plain "java/util/AbstractList" (some 11) with
  accessFlags := 1057
  interfaces := #[13]
  cf := some (fileOf pool14 8 #[.nestMembers #[93, 98, 208, 210, 82, 77]] #[{ accessFlags := 4, nameIndex := 5, descriptorIndex := 6, attributes := #[] }] 1057 2 #[133] #[{ accessFlags := 132, nameIndex := 11, descriptorIndex := 12, attributes := #[] }])
  fields := #[{ name := "modCount", type := .int, accessFlags := 132, slot := 0, constantValue := 0 }]
  methods := #[k14m0]
  instanceTypes := #[.int]
  staticTypes := #[]
  resolved := Array.replicate 218 none
  statics := none }

def pool15 : Array CpInfo := pool [(1, .class_ 2), (0, u "java/util/RandomAccess"), (0, .class_ 4), (0, u "java/lang/Object")] 2

/-- java/util/RandomAccess -/
def k15 : Class := { plain "java/util/RandomAccess" (some 0) with
  accessFlags := 1537
  interfaces := #[]
  cf := some (fileOf pool15 1 #[] #[] 1537 3 #[] #[])
  fields := #[]
  methods := #[]
  instanceTypes := #[]
  staticTypes := #[]
  resolved := Array.replicate 7 none
  statics := none }

def pool16 : Array CpInfo := pool [(1, .class_ 2), (0, u "java/lang/Cloneable"), (0, .class_ 4), (0, u "java/lang/Object")] 2

/-- java/lang/Cloneable -/
def k16 : Class := { plain "java/lang/Cloneable" (some 0) with
  accessFlags := 1537
  interfaces := #[]
  cf := some (fileOf pool16 1 #[] #[] 1537 3 #[] #[])
  fields := #[]
  methods := #[]
  instanceTypes := #[]
  staticTypes := #[]
  resolved := Array.replicate 7 none
  statics := none }

def pool17 : Array CpInfo := pool [(1, .methodref 2 3), (0, .class_ 4), (0, .nameAndType 5 6), (0, u "java/util/AbstractList"), (0, u "<init>"), (0, u "()V"), (0, .class_ 8), (0, u "java/lang/Object"), (0, .fieldref 10 11), (0, .class_ 12), (0, .nameAndType 13 14), (0, u "java/util/ArrayList"), (0, u "elementData"), (0, u "[Ljava/lang/Object;"), (2, u "EMPTY_ELEMENTDATA"), (21, .fieldref 10 40), (0, .nameAndType 41 14), (0, u "DEFAULTCAPACITY_EMPTY_ELEMENTDATA"), (5, u "()[Ljava/lang/Object;"), (0, .fieldref 10 49), (0, .nameAndType 50 51), (0, u "size"), (0, u "I"), (11, .fieldref 10 64), (0, .nameAndType 65 51), (0, u "modCount"), (3, .methodref 10 70), (0, .nameAndType 71 72), (0, u "grow"), (0, u "(I)[Ljava/lang/Object;"), (6, .methodref 80 81), (0, .class_ 82), (0, .nameAndType 83 84), (0, u "java/lang/Math"), (0, u "max"), (0, u "(II)I"), (0, .methodref 10 86), (0, .nameAndType 87 88), (0, u "indexOf"), (0, u "(Ljava/lang/Object;)I"), (0, .methodref 10 90), (0, .nameAndType 91 92), (0, u "indexOfRange"), (0, u "(Ljava/lang/Object;II)I"), (0, .methodref 7 94), (0, .nameAndType 95 96), (0, u "equals"), (0, u "(Ljava/lang/Object;)Z"), (32, .methodref 10 130), (0, .nameAndType 71 47), (0, .methodref 10 132), (0, .nameAndType 133 134), (0, u "add"), (0, u "(Ljava/lang/Object;[Ljava/lang/Object;I)V"), (13, .class_ 149), (0, u "java/util/List"), (16, u "iterator"), (0, u "()Ljava/util/Iterator;"), (51, u "contains"), (42, .class_ 263), (0, u "java/util/ArrayList$ListItr"), (3, .class_ 268), (0, u "java/util/ArrayList$Itr"), (0, .methodref 267 270), (0, .nameAndType 5 271), (0, u "(Ljava/util/ArrayList;)V"), (4, .class_ 277), (0, u "java/util/ArrayList$SubList"), (12, .class_ 291), (0, u "java/util/ArrayList$ArrayListSpliterator"), (37, .class_ 330), (0, u "java/util/RandomAccess"), (0, .class_ 332), (0, u "java/lang/Cloneable"), (0, .class_ 334), (0, u "java/io/Serializable"), (0, u "serialVersionUID"), (0, u "J"), (3, u "DEFAULT_CAPACITY"), (159, .class_ 501), (0, u "java/util/ArrayList$SubList$2"), (0, .class_ 503), (0, u "java/util/ArrayList$SubList$1")] 5

def k17c0 : Code := { maxStack := 2, maxLocals := 1, code := jdk_38_method_2_code, exceptionTable := #[], attributes := #[] }
def k17m0 : Method := { name := "<init>", desc := "()V", sig := { parameters := [], returnType := none }, accessFlags := 1, code := some k17c0 }
def k17c1 : Code := { maxStack := 4, maxLocals := 4, code := jdk_38_method_6_code, exceptionTable := #[], attributes := #[] }
def k17m1 : Method := { name := "grow", desc := "(I)[Ljava/lang/Object;", sig := { parameters := [.int], returnType := some (.array (.object "java/lang/Object")) }, accessFlags := 2, code := some k17c1 }
def k17c2 : Code := { maxStack := 3, maxLocals := 1, code := jdk_38_method_7_code, exceptionTable := #[], attributes := #[] }
def k17m2 : Method := { name := "grow", desc := "()[Ljava/lang/Object;", sig := { parameters := [], returnType := some (.array (.object "java/lang/Object")) }, accessFlags := 2, code := some k17c2 }
def k17c3 : Code := { maxStack := 2, maxLocals := 2, code := jdk_38_method_10_code, exceptionTable := #[], attributes := #[] }
def k17m3 : Method := { name := "contains", desc := "(Ljava/lang/Object;)Z", sig := { parameters := [(.object "java/lang/Object")], returnType := some .boolean }, accessFlags := 1, code := some k17c3 }
def k17c4 : Code := { maxStack := 4, maxLocals := 2, code := jdk_38_method_11_code, exceptionTable := #[], attributes := #[] }
def k17m4 : Method := { name := "indexOf", desc := "(Ljava/lang/Object;)I", sig := { parameters := [(.object "java/lang/Object")], returnType := some .int }, accessFlags := 1, code := some k17c4 }
def k17c5 : Code := { maxStack := 3, maxLocals := 6, code := jdk_38_method_12_code, exceptionTable := #[], attributes := #[] }
def k17m5 : Method := { name := "indexOfRange", desc := "(Ljava/lang/Object;II)I", sig := { parameters := [(.object "java/lang/Object"), .int, .int], returnType := some .int }, accessFlags := 0, code := some k17c5 }
def k17c6 : Code := { maxStack := 3, maxLocals := 4, code := jdk_38_method_24_code, exceptionTable := #[], attributes := #[] }
def k17m6 : Method := { name := "add", desc := "(Ljava/lang/Object;[Ljava/lang/Object;I)V", sig := { parameters := [(.object "java/lang/Object"), (.array (.object "java/lang/Object")), .int], returnType := none }, accessFlags := 2, code := some k17c6 }
def k17c7 : Code := { maxStack := 4, maxLocals := 2, code := jdk_38_method_25_code, exceptionTable := #[], attributes := #[] }
def k17m7 : Method := { name := "add", desc := "(Ljava/lang/Object;)Z", sig := { parameters := [(.object "java/lang/Object")], returnType := some .boolean }, accessFlags := 1, code := some k17c7 }
def k17c8 : Code := { maxStack := 3, maxLocals := 1, code := jdk_38_method_55_code, exceptionTable := #[], attributes := #[] }
def k17m8 : Method := { name := "iterator", desc := "()Ljava/util/Iterator;", sig := { parameters := [], returnType := some (.object "java/util/Iterator") }, accessFlags := 1, code := some k17c8 }
/-- java/util/ArrayList -/
def k17 : Class := { plain "java/util/ArrayList" (some 14) with
  accessFlags := 33
  interfaces := #[13, 15, 16, 3]
  cf := some (fileOf pool17 10 #[.nestMembers #[290, 276, 500, 502, 262, 267]] #[{ accessFlags := 1, nameIndex := 5, descriptorIndex := 6, attributes := #[] }, { accessFlags := 2, nameIndex := 71, descriptorIndex := 72, attributes := #[] }, { accessFlags := 2, nameIndex := 71, descriptorIndex := 47, attributes := #[] }, { accessFlags := 1, nameIndex := 219, descriptorIndex := 96, attributes := #[] }, { accessFlags := 1, nameIndex := 87, descriptorIndex := 88, attributes := #[] }, { accessFlags := 0, nameIndex := 91, descriptorIndex := 92, attributes := #[] }, { accessFlags := 2, nameIndex := 133, descriptorIndex := 134, attributes := #[] }, { accessFlags := 1, nameIndex := 133, descriptorIndex := 96, attributes := #[] }, { accessFlags := 1, nameIndex := 166, descriptorIndex := 167, attributes := #[] }] 33 2 #[148, 329, 331, 333] #[{ accessFlags := 26, nameIndex := 335, descriptorIndex := 336, attributes := #[] }, { accessFlags := 26, nameIndex := 340, descriptorIndex := 51, attributes := #[] }, { accessFlags := 26, nameIndex := 17, descriptorIndex := 14, attributes := #[] }, { accessFlags := 26, nameIndex := 41, descriptorIndex := 14, attributes := #[] }, { accessFlags := 128, nameIndex := 13, descriptorIndex := 14, attributes := #[] }, { accessFlags := 2, nameIndex := 50, descriptorIndex := 51, attributes := #[] }])
  fields := #[{ name := "serialVersionUID", type := .long, accessFlags := 26, slot := 0, constantValue := 0 }, { name := "DEFAULT_CAPACITY", type := .int, accessFlags := 26, slot := 1, constantValue := 0 }, { name := "EMPTY_ELEMENTDATA", type := (.array (.object "java/lang/Object")), accessFlags := 26, slot := 2, constantValue := 0 }, { name := "DEFAULTCAPACITY_EMPTY_ELEMENTDATA", type := (.array (.object "java/lang/Object")), accessFlags := 26, slot := 3, constantValue := 0 }, { name := "elementData", type := (.array (.object "java/lang/Object")), accessFlags := 128, slot := 1, constantValue := 0 }, { name := "size", type := .int, accessFlags := 2, slot := 2, constantValue := 0 }]
  methods := #[k17m0, k17m1, k17m2, k17m3, k17m4, k17m5, k17m6, k17m7, k17m8]
  instanceTypes := #[.int, (.array (.object "java/lang/Object")), .int]
  staticTypes := #[.long, .int, (.array (.object "java/lang/Object")), (.array (.object "java/lang/Object"))]
  resolved := Array.replicate 509 none
  statics := some 0 }

def pool18 : Array CpInfo := pool [(1, .class_ 2), (0, u "java/lang/Math"), (1, .class_ 6), (1, u "java/lang/Object"), (0, u "<init>"), (0, u "()V"), (89, .class_ 100), (1, u "java/lang/Math$RandomNumberGeneratorHolder"), (71, u "negativeZeroFloatBits"), (0, u "J"), (2, u "negativeZeroDoubleBits"), (21, u "max"), (46, u "$assertionsDisabled"), (0, u "Z"), (88, u "(II)I"), (2, u "twoToTheDoubleScaleDown"), (0, u "D"), (4, u "twoToTheDoubleScaleUp"), (9, u "E"), (3, u "PI"), (2, u "TAU"), (2, u "DEGREES_TO_RADIANS"), (0, u "RADIANS_TO_DEGREES")] 94

def k18m0 : Method := { name := "<init>", desc := "()V", sig := { parameters := [], returnType := none }, accessFlags := 2, code := none }
def k18c1 : Code := { maxStack := 2, maxLocals := 2, code := jdk_29_method_65_code, exceptionTable := #[], attributes := #[] }
def k18m1 : Method := { name := "max", desc := "(II)I", sig := { parameters := [.int, .int], returnType := some .int }, accessFlags := 9, code := some k18c1 }
/-- java/lang/Math -/
def k18 : Class := { plain "java/lang/Math" (some 0) with
  accessFlags := 49
  interfaces := #[]
  cf := some (fileOf pool18 1 #[.nestMembers #[98]] #[{ accessFlags := 2, nameIndex := 7, descriptorIndex := 8, attributes := #[] }, { accessFlags := 9, nameIndex := 198, descriptorIndex := 335, attributes := #[] }] 49 4 #[] #[{ accessFlags := 25, nameIndex := 354, descriptorIndex := 339, attributes := #[] }, { accessFlags := 25, nameIndex := 358, descriptorIndex := 339, attributes := #[] }, { accessFlags := 25, nameIndex := 361, descriptorIndex := 339, attributes := #[] }, { accessFlags := 26, nameIndex := 364, descriptorIndex := 339, attributes := #[] }, { accessFlags := 26, nameIndex := 365, descriptorIndex := 339, attributes := #[] }, { accessFlags := 26, nameIndex := 172, descriptorIndex := 173, attributes := #[] }, { accessFlags := 26, nameIndex := 176, descriptorIndex := 173, attributes := #[] }, { accessFlags := 8, nameIndex := 344, descriptorIndex := 339, attributes := #[] }, { accessFlags := 8, nameIndex := 338, descriptorIndex := 339, attributes := #[] }, { accessFlags := 4120, nameIndex := 245, descriptorIndex := 246, attributes := #[] }])
  fields := #[{ name := "E", type := .double, accessFlags := 25, slot := 0, constantValue := 0 }, { name := "PI", type := .double, accessFlags := 25, slot := 1, constantValue := 0 }, { name := "TAU", type := .double, accessFlags := 25, slot := 2, constantValue := 0 }, { name := "DEGREES_TO_RADIANS", type := .double, accessFlags := 26, slot := 3, constantValue := 0 }, { name := "RADIANS_TO_DEGREES", type := .double, accessFlags := 26, slot := 4, constantValue := 0 }, { name := "negativeZeroFloatBits", type := .long, accessFlags := 26, slot := 5, constantValue := 0 }, { name := "negativeZeroDoubleBits", type := .long, accessFlags := 26, slot := 6, constantValue := 0 }, { name := "twoToTheDoubleScaleUp", type := .double, accessFlags := 8, slot := 7, constantValue := 0 }, { name := "twoToTheDoubleScaleDown", type := .double, accessFlags := 8, slot := 8, constantValue := 0 }, { name := "$assertionsDisabled", type := .boolean, accessFlags := 4120, slot := 9, constantValue := 0 }]
  methods := #[k18m0, k18m1]
  instanceTypes := #[]
  staticTypes := #[.double, .double, .double, .double, .double, .long, .long, .double, .double, .boolean]
  resolved := Array.replicate 460 none
  statics := none }

def pool19 : Array CpInfo := pool [(1, .methodref 2 3), (0, .class_ 4), (0, .nameAndType 5 6), (0, u "java/lang/Object"), (0, u "<init>"), (0, u "()V"), (0, .class_ 8), (0, u "java/util/ArrayDeque"), (0, .methodref 7 3), (0, .fieldref 11 12), (0, .class_ 13), (0, .nameAndType 14 15), (0, u "com/example/deadletter/deadletter/worker/WaitingJobs"), (0, u "ready"), (0, u "Ljava/util/Deque;"), (0, .fieldref 11 17), (0, .nameAndType 18 15), (0, u "toCount"), (0, .interfaceMethodref 20 21), (0, .class_ 22), (0, .nameAndType 23 24), (0, u "java/util/List"), (0, u "iterator"), (0, u "()Ljava/util/Iterator;"), (0, .interfaceMethodref 26 27), (0, .class_ 28), (0, .nameAndType 29 30), (0, u "java/util/Iterator"), (0, u "hasNext"), (0, u "()Z"), (0, .interfaceMethodref 26 32), (0, .nameAndType 33 34), (0, u "next"), (0, u "()Ljava/lang/Object;"), (0, .class_ 36), (0, u "com/example/deadletter/deadletter/job/Job"), (0, .fieldref 11 38), (0, .nameAndType 39 40), (0, u "takenOver"), (0, u "Lcom/example/deadletter/deadletter/job/Job;"), (0, .interfaceMethodref 42 43), (0, .class_ 44), (0, .nameAndType 45 46), (0, u "java/util/Collection"), (0, u "contains"), (0, u "(Ljava/lang/Object;)Z"), (0, .interfaceMethodref 48 49), (0, .class_ 50), (0, .nameAndType 51 46), (0, u "java/util/Deque"), (0, u "add"), (0, .interfaceMethodref 48 53), (0, .nameAndType 54 34), (0, u "pollFirst"), (0, .interfaceMethodref 48 56), (0, .nameAndType 57 58), (0, u "size"), (0, u "()I"), (58, u "(Ljava/util/List;Ljava/util/Collection;Lcom/example/deadletter/deadletter/job/Job;)V"), (2, u "turnCome"), (0, u "(Lcom/example/deadletter/deadletter/job/Job;)V"), (0, u "take"), (0, u "()Lcom/example/deadletter/deadletter/job/Job;")] 12

def k19c0 : Code := { maxStack := 3, maxLocals := 1, code := prog_45_method_1_code, exceptionTable := #[], attributes := #[] }
def k19m0 : Method := { name := "<init>", desc := "()V", sig := { parameters := [], returnType := none }, accessFlags := 0, code := some k19c0 }
def k19c1 : Code := { maxStack := 2, maxLocals := 6, code := prog_45_method_2_code, exceptionTable := #[], attributes := #[] }
def k19m1 : Method := { name := "add", desc := "(Ljava/util/List;Ljava/util/Collection;Lcom/example/deadletter/deadletter/job/Job;)V", sig := { parameters := [(.object "java/util/List"), (.object "java/util/Collection"), (.object "com/example/deadletter/deadletter/job/Job")], returnType := none }, accessFlags := 0, code := some k19c1 }
def k19c2 : Code := { maxStack := 2, maxLocals := 2, code := prog_45_method_3_code, exceptionTable := #[], attributes := #[] }
def k19m2 : Method := { name := "turnCome", desc := "(Lcom/example/deadletter/deadletter/job/Job;)V", sig := { parameters := [(.object "com/example/deadletter/deadletter/job/Job")], returnType := none }, accessFlags := 0, code := some k19c2 }
def k19c3 : Code := { maxStack := 1, maxLocals := 1, code := prog_45_method_4_code, exceptionTable := #[], attributes := #[] }
def k19m3 : Method := { name := "take", desc := "()Lcom/example/deadletter/deadletter/job/Job;", sig := { parameters := [], returnType := some (.object "com/example/deadletter/deadletter/job/Job") }, accessFlags := 0, code := some k19c3 }
def k19c4 : Code := { maxStack := 2, maxLocals := 1, code := prog_45_method_7_code, exceptionTable := #[], attributes := #[] }
def k19m4 : Method := { name := "size", desc := "()I", sig := { parameters := [], returnType := some .int }, accessFlags := 0, code := some k19c4 }
/-- com/example/deadletter/deadletter/worker/WaitingJobs -/
def k19 : Class := { plain "com/example/deadletter/deadletter/worker/WaitingJobs" (some 0) with
  accessFlags := 32
  interfaces := #[]
  cf := some (fileOf pool19 11 #[] #[{ accessFlags := 0, nameIndex := 5, descriptorIndex := 6, attributes := #[] }, { accessFlags := 0, nameIndex := 51, descriptorIndex := 117, attributes := #[] }, { accessFlags := 0, nameIndex := 120, descriptorIndex := 121, attributes := #[] }, { accessFlags := 0, nameIndex := 122, descriptorIndex := 123, attributes := #[] }, { accessFlags := 0, nameIndex := 57, descriptorIndex := 58, attributes := #[] }] 32 2 #[] #[{ accessFlags := 18, nameIndex := 14, descriptorIndex := 15, attributes := #[] }, { accessFlags := 18, nameIndex := 18, descriptorIndex := 15, attributes := #[] }, { accessFlags := 2, nameIndex := 39, descriptorIndex := 40, attributes := #[] }])
  fields := #[{ name := "ready", type := (.object "java/util/Deque"), accessFlags := 18, slot := 0, constantValue := 0 }, { name := "toCount", type := (.object "java/util/Deque"), accessFlags := 18, slot := 1, constantValue := 0 }, { name := "takenOver", type := (.object "com/example/deadletter/deadletter/job/Job"), accessFlags := 2, slot := 2, constantValue := 0 }]
  methods := #[k19m0, k19m1, k19m2, k19m3, k19m4]
  instanceTypes := #[(.object "java/util/Deque"), (.object "java/util/Deque"), (.object "com/example/deadletter/deadletter/job/Job")]
  staticTypes := #[]
  resolved := Array.replicate 136 none
  statics := none }

def pool20 : Array CpInfo := pool [(1, .class_ 2), (0, u "java/util/Queue"), (0, .class_ 4), (0, u "java/lang/Object"), (0, .class_ 6), (0, u "java/util/Collection")] 14

/-- java/util/Queue -/
def k20 : Class := { plain "java/util/Queue" (some 0) with
  accessFlags := 1537
  interfaces := #[10]
  cf := some (fileOf pool20 1 #[] #[] 1537 3 #[5] #[])
  fields := #[]
  methods := #[]
  instanceTypes := #[]
  staticTypes := #[]
  resolved := Array.replicate 21 none
  statics := none }

def pool21 : Array CpInfo := pool [(8, .class_ 10), (1, u "java/util/Deque"), (2, .class_ 14), (0, u "java/lang/Object"), (0, .class_ 16), (0, u "java/util/Queue"), (0, .class_ 18), (0, u "java/util/SequencedCollection"), (6, u "(Ljava/lang/Object;)Z"), (3, u "()Ljava/lang/Object;"), (2, u "pollFirst"), (7, u "add"), (11, u "size"), (0, u "()I")] 16

def k21m0 : Method := { name := "pollFirst", desc := "()Ljava/lang/Object;", sig := { parameters := [], returnType := some (.object "java/lang/Object") }, accessFlags := 1025, code := none }
def k21m1 : Method := { name := "add", desc := "(Ljava/lang/Object;)Z", sig := { parameters := [(.object "java/lang/Object")], returnType := some .boolean }, accessFlags := 1025, code := none }
def k21m2 : Method := { name := "size", desc := "()I", sig := { parameters := [], returnType := some .int }, accessFlags := 1025, code := none }
/-- java/util/Deque -/
def k21 : Class := { plain "java/util/Deque" (some 0) with
  accessFlags := 1537
  interfaces := #[20, 12]
  cf := some (fileOf pool21 8 #[] #[{ accessFlags := 1025, nameIndex := 32, descriptorIndex := 29, attributes := #[] }, { accessFlags := 1025, nameIndex := 40, descriptorIndex := 25, attributes := #[] }, { accessFlags := 1025, nameIndex := 52, descriptorIndex := 53, attributes := #[] }] 1537 13 #[15, 17] #[])
  fields := #[]
  methods := #[k21m0, k21m1, k21m2]
  instanceTypes := #[]
  staticTypes := #[]
  resolved := Array.replicate 70 none
  statics := none }

def pool22 : Array CpInfo := pool [(3, .fieldref 4 5), (0, .class_ 6), (0, .nameAndType 7 8), (0, u "java/util/ArrayDeque"), (0, u "elements"), (0, u "[Ljava/lang/Object;"), (4, u "(II)I"), (6, .fieldref 4 21), (0, .nameAndType 22 23), (0, u "tail"), (0, u "I"), (0, .fieldref 4 25), (0, .nameAndType 26 23), (0, u "head"), (12, u "<init>"), (2, .methodref 43 44), (0, .class_ 45), (0, .nameAndType 39 46), (0, u "java/util/AbstractCollection"), (0, u "()V"), (0, .class_ 48), (0, u "java/lang/Object"), (4, u "size"), (0, u "()I"), (19, .methodref 4 75), (0, .nameAndType 76 13), (0, u "inc"), (12, u "(Ljava/lang/Object;)V"), (0, .methodref 4 91), (0, .nameAndType 92 89), (0, u "addLast"), (2, u "pollFirst"), (0, u "()Ljava/lang/Object;"), (6, .methodref 4 104), (0, .nameAndType 105 106), (0, u "elementAt"), (0, u "([Ljava/lang/Object;I)Ljava/lang/Object;"), (3, u "(Ljava/lang/Object;)Z"), (16, .methodref 4 128), (0, .nameAndType 129 130), (0, u "sub"), (0, u "(III)I"), (0, .class_ 132), (0, u "java/util/ArrayDeque$DeqIterator"), (3, .class_ 137), (0, u "java/util/ArrayDeque$DescendingIterator"), (1, .class_ 140), (0, u "java/util/ArrayDeque$DeqSpliterator"), (137, .class_ 279), (0, u "java/util/Deque"), (0, .class_ 281), (0, u "java/lang/Cloneable"), (0, .class_ 283), (0, u "java/io/Serializable"), (0, u "MAX_ARRAY_SIZE"), (1, u "serialVersionUID"), (0, u "J"), (48, u "add")] 101

def k22c0 : Code := { maxStack := 2, maxLocals := 1, code := jdk_21_method_3_code, exceptionTable := #[], attributes := #[] }
def k22m0 : Method := { name := "<init>", desc := "()V", sig := { parameters := [], returnType := none }, accessFlags := 1, code := some k22c0 }
def k22c1 : Code := { maxStack := 2, maxLocals := 2, code := jdk_21_method_6_code, exceptionTable := #[], attributes := #[] }
def k22m1 : Method := { name := "inc", desc := "(II)I", sig := { parameters := [.int, .int], returnType := some .int }, accessFlags := 24, code := some k22c1 }
def k22c2 : Code := { maxStack := 2, maxLocals := 3, code := jdk_21_method_9_code, exceptionTable := #[], attributes := #[] }
def k22m2 : Method := { name := "sub", desc := "(III)I", sig := { parameters := [.int, .int, .int], returnType := some .int }, accessFlags := 24, code := some k22c2 }
def k22c3 : Code := { maxStack := 2, maxLocals := 2, code := jdk_21_method_10_code, exceptionTable := #[], attributes := #[] }
def k22m3 : Method := { name := "elementAt", desc := "([Ljava/lang/Object;I)Ljava/lang/Object;", sig := { parameters := [(.array (.object "java/lang/Object")), .int], returnType := some (.object "java/lang/Object") }, accessFlags := 24, code := some k22c3 }
def k22c4 : Code := { maxStack := 4, maxLocals := 3, code := jdk_21_method_13_code, exceptionTable := #[], attributes := #[] }
def k22m4 : Method := { name := "addLast", desc := "(Ljava/lang/Object;)V", sig := { parameters := [(.object "java/lang/Object")], returnType := none }, accessFlags := 1, code := some k22c4 }
def k22c5 : Code := { maxStack := 3, maxLocals := 4, code := jdk_21_method_20_code, exceptionTable := #[], attributes := #[] }
def k22m5 : Method := { name := "pollFirst", desc := "()Ljava/lang/Object;", sig := { parameters := [], returnType := some (.object "java/lang/Object") }, accessFlags := 1, code := some k22c5 }
def k22c6 : Code := { maxStack := 2, maxLocals := 2, code := jdk_21_method_28_code, exceptionTable := #[], attributes := #[] }
def k22m6 : Method := { name := "add", desc := "(Ljava/lang/Object;)Z", sig := { parameters := [(.object "java/lang/Object")], returnType := some .boolean }, accessFlags := 1, code := some k22c6 }
def k22c7 : Code := { maxStack := 3, maxLocals := 1, code := jdk_21_method_37_code, exceptionTable := #[], attributes := #[] }
def k22m7 : Method := { name := "size", desc := "()I", sig := { parameters := [], returnType := some .int }, accessFlags := 1, code := some k22c7 }
/-- java/util/ArrayDeque -/
def k22 : Class := { plain "java/util/ArrayDeque" (some 11) with
  accessFlags := 33
  interfaces := #[21, 16, 3]
  cf := some (fileOf pool22 4 #[.nestMembers #[139, 136, 131]] #[{ accessFlags := 1, nameIndex := 39, descriptorIndex := 46, attributes := #[] }, { accessFlags := 24, nameIndex := 76, descriptorIndex := 13, attributes := #[] }, { accessFlags := 24, nameIndex := 129, descriptorIndex := 130, attributes := #[] }, { accessFlags := 24, nameIndex := 105, descriptorIndex := 106, attributes := #[] }, { accessFlags := 1, nameIndex := 92, descriptorIndex := 89, attributes := #[] }, { accessFlags := 1, nameIndex := 95, descriptorIndex := 96, attributes := #[] }, { accessFlags := 1, nameIndex := 336, descriptorIndex := 110, attributes := #[] }, { accessFlags := 1, nameIndex := 53, descriptorIndex := 54, attributes := #[] }] 33 43 #[278, 280, 282] #[{ accessFlags := 128, nameIndex := 7, descriptorIndex := 8, attributes := #[] }, { accessFlags := 128, nameIndex := 26, descriptorIndex := 23, attributes := #[] }, { accessFlags := 128, nameIndex := 22, descriptorIndex := 23, attributes := #[] }, { accessFlags := 26, nameIndex := 284, descriptorIndex := 23, attributes := #[] }, { accessFlags := 26, nameIndex := 286, descriptorIndex := 287, attributes := #[] }])
  fields := #[{ name := "elements", type := (.array (.object "java/lang/Object")), accessFlags := 128, slot := 0, constantValue := 0 }, { name := "head", type := .int, accessFlags := 128, slot := 1, constantValue := 0 }, { name := "tail", type := .int, accessFlags := 128, slot := 2, constantValue := 0 }, { name := "MAX_ARRAY_SIZE", type := .int, accessFlags := 26, slot := 0, constantValue := 0 }, { name := "serialVersionUID", type := .long, accessFlags := 26, slot := 1, constantValue := 0 }]
  methods := #[k22m0, k22m1, k22m2, k22m3, k22m4, k22m5, k22m6, k22m7]
  instanceTypes := #[(.array (.object "java/lang/Object")), .int, .int]
  staticTypes := #[.int, .long]
  resolved := Array.replicate 438 none
  statics := none }

def pool23 : Array CpInfo := pool [(16, .class_ 18), (1, u "java/util/Iterator"), (0, u "hasNext"), (0, u "()Z"), (2, u "next"), (0, u "()Ljava/lang/Object;"), (6, .class_ 32), (0, u "java/lang/Object")] 20

def k23m0 : Method := { name := "hasNext", desc := "()Z", sig := { parameters := [], returnType := some .boolean }, accessFlags := 1025, code := none }
def k23m1 : Method := { name := "next", desc := "()Ljava/lang/Object;", sig := { parameters := [], returnType := some (.object "java/lang/Object") }, accessFlags := 1025, code := none }
/-- java/util/Iterator -/
def k23 : Class := { plain "java/util/Iterator" (some 0) with
  accessFlags := 1537
  interfaces := #[]
  cf := some (fileOf pool23 16 #[] #[{ accessFlags := 1025, nameIndex := 19, descriptorIndex := 20, attributes := #[] }, { accessFlags := 1025, nameIndex := 23, descriptorIndex := 24, attributes := #[] }] 1537 31 #[] #[])
  fields := #[]
  methods := #[k23m0, k23m1]
  instanceTypes := #[]
  staticTypes := #[]
  resolved := Array.replicate 53 none
  statics := none }

def pool24 : Array CpInfo := pool [(1, .fieldref 2 3), (0, .class_ 4), (0, .nameAndType 5 6), (0, u "java/util/ArrayList$Itr"), (0, u "this$0"), (0, u "Ljava/util/ArrayList;"), (0, .methodref 8 9), (0, .class_ 10), (0, .nameAndType 11 12), (0, u "java/lang/Object"), (0, u "<init>"), (0, u "()V"), (0, .fieldref 2 14), (0, .nameAndType 15 16), (0, u "lastRet"), (0, u "I"), (0, .fieldref 18 19), (0, .class_ 20), (0, .nameAndType 21 16), (0, u "java/util/ArrayList"), (0, u "modCount"), (0, .fieldref 2 23), (0, .nameAndType 24 16), (0, u "expectedModCount"), (0, .fieldref 2 26), (0, .nameAndType 27 16), (0, u "cursor"), (0, .fieldref 18 29), (0, .nameAndType 30 16), (0, u "size"), (0, .methodref 2 32), (0, .nameAndType 33 12), (0, u "checkForComodification"), (3, .fieldref 18 38), (0, .nameAndType 39 40), (0, u "elementData"), (0, u "[Ljava/lang/Object;"), (28, .class_ 70), (0, u "java/util/Iterator"), (0, u "(Ljava/util/ArrayList;)V"), (8, u "hasNext"), (0, u "()Z"), (1, u "next"), (0, u "()Ljava/lang/Object;")] 19

def k24c0 : Code := { maxStack := 2, maxLocals := 2, code := jdk_49_method_1_code, exceptionTable := #[], attributes := #[] }
def k24m0 : Method := { name := "<init>", desc := "(Ljava/util/ArrayList;)V", sig := { parameters := [(.object "java/util/ArrayList")], returnType := none }, accessFlags := 0, code := some k24c0 }
def k24c1 : Code := { maxStack := 2, maxLocals := 1, code := jdk_49_method_2_code, exceptionTable := #[], attributes := #[] }
def k24m1 : Method := { name := "hasNext", desc := "()Z", sig := { parameters := [], returnType := some .boolean }, accessFlags := 1, code := some k24c1 }
def k24c2 : Code := { maxStack := 4, maxLocals := 3, code := jdk_49_method_3_code, exceptionTable := #[], attributes := #[] }
def k24m2 : Method := { name := "next", desc := "()Ljava/lang/Object;", sig := { parameters := [], returnType := some (.object "java/lang/Object") }, accessFlags := 1, code := some k24c2 }
def k24c3 : Code := { maxStack := 2, maxLocals := 1, code := jdk_49_method_6_code, exceptionTable := #[], attributes := #[] }
def k24m3 : Method := { name := "checkForComodification", desc := "()V", sig := { parameters := [], returnType := none }, accessFlags := 16, code := some k24c3 }
/-- java/util/ArrayList$Itr -/
def k24 : Class := { plain "java/util/ArrayList$Itr" (some 0) with
  accessFlags := 32
  interfaces := #[23]
  cf := some (fileOf pool24 2 #[.nestHost 18] #[{ accessFlags := 0, nameIndex := 11, descriptorIndex := 71, attributes := #[] }, { accessFlags := 1, nameIndex := 80, descriptorIndex := 81, attributes := #[] }, { accessFlags := 1, nameIndex := 83, descriptorIndex := 84, attributes := #[] }, { accessFlags := 16, nameIndex := 33, descriptorIndex := 12, attributes := #[] }] 32 8 #[69] #[{ accessFlags := 0, nameIndex := 27, descriptorIndex := 16, attributes := #[] }, { accessFlags := 0, nameIndex := 15, descriptorIndex := 16, attributes := #[] }, { accessFlags := 0, nameIndex := 24, descriptorIndex := 16, attributes := #[] }, { accessFlags := 4112, nameIndex := 5, descriptorIndex := 6, attributes := #[] }])
  fields := #[{ name := "cursor", type := .int, accessFlags := 0, slot := 0, constantValue := 0 }, { name := "lastRet", type := .int, accessFlags := 0, slot := 1, constantValue := 0 }, { name := "expectedModCount", type := .int, accessFlags := 0, slot := 2, constantValue := 0 }, { name := "this$0", type := (.object "java/util/ArrayList"), accessFlags := 4112, slot := 3, constantValue := 0 }]
  methods := #[k24m0, k24m1, k24m2, k24m3]
  instanceTypes := #[.int, .int, .int, (.object "java/util/ArrayList")]
  staticTypes := #[]
  resolved := Array.replicate 104 none
  statics := none }

/-- the primitive byte -/
def k25 : Class := { plain "byte" none with kind := .primitive 'B', accessFlags := 0x411 }
/-- [B -/
def k26 : Class := { plain "[B" (some 0) with kind := .array 25 .byte, interfaces := #[16, 3], accessFlags := 1041 }

/-- the primitive int -/
def k27 : Class := { plain "int" none with kind := .primitive 'I', accessFlags := 0x411 }
/-- [I -/
def k28 : Class := { plain "[I" (some 0) with kind := .array 27 .int, interfaces := #[16, 3], accessFlags := 1041 }

/-- [Ljava/lang/Object; -/
def k29 : Class := { plain "[Ljava/lang/Object;" (some 0) with kind := .array 0 (.object "java/lang/Object"), interfaces := #[16, 3], accessFlags := 1041 }

def heap : Heap := #[{ cls := 17, slots := #[.long 0, .int 0, .ref 1, .ref 2], vm := .statics 17 },
  { cls := 29, slots := #[], vm := .none },
  { cls := 29, slots := #[], vm := .none }]
def classes : Array Class := #[k0, k1, k2, k3, k4, k5, k6, k7, k8, k9, k10, k11, k12, k13, k14, k15, k16, k17, k18, k19, k20, k21, k22, k23, k24, k25, k26, k27, k28, k29]
def interned : List (Array UInt16 × Addr) := []
def slotsUsed : Nat := 4
def theMethod : MethodId := ⟨1, 1⟩
def args0 : Array Value := #[.int 5, .int 6, .int 7, .int 8]
def aboutOver (below : List Frame) : State where
  vm := { classes := classes, interned := interned.toArray }
  heap := heap
  slotsUsed := slotsUsed
  threads := #[{ frames := .invoking theMethod args0 :: below }]
def below0 : List Frame := [.native { method := ⟨0, 0⟩, args := #[] }]
def about1 : State := aboutOver below0
def p0 : Program := .bare "" "" ""
def e0 : Env := launch0.env 0 0 0
theorem w_frames : about1.frames = Frame.invoking theMethod args0 :: below0 := rfl
set_option maxRecDepth 65536 in
theorem w_args : argsFit about1.vm theMethod args0 = true := by decide +kernel
set_option maxRecDepth 65536 in
theorem w_heap : heapFits about1 = true := by decide +kernel
set_option maxRecDepth 65536 in
theorem w_runnable : about1.curStatus? = some .runnable := by decide +kernel
set_option maxRecDepth 65536 in
theorem w_alone : about1.alone = true := by decide +kernel
set_option maxRecDepth 65536 in
theorem w_named : about1.methodNamed? x = some theMethod := by decide +kernel
set_option maxRecDepth 65536 in
theorem w_hears : about1.hears theMethod below0 = true := by decide +kernel
set_option maxRecDepth 65536 in
theorem w_ripe : about1.ripe theMethod args0 below0 = true := by decide +kernel
theorem w_running : about1.status = .running := rfl
set_option maxRecDepth 65536 in
theorem w_room : about1.hasRoom e0.platform room_1 = true :=
  launch0.hasRoom_least _ room_1 (by decide +kernel) (by decide +kernel) (by decide +kernel) (by decide +kernel) (by decide +kernel) (by decide +kernel)
theorem allAtoms_all (ts : List Jvm.Cond) (a : Array Jvm.Value) (st : Jvm.State) : (allAtoms ts).before a st = ts.all (fun c => c.before a st) := by
  induction ts with
  | nil => rfl
  | cons c t ih =>
    show (Jvm.Cond.and c (allAtoms t)).before a st = _
    rw [Jvm.Cond.before_and, ih, List.all_cons]
def words1 : List Jvm.Cond := Jvm.Cond.code x code maxLocals ret :: tables_1
/-- a 'code' word, met by the world's own term for the bytes: nothing is compared byte by byte -/
theorem code_word {y : MethodName} {bytes : ByteArray} {mx : Nat} {rt : Option FieldType} {a : Array Value} {s : State} {m : MethodId} {meth : Method} {c : Code} (h1 : s.methodNamed? y = some m) (h2 : s.vm.method? m = some meth) (h3 : meth.code = some c) (h4 : c.code = bytes)
    (h5 : (c.maxLocals == mx && c.exceptionTable.isEmpty && decide (c.maxStack ≤ mostOperands) && decide (meth.sig.returnType = rt) && !meth.locks && decide (parseMethodDescriptor y.desc = some meth.sig)) = true) : (Jvm.Cond.code y bytes mx rt).before a s = true := by
  simp only [Bool.and_eq_true, beq_iff_eq, Bool.not_eq_true', decide_eq_true_eq] at h5
  obtain ⟨⟨⟨⟨⟨g1, g2⟩, g3⟩, g4⟩, g5⟩, g6⟩ := h5
  simp [Cond.before, Cond.holds, Cond.value, h1, h2, h3, h4, g1, g2, g3, g4, g5, g6]
def isCode : Jvm.Cond → Bool
  | .code _ _ _ _ => true
  | _ => false
theorem all_split {L : List Jvm.Cond} {P : Jvm.Cond → Bool} (h1 : L.all (fun c => isCode c || P c) = true) (h2 : ∀ c ∈ L.filter isCode, P c = true) : L.all P = true := by
  refine List.all_eq_true.mpr fun c hc => ?_
  have h := List.all_eq_true.mp h1 c hc
  rcases Bool.eq_false_or_eq_true (isCode c) with hi | hi
  · exact h2 c (List.mem_filter.mpr ⟨hc, hi⟩)
  · simpa [hi] using h
set_option maxRecDepth 65536 in
theorem w_c0 : (Jvm.Cond.code x code maxLocals ret).before args0 about1 = true := code_word (m := ⟨1, 1⟩) (meth := k1m1) (c := k1c1) (by decide +kernel) rfl rfl rfl (by decide +kernel)
set_option maxRecDepth 65536 in
theorem w_c1 : (Jvm.Cond.code ({ cls := "com/example/deadletter/deadletter/job/Job", name := "<init>", desc := "(Ljava/util/UUID;Ljava/lang/String;Ljava/lang/String;IIILjava/lang/String;)V" } : Jvm.MethodName) prog_8_method_1_code (8 : Nat) (Option.none : Option Jvm.ClassFile.FieldType)).before args0 about1 = true := code_word (m := ⟨2, 0⟩) (meth := k2m0) (c := k2c0) (by decide +kernel) rfl rfl rfl (by decide +kernel)
set_option maxRecDepth 65536 in
theorem w_c2 : (Jvm.Cond.code ({ cls := "java/lang/Object", name := "<init>", desc := "()V" } : Jvm.MethodName) object_method_1_code (1 : Nat) (Option.none : Option Jvm.ClassFile.FieldType)).before args0 about1 = true := code_word (m := ⟨0, 0⟩) (meth := k0m0) (c := k0c0) (by decide +kernel) rfl rfl rfl (by decide +kernel)
set_option maxRecDepth 65536 in
theorem w_c3 : (Jvm.Cond.code ({ cls := "java/util/ArrayList", name := "<init>", desc := "()V" } : Jvm.MethodName) jdk_38_method_2_code (1 : Nat) (Option.none : Option Jvm.ClassFile.FieldType)).before args0 about1 = true := code_word (m := ⟨17, 0⟩) (meth := k17m0) (c := k17c0) (by decide +kernel) rfl rfl rfl (by decide +kernel)
set_option maxRecDepth 65536 in
theorem w_c4 : (Jvm.Cond.code ({ cls := "java/util/AbstractList", name := "<init>", desc := "()V" } : Jvm.MethodName) jdk_39_method_1_code (1 : Nat) (Option.none : Option Jvm.ClassFile.FieldType)).before args0 about1 = true := code_word (m := ⟨14, 0⟩) (meth := k14m0) (c := k14c0) (by decide +kernel) rfl rfl rfl (by decide +kernel)
set_option maxRecDepth 65536 in
theorem w_c5 : (Jvm.Cond.code ({ cls := "java/util/AbstractCollection", name := "<init>", desc := "()V" } : Jvm.MethodName) jdk_22_method_1_code (1 : Nat) (Option.none : Option Jvm.ClassFile.FieldType)).before args0 about1 = true := code_word (m := ⟨11, 0⟩) (meth := k11m0) (c := k11c0) (by decide +kernel) rfl rfl rfl (by decide +kernel)
set_option maxRecDepth 65536 in
theorem w_c6 : (Jvm.Cond.code ({ cls := "java/util/ArrayList", name := "add", desc := "(Ljava/lang/Object;)Z" } : Jvm.MethodName) jdk_38_method_25_code (2 : Nat) (Option.some Jvm.ClassFile.FieldType.boolean)).before args0 about1 = true := code_word (m := ⟨17, 7⟩) (meth := k17m7) (c := k17c7) (by decide +kernel) rfl rfl rfl (by decide +kernel)
set_option maxRecDepth 65536 in
theorem w_c7 : (Jvm.Cond.code ({ cls := "java/util/ArrayList", name := "add", desc := "(Ljava/lang/Object;[Ljava/lang/Object;I)V" } : Jvm.MethodName) jdk_38_method_24_code (4 : Nat) (Option.none : Option Jvm.ClassFile.FieldType)).before args0 about1 = true := code_word (m := ⟨17, 6⟩) (meth := k17m6) (c := k17c6) (by decide +kernel) rfl rfl rfl (by decide +kernel)
set_option maxRecDepth 65536 in
theorem w_c8 : (Jvm.Cond.code ({ cls := "java/util/ArrayList", name := "grow", desc := "()[Ljava/lang/Object;" } : Jvm.MethodName) jdk_38_method_7_code (1 : Nat) (Option.some (Jvm.ClassFile.FieldType.array (Jvm.ClassFile.FieldType.object "java/lang/Object")))).before args0 about1 = true := code_word (m := ⟨17, 2⟩) (meth := k17m2) (c := k17c2) (by decide +kernel) rfl rfl rfl (by decide +kernel)
set_option maxRecDepth 65536 in
theorem w_c9 : (Jvm.Cond.code ({ cls := "java/util/ArrayList", name := "grow", desc := "(I)[Ljava/lang/Object;" } : Jvm.MethodName) jdk_38_method_6_code (4 : Nat) (Option.some (Jvm.ClassFile.FieldType.array (Jvm.ClassFile.FieldType.object "java/lang/Object")))).before args0 about1 = true := code_word (m := ⟨17, 1⟩) (meth := k17m1) (c := k17c1) (by decide +kernel) rfl rfl rfl (by decide +kernel)
set_option maxRecDepth 65536 in
theorem w_c10 : (Jvm.Cond.code ({ cls := "java/lang/Math", name := "max", desc := "(II)I" } : Jvm.MethodName) jdk_29_method_65_code (2 : Nat) (Option.some Jvm.ClassFile.FieldType.int)).before args0 about1 = true := code_word (m := ⟨18, 1⟩) (meth := k18m1) (c := k18c1) (by decide +kernel) rfl rfl rfl (by decide +kernel)
set_option maxRecDepth 65536 in
theorem w_c11 : (Jvm.Cond.code ({ cls := "com/example/deadletter/deadletter/worker/WaitingJobs", name := "<init>", desc := "()V" } : Jvm.MethodName) prog_45_method_1_code (1 : Nat) (Option.none : Option Jvm.ClassFile.FieldType)).before args0 about1 = true := code_word (m := ⟨19, 0⟩) (meth := k19m0) (c := k19c0) (by decide +kernel) rfl rfl rfl (by decide +kernel)
set_option maxRecDepth 65536 in
theorem w_c12 : (Jvm.Cond.code ({ cls := "java/util/ArrayDeque", name := "<init>", desc := "()V" } : Jvm.MethodName) jdk_21_method_3_code (1 : Nat) (Option.none : Option Jvm.ClassFile.FieldType)).before args0 about1 = true := code_word (m := ⟨22, 0⟩) (meth := k22m0) (c := k22c0) (by decide +kernel) rfl rfl rfl (by decide +kernel)
set_option maxRecDepth 65536 in
theorem w_c13 : (Jvm.Cond.code ({ cls := "com/example/deadletter/deadletter/worker/WaitingJobs", name := "size", desc := "()I" } : Jvm.MethodName) prog_45_method_7_code (1 : Nat) (Option.some Jvm.ClassFile.FieldType.int)).before args0 about1 = true := code_word (m := ⟨19, 4⟩) (meth := k19m4) (c := k19c4) (by decide +kernel) rfl rfl rfl (by decide +kernel)
set_option maxRecDepth 65536 in
theorem w_c14 : (Jvm.Cond.code ({ cls := "java/util/ArrayDeque", name := "size", desc := "()I" } : Jvm.MethodName) jdk_21_method_37_code (1 : Nat) (Option.some Jvm.ClassFile.FieldType.int)).before args0 about1 = true := code_word (m := ⟨22, 7⟩) (meth := k22m7) (c := k22c7) (by decide +kernel) rfl rfl rfl (by decide +kernel)
set_option maxRecDepth 65536 in
theorem w_c15 : (Jvm.Cond.code ({ cls := "java/util/ArrayDeque", name := "sub", desc := "(III)I" } : Jvm.MethodName) jdk_21_method_9_code (3 : Nat) (Option.some Jvm.ClassFile.FieldType.int)).before args0 about1 = true := code_word (m := ⟨22, 2⟩) (meth := k22m2) (c := k22c2) (by decide +kernel) rfl rfl rfl (by decide +kernel)
set_option maxRecDepth 65536 in
theorem w_c16 : (Jvm.Cond.code ({ cls := "com/example/deadletter/deadletter/worker/WaitingJobs", name := "add", desc := "(Ljava/util/List;Ljava/util/Collection;Lcom/example/deadletter/deadletter/job/Job;)V" } : Jvm.MethodName) prog_45_method_2_code (6 : Nat) (Option.none : Option Jvm.ClassFile.FieldType)).before args0 about1 = true := code_word (m := ⟨19, 1⟩) (meth := k19m1) (c := k19c1) (by decide +kernel) rfl rfl rfl (by decide +kernel)
set_option maxRecDepth 65536 in
theorem w_c17 : (Jvm.Cond.code ({ cls := "java/util/ArrayList", name := "iterator", desc := "()Ljava/util/Iterator;" } : Jvm.MethodName) jdk_38_method_55_code (1 : Nat) (Option.some (Jvm.ClassFile.FieldType.object "java/util/Iterator"))).before args0 about1 = true := code_word (m := ⟨17, 8⟩) (meth := k17m8) (c := k17c8) (by decide +kernel) rfl rfl rfl (by decide +kernel)
set_option maxRecDepth 65536 in
theorem w_c18 : (Jvm.Cond.code ({ cls := "java/util/ArrayList$Itr", name := "<init>", desc := "(Ljava/util/ArrayList;)V" } : Jvm.MethodName) jdk_49_method_1_code (2 : Nat) (Option.none : Option Jvm.ClassFile.FieldType)).before args0 about1 = true := code_word (m := ⟨24, 0⟩) (meth := k24m0) (c := k24c0) (by decide +kernel) rfl rfl rfl (by decide +kernel)
set_option maxRecDepth 65536 in
theorem w_c19 : (Jvm.Cond.code ({ cls := "java/util/ArrayList$Itr", name := "hasNext", desc := "()Z" } : Jvm.MethodName) jdk_49_method_2_code (1 : Nat) (Option.some Jvm.ClassFile.FieldType.boolean)).before args0 about1 = true := code_word (m := ⟨24, 1⟩) (meth := k24m1) (c := k24c1) (by decide +kernel) rfl rfl rfl (by decide +kernel)
set_option maxRecDepth 65536 in
theorem w_c20 : (Jvm.Cond.code ({ cls := "com/example/deadletter/deadletter/worker/WaitingJobs", name := "turnCome", desc := "(Lcom/example/deadletter/deadletter/job/Job;)V" } : Jvm.MethodName) prog_45_method_3_code (2 : Nat) (Option.none : Option Jvm.ClassFile.FieldType)).before args0 about1 = true := code_word (m := ⟨19, 2⟩) (meth := k19m2) (c := k19c2) (by decide +kernel) rfl rfl rfl (by decide +kernel)
set_option maxRecDepth 65536 in
theorem w_c21 : (Jvm.Cond.code ({ cls := "com/example/deadletter/deadletter/worker/WaitingJobs", name := "take", desc := "()Lcom/example/deadletter/deadletter/job/Job;" } : Jvm.MethodName) prog_45_method_4_code (1 : Nat) (Option.some (Jvm.ClassFile.FieldType.object "com/example/deadletter/deadletter/job/Job"))).before args0 about1 = true := code_word (m := ⟨19, 3⟩) (meth := k19m3) (c := k19c3) (by decide +kernel) rfl rfl rfl (by decide +kernel)
set_option maxRecDepth 65536 in
theorem w_c22 : (Jvm.Cond.code ({ cls := "java/util/ArrayDeque", name := "pollFirst", desc := "()Ljava/lang/Object;" } : Jvm.MethodName) jdk_21_method_20_code (4 : Nat) (Option.some (Jvm.ClassFile.FieldType.object "java/lang/Object"))).before args0 about1 = true := code_word (m := ⟨22, 5⟩) (meth := k22m5) (c := k22c5) (by decide +kernel) rfl rfl rfl (by decide +kernel)
set_option maxRecDepth 65536 in
theorem w_c23 : (Jvm.Cond.code ({ cls := "java/util/ArrayDeque", name := "elementAt", desc := "([Ljava/lang/Object;I)Ljava/lang/Object;" } : Jvm.MethodName) jdk_21_method_10_code (2 : Nat) (Option.some (Jvm.ClassFile.FieldType.object "java/lang/Object"))).before args0 about1 = true := code_word (m := ⟨22, 3⟩) (meth := k22m3) (c := k22c3) (by decide +kernel) rfl rfl rfl (by decide +kernel)
set_option maxRecDepth 65536 in
theorem w_c24 : (Jvm.Cond.code ({ cls := "java/util/ArrayList$Itr", name := "next", desc := "()Ljava/lang/Object;" } : Jvm.MethodName) jdk_49_method_3_code (3 : Nat) (Option.some (Jvm.ClassFile.FieldType.object "java/lang/Object"))).before args0 about1 = true := code_word (m := ⟨24, 2⟩) (meth := k24m2) (c := k24c2) (by decide +kernel) rfl rfl rfl (by decide +kernel)
set_option maxRecDepth 65536 in
theorem w_c25 : (Jvm.Cond.code ({ cls := "java/util/ArrayList$Itr", name := "checkForComodification", desc := "()V" } : Jvm.MethodName) jdk_49_method_6_code (1 : Nat) (Option.none : Option Jvm.ClassFile.FieldType)).before args0 about1 = true := code_word (m := ⟨24, 3⟩) (meth := k24m3) (c := k24c3) (by decide +kernel) rfl rfl rfl (by decide +kernel)
set_option maxRecDepth 65536 in
theorem w_c26 : (Jvm.Cond.code ({ cls := "java/util/ArrayList", name := "contains", desc := "(Ljava/lang/Object;)Z" } : Jvm.MethodName) jdk_38_method_10_code (2 : Nat) (Option.some Jvm.ClassFile.FieldType.boolean)).before args0 about1 = true := code_word (m := ⟨17, 3⟩) (meth := k17m3) (c := k17c3) (by decide +kernel) rfl rfl rfl (by decide +kernel)
set_option maxRecDepth 65536 in
theorem w_c27 : (Jvm.Cond.code ({ cls := "java/util/ArrayList", name := "indexOf", desc := "(Ljava/lang/Object;)I" } : Jvm.MethodName) jdk_38_method_11_code (2 : Nat) (Option.some Jvm.ClassFile.FieldType.int)).before args0 about1 = true := code_word (m := ⟨17, 4⟩) (meth := k17m4) (c := k17c4) (by decide +kernel) rfl rfl rfl (by decide +kernel)
set_option maxRecDepth 65536 in
theorem w_c28 : (Jvm.Cond.code ({ cls := "java/util/ArrayList", name := "indexOfRange", desc := "(Ljava/lang/Object;II)I" } : Jvm.MethodName) jdk_38_method_12_code (6 : Nat) (Option.some Jvm.ClassFile.FieldType.int)).before args0 about1 = true := code_word (m := ⟨17, 5⟩) (meth := k17m5) (c := k17c5) (by decide +kernel) rfl rfl rfl (by decide +kernel)
set_option maxRecDepth 65536 in
theorem w_c29 : (Jvm.Cond.code ({ cls := "java/lang/Object", name := "equals", desc := "(Ljava/lang/Object;)Z" } : Jvm.MethodName) object_method_4_code (2 : Nat) (Option.some Jvm.ClassFile.FieldType.boolean)).before args0 about1 = true := code_word (m := ⟨0, 1⟩) (meth := k0m1) (c := k0c1) (by decide +kernel) rfl rfl rfl (by decide +kernel)
set_option maxRecDepth 65536 in
theorem w_c30 : (Jvm.Cond.code ({ cls := "java/util/ArrayDeque", name := "add", desc := "(Ljava/lang/Object;)Z" } : Jvm.MethodName) jdk_21_method_28_code (2 : Nat) (Option.some Jvm.ClassFile.FieldType.boolean)).before args0 about1 = true := code_word (m := ⟨22, 6⟩) (meth := k22m6) (c := k22c6) (by decide +kernel) rfl rfl rfl (by decide +kernel)
set_option maxRecDepth 65536 in
theorem w_c31 : (Jvm.Cond.code ({ cls := "java/util/ArrayDeque", name := "addLast", desc := "(Ljava/lang/Object;)V" } : Jvm.MethodName) jdk_21_method_13_code (3 : Nat) (Option.none : Option Jvm.ClassFile.FieldType)).before args0 about1 = true := code_word (m := ⟨22, 4⟩) (meth := k22m4) (c := k22c4) (by decide +kernel) rfl rfl rfl (by decide +kernel)
set_option maxRecDepth 65536 in
theorem w_c32 : (Jvm.Cond.code ({ cls := "java/util/ArrayDeque", name := "inc", desc := "(II)I" } : Jvm.MethodName) jdk_21_method_6_code (2 : Nat) (Option.some Jvm.ClassFile.FieldType.int)).before args0 about1 = true := code_word (m := ⟨22, 1⟩) (meth := k22m1) (c := k22c1) (by decide +kernel) rfl rfl rfl (by decide +kernel)
def codes1 : List Jvm.Cond := [Jvm.Cond.code x code maxLocals ret, Jvm.Cond.code ({ cls := "com/example/deadletter/deadletter/job/Job", name := "<init>", desc := "(Ljava/util/UUID;Ljava/lang/String;Ljava/lang/String;IIILjava/lang/String;)V" } : Jvm.MethodName) prog_8_method_1_code (8 : Nat) (Option.none : Option Jvm.ClassFile.FieldType), Jvm.Cond.code ({ cls := "java/lang/Object", name := "<init>", desc := "()V" } : Jvm.MethodName) object_method_1_code (1 : Nat) (Option.none : Option Jvm.ClassFile.FieldType), Jvm.Cond.code ({ cls := "java/util/ArrayList", name := "<init>", desc := "()V" } : Jvm.MethodName) jdk_38_method_2_code (1 : Nat) (Option.none : Option Jvm.ClassFile.FieldType), Jvm.Cond.code ({ cls := "java/util/AbstractList", name := "<init>", desc := "()V" } : Jvm.MethodName) jdk_39_method_1_code (1 : Nat) (Option.none : Option Jvm.ClassFile.FieldType), Jvm.Cond.code ({ cls := "java/util/AbstractCollection", name := "<init>", desc := "()V" } : Jvm.MethodName) jdk_22_method_1_code (1 : Nat) (Option.none : Option Jvm.ClassFile.FieldType), Jvm.Cond.code ({ cls := "java/util/ArrayList", name := "add", desc := "(Ljava/lang/Object;)Z" } : Jvm.MethodName) jdk_38_method_25_code (2 : Nat) (Option.some Jvm.ClassFile.FieldType.boolean), Jvm.Cond.code ({ cls := "java/util/ArrayList", name := "add", desc := "(Ljava/lang/Object;[Ljava/lang/Object;I)V" } : Jvm.MethodName) jdk_38_method_24_code (4 : Nat) (Option.none : Option Jvm.ClassFile.FieldType), Jvm.Cond.code ({ cls := "java/util/ArrayList", name := "grow", desc := "()[Ljava/lang/Object;" } : Jvm.MethodName) jdk_38_method_7_code (1 : Nat) (Option.some (Jvm.ClassFile.FieldType.array (Jvm.ClassFile.FieldType.object "java/lang/Object"))), Jvm.Cond.code ({ cls := "java/util/ArrayList", name := "grow", desc := "(I)[Ljava/lang/Object;" } : Jvm.MethodName) jdk_38_method_6_code (4 : Nat) (Option.some (Jvm.ClassFile.FieldType.array (Jvm.ClassFile.FieldType.object "java/lang/Object"))), Jvm.Cond.code ({ cls := "java/lang/Math", name := "max", desc := "(II)I" } : Jvm.MethodName) jdk_29_method_65_code (2 : Nat) (Option.some Jvm.ClassFile.FieldType.int), Jvm.Cond.code ({ cls := "com/example/deadletter/deadletter/worker/WaitingJobs", name := "<init>", desc := "()V" } : Jvm.MethodName) prog_45_method_1_code (1 : Nat) (Option.none : Option Jvm.ClassFile.FieldType), Jvm.Cond.code ({ cls := "java/util/ArrayDeque", name := "<init>", desc := "()V" } : Jvm.MethodName) jdk_21_method_3_code (1 : Nat) (Option.none : Option Jvm.ClassFile.FieldType), Jvm.Cond.code ({ cls := "com/example/deadletter/deadletter/worker/WaitingJobs", name := "size", desc := "()I" } : Jvm.MethodName) prog_45_method_7_code (1 : Nat) (Option.some Jvm.ClassFile.FieldType.int), Jvm.Cond.code ({ cls := "java/util/ArrayDeque", name := "size", desc := "()I" } : Jvm.MethodName) jdk_21_method_37_code (1 : Nat) (Option.some Jvm.ClassFile.FieldType.int), Jvm.Cond.code ({ cls := "java/util/ArrayDeque", name := "sub", desc := "(III)I" } : Jvm.MethodName) jdk_21_method_9_code (3 : Nat) (Option.some Jvm.ClassFile.FieldType.int), Jvm.Cond.code ({ cls := "com/example/deadletter/deadletter/worker/WaitingJobs", name := "add", desc := "(Ljava/util/List;Ljava/util/Collection;Lcom/example/deadletter/deadletter/job/Job;)V" } : Jvm.MethodName) prog_45_method_2_code (6 : Nat) (Option.none : Option Jvm.ClassFile.FieldType), Jvm.Cond.code ({ cls := "java/util/ArrayList", name := "iterator", desc := "()Ljava/util/Iterator;" } : Jvm.MethodName) jdk_38_method_55_code (1 : Nat) (Option.some (Jvm.ClassFile.FieldType.object "java/util/Iterator")), Jvm.Cond.code ({ cls := "java/util/ArrayList$Itr", name := "<init>", desc := "(Ljava/util/ArrayList;)V" } : Jvm.MethodName) jdk_49_method_1_code (2 : Nat) (Option.none : Option Jvm.ClassFile.FieldType), Jvm.Cond.code ({ cls := "java/util/ArrayList$Itr", name := "hasNext", desc := "()Z" } : Jvm.MethodName) jdk_49_method_2_code (1 : Nat) (Option.some Jvm.ClassFile.FieldType.boolean), Jvm.Cond.code ({ cls := "com/example/deadletter/deadletter/worker/WaitingJobs", name := "turnCome", desc := "(Lcom/example/deadletter/deadletter/job/Job;)V" } : Jvm.MethodName) prog_45_method_3_code (2 : Nat) (Option.none : Option Jvm.ClassFile.FieldType), Jvm.Cond.code ({ cls := "com/example/deadletter/deadletter/worker/WaitingJobs", name := "take", desc := "()Lcom/example/deadletter/deadletter/job/Job;" } : Jvm.MethodName) prog_45_method_4_code (1 : Nat) (Option.some (Jvm.ClassFile.FieldType.object "com/example/deadletter/deadletter/job/Job")), Jvm.Cond.code ({ cls := "java/util/ArrayDeque", name := "pollFirst", desc := "()Ljava/lang/Object;" } : Jvm.MethodName) jdk_21_method_20_code (4 : Nat) (Option.some (Jvm.ClassFile.FieldType.object "java/lang/Object")), Jvm.Cond.code ({ cls := "java/util/ArrayDeque", name := "elementAt", desc := "([Ljava/lang/Object;I)Ljava/lang/Object;" } : Jvm.MethodName) jdk_21_method_10_code (2 : Nat) (Option.some (Jvm.ClassFile.FieldType.object "java/lang/Object")), Jvm.Cond.code ({ cls := "java/util/ArrayList$Itr", name := "next", desc := "()Ljava/lang/Object;" } : Jvm.MethodName) jdk_49_method_3_code (3 : Nat) (Option.some (Jvm.ClassFile.FieldType.object "java/lang/Object")), Jvm.Cond.code ({ cls := "java/util/ArrayList$Itr", name := "checkForComodification", desc := "()V" } : Jvm.MethodName) jdk_49_method_6_code (1 : Nat) (Option.none : Option Jvm.ClassFile.FieldType), Jvm.Cond.code ({ cls := "java/util/ArrayList", name := "contains", desc := "(Ljava/lang/Object;)Z" } : Jvm.MethodName) jdk_38_method_10_code (2 : Nat) (Option.some Jvm.ClassFile.FieldType.boolean), Jvm.Cond.code ({ cls := "java/util/ArrayList", name := "indexOf", desc := "(Ljava/lang/Object;)I" } : Jvm.MethodName) jdk_38_method_11_code (2 : Nat) (Option.some Jvm.ClassFile.FieldType.int), Jvm.Cond.code ({ cls := "java/util/ArrayList", name := "indexOfRange", desc := "(Ljava/lang/Object;II)I" } : Jvm.MethodName) jdk_38_method_12_code (6 : Nat) (Option.some Jvm.ClassFile.FieldType.int), Jvm.Cond.code ({ cls := "java/lang/Object", name := "equals", desc := "(Ljava/lang/Object;)Z" } : Jvm.MethodName) object_method_4_code (2 : Nat) (Option.some Jvm.ClassFile.FieldType.boolean), Jvm.Cond.code ({ cls := "java/util/ArrayDeque", name := "add", desc := "(Ljava/lang/Object;)Z" } : Jvm.MethodName) jdk_21_method_28_code (2 : Nat) (Option.some Jvm.ClassFile.FieldType.boolean), Jvm.Cond.code ({ cls := "java/util/ArrayDeque", name := "addLast", desc := "(Ljava/lang/Object;)V" } : Jvm.MethodName) jdk_21_method_13_code (3 : Nat) (Option.none : Option Jvm.ClassFile.FieldType), Jvm.Cond.code ({ cls := "java/util/ArrayDeque", name := "inc", desc := "(II)I" } : Jvm.MethodName) jdk_21_method_6_code (2 : Nat) (Option.some Jvm.ClassFile.FieldType.int)]
set_option maxRecDepth 65536 in
theorem codes_eq : words1.filter isCode = codes1 := rfl
theorem w_codes : ∀ c ∈ words1.filter isCode, c.before args0 about1 = true := by
  rw [codes_eq]
  intro c hc
  simp only [codes1, List.mem_cons, List.not_mem_nil, or_false] at hc
  rcases hc with rfl | rfl | rfl | rfl | rfl | rfl | rfl | rfl | rfl | rfl | rfl | rfl | rfl | rfl | rfl | rfl | rfl | rfl | rfl | rfl | rfl | rfl | rfl | rfl | rfl | rfl | rfl | rfl | rfl | rfl | rfl | rfl | rfl
  · exact w_c0
  · exact w_c1
  · exact w_c2
  · exact w_c3
  · exact w_c4
  · exact w_c5
  · exact w_c6
  · exact w_c7
  · exact w_c8
  · exact w_c9
  · exact w_c10
  · exact w_c11
  · exact w_c12
  · exact w_c13
  · exact w_c14
  · exact w_c15
  · exact w_c16
  · exact w_c17
  · exact w_c18
  · exact w_c19
  · exact w_c20
  · exact w_c21
  · exact w_c22
  · exact w_c23
  · exact w_c24
  · exact w_c25
  · exact w_c26
  · exact w_c27
  · exact w_c28
  · exact w_c29
  · exact w_c30
  · exact w_c31
  · exact w_c32
set_option maxRecDepth 65536 in
theorem w_t1 : (words1.take 24).all (fun c => isCode c || c.before args0 about1) = true := by decide +kernel
set_option maxRecDepth 65536 in
theorem w_t2 : ((words1.drop 24).take 24).all (fun c => isCode c || c.before args0 about1) = true := by decide +kernel
set_option maxRecDepth 65536 in
theorem w_t3 : (((words1.drop 24).drop 24).take 24).all (fun c => isCode c || c.before args0 about1) = true := by decide +kernel
set_option maxRecDepth 65536 in
theorem w_t4 : ((((words1.drop 24).drop 24).drop 24).take 24).all (fun c => isCode c || c.before args0 about1) = true := by decide +kernel
set_option maxRecDepth 65536 in
theorem w_t5 : (((((words1.drop 24).drop 24).drop 24).drop 24).take 24).all (fun c => isCode c || c.before args0 about1) = true := by decide +kernel
set_option maxRecDepth 65536 in
theorem w_t6 : ((((((words1.drop 24).drop 24).drop 24).drop 24).drop 24).take 24).all (fun c => isCode c || c.before args0 about1) = true := by decide +kernel
set_option maxRecDepth 65536 in
theorem w_t7 : (((((((words1.drop 24).drop 24).drop 24).drop 24).drop 24).drop 24).take 24).all (fun c => isCode c || c.before args0 about1) = true := by decide +kernel
set_option maxRecDepth 65536 in
theorem w_t8 : ((((((((words1.drop 24).drop 24).drop 24).drop 24).drop 24).drop 24).drop 24).take 24).all (fun c => isCode c || c.before args0 about1) = true := by decide +kernel
set_option maxRecDepth 65536 in
theorem w_t9 : (((((((((words1.drop 24).drop 24).drop 24).drop 24).drop 24).drop 24).drop 24).drop 24).take 24).all (fun c => isCode c || c.before args0 about1) = true := by decide +kernel
set_option maxRecDepth 65536 in
theorem w_t10 : ((((((((((words1.drop 24).drop 24).drop 24).drop 24).drop 24).drop 24).drop 24).drop 24).drop 24).take 24).all (fun c => isCode c || c.before args0 about1) = true := by decide +kernel
set_option maxRecDepth 65536 in
theorem w_t11 : ((((((((((words1.drop 24).drop 24).drop 24).drop 24).drop 24).drop 24).drop 24).drop 24).drop 24).drop 24).all (fun c => isCode c || c.before args0 about1) = true := by decide +kernel
theorem w_tables : (allAtoms (Jvm.Cond.code x code maxLocals ret :: tables_1)).before args0 about1 = true := by
  rw [allAtoms_all]
  show words1.all (fun c => c.before args0 about1) = true
  refine all_split ?_ w_codes
  rw [← List.take_append_drop 24 words1, List.all_append, w_t1, ← List.take_append_drop 24 (words1.drop 24), List.all_append, w_t2, ← List.take_append_drop 24 ((words1.drop 24).drop 24), List.all_append, w_t3, ← List.take_append_drop 24 (((words1.drop 24).drop 24).drop 24), List.all_append, w_t4, ← List.take_append_drop 24 ((((words1.drop 24).drop 24).drop 24).drop 24), List.all_append, w_t5, ← List.take_append_drop 24 (((((words1.drop 24).drop 24).drop 24).drop 24).drop 24), List.all_append, w_t6, ← List.take_append_drop 24 ((((((words1.drop 24).drop 24).drop 24).drop 24).drop 24).drop 24), List.all_append, w_t7, ← List.take_append_drop 24 (((((((words1.drop 24).drop 24).drop 24).drop 24).drop 24).drop 24).drop 24), List.all_append, w_t8, ← List.take_append_drop 24 ((((((((words1.drop 24).drop 24).drop 24).drop 24).drop 24).drop 24).drop 24).drop 24), List.all_append, w_t9, ← List.take_append_drop 24 (((((((((words1.drop 24).drop 24).drop 24).drop 24).drop 24).drop 24).drop 24).drop 24).drop 24), List.all_append, w_t10, w_t11]
  rfl
set_option maxRecDepth 65536 in
theorem w_rest : rest_1_c.before args0 about1 = true := by decide +kernel
set_option maxRecDepth 65536 in
theorem w_case : (Jvm.Cond.and given_1 narrow_1).before args0 about1 = true := by decide +kernel
theorem w_applies : (headSpec (Jvm.Cond.code x code maxLocals ret :: tables_1) room_1).applies x e0.platform about1 = true :=
  (Spec.applies_iff w_frames).mpr ⟨w_running, w_runnable, w_alone, w_named, w_hears, w_ripe, w_room, w_tables⟩
theorem atStart : AtStart classFile x code maxLocals ret World_1 tables_1 room_1 Calls_1 rest_1 Pre_1 launch0 p0 e0 about1 theMethod args0 below0 :=
  ⟨lists_1, trivial, launch0.admits_env _ _ _, launch0.least_env, fairChoices_fair.cas, fairChoices_fair.clock, w_frames, w_args, w_heap, w_applies, trivial, w_rest, w_case⟩
end start1
theorem witness_1 : WitnessClaimed_1 := ⟨start1.p0, start1.e0, start1.about1, start1.theMethod, start1.args0, start1.below0, start1.atStart⟩
end Jvm.Pilot.@@N@@
