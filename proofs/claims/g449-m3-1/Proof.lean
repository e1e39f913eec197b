import JvmDerived
import JvmDerived.Pilot.@@N@@Statement
import JvmDerived.Pilot.@@N@@Code
set_option linter.unusedVariables false
set_option linter.unusedSimpArgs false
@@BLOCK:NumsL.lean.txt@@
namespace Jvm.RoadKit
open Sem ClassFile Op Lib Jvm.Stand Jvm.Free Jvm.LawKit
section New
variable {p : Program} {l : Launch} {e : Env} {R : Room} {s : State} {m : MethodId} {args : Array Value} {below : List Frame} {meth : Method} {c : Code} {T : State} {locs : List Loc} {cells slots : Nat}
theorem retI (X : Stand p l e R s m args below meth c T locs cells slots) (hx : p.tables.exec = Jvm.exec) {pc : Nat} {Ls : Array Slot} {z : Int32} {rest : List Value} (hret : meth.sig.returnType = some .int) (hd : decode c.code pc = .ok (.ireturn, 1)) {fs : List Frame}
    (hl : ∀ (f : JFrame) (acts : List Action), f.method = m → f.locked = none → f.entered = [] → (doReturn e (T.setTop f) acts (some (.int z))).1 = T.setFrames fs) : Steps p.tables e below (T.setTop (mkF m pc Ls (.int z :: rest))) (T.setFrames fs) := by
  have hm' : T.vm.method? m = some meth := X.method'
  have hn : narrow .int (.int z) = .int z := rfl
  show Steps p.tables e below (T.setTop { method := m, pc := pc, locals := Ls, stack := _ :: rest, locked := none }) _
  jvm_step X.here [X.here.top, hx, hd, hm', hret, hn]
  first | (intro acts; rw [hl _ acts rfl rfl rfl]) | rw [hl _ _ rfl rfl rfl]
  exact Steps.refl _
end New
/-! the rest of a body: it ends, with what Q says of the value, the heap and the written places -/
section Own
variable {p : Program} {l : Launch} {e : Env} {R : Room} {s : State} {m : MethodId} {args : Array Value} {below : List Frame} {meth : Method} {c : Code} {T : State} {locs : List Loc} {cells slots : Nat} {k n : Nat} {Q : Option Value → Heap → List Loc → Prop} {Z : State} {a0 : Array Value} {h : Heap}
def OEnds (p : Program) (e : Env) (below : List Frame) (s : State) (k n : Nat) (Q : Option Value → Heap → List Loc → Prop) (A : State) : Prop :=
  ∃ s₂ o, Steps p.tables e below A s₂ ∧ s₂.status = .running ∧ Ended s₂ below o ∧ ∃ v L, o = .returned v ∧ Q v s₂.heap L ∧ FrameEnd s o s₂ L k n
theorem OEnds.pre {A B : State} (h : ∀ t, Steps p.tables e below B t → Steps p.tables e below A t) (hB : OEnds p e below s k n Q B) : OEnds p e below s k n Q A := by
  obtain ⟨s₂, o, h1, h2⟩ := hB
  exact ⟨s₂, o, h _ h1, h2⟩
theorem OEnds.int (X : Stand p l e R s m args below meth c T locs cells slots) (hx : p.tables.exec = Jvm.exec) (hlocks : meth.locks = false) (hret : meth.sig.returnType = some .int) {pc : Nat} {Ls : Array Slot} {z : Int32} {rest : List Value} (hd : decode c.code pc = .ok (.ireturn, 1)) (hk : cells ≤ k) (hn : slots ≤ n)
    (hQ : Q (some (.int z)) T.heap locs) : OEnds p e below s k n Q (T.setTop (mkF m pc Ls (.int z :: rest))) := by
  obtain ⟨fs, hr, hrun, hended, hW, hsame⟩ := X.leave (v := some (.int z)) (fun h => by rw [hret] at h; cases h) hlocks
  exact ⟨_, _, retI X hx hret hd hr, hrun, hended, _, _, rfl, hQ, ⟨_, rfl⟩, hW, hsame.mono hk hn⟩
theorem OEnds.nrw {ty : FieldType} (X : Stand p l e R s m args below meth c T locs cells slots) (hx : p.tables.exec = Jvm.exec) (hlocks : meth.locks = false) (hret : meth.sig.returnType = some ty) (ht : ty = .boolean ∨ ty = .byte ∨ ty = .char ∨ ty = .short) {pc : Nat} {Ls : Array Slot} {z : Int32} {rest : List Value} (hd : decode c.code pc = .ok (.ireturn, 1)) (hk : cells ≤ k) (hn : slots ≤ n)
    (hQ : Q (some (.int (nar ty z))) T.heap locs) : OEnds p e below s k n Q (T.setTop (mkF m pc Ls (.int z :: rest))) := by
  obtain ⟨fs, hr, hrun, hended, hW, hsame⟩ := X.leave (v := some (.int (nar ty z))) (fun h => by rw [hret] at h; cases h) hlocks
  exact ⟨_, _, retN X hx hret ht hd hr, hrun, hended, _, _, rfl, hQ, ⟨_, rfl⟩, hW, hsame.mono hk hn⟩
theorem OEnds.long (X : Stand p l e R s m args below meth c T locs cells slots) (hx : p.tables.exec = Jvm.exec) (hlocks : meth.locks = false) (hret : meth.sig.returnType = some .long) {pc : Nat} {Ls : Array Slot} {z : Int64} (hd : decode c.code pc = .ok (.lreturn, 1)) (hk : cells ≤ k) (hn : slots ≤ n)
    (hQ : Q (some (.long z)) T.heap locs) : OEnds p e below s k n Q (T.setTop (mkF m pc Ls [.long z])) := by
  obtain ⟨fs, hr, hrun, hended, hW, hsame⟩ := X.leave (v := some (.long z)) (fun h => by rw [hret] at h; cases h) hlocks
  exact ⟨_, _, X.lreturnOut hx hret hd hr, hrun, hended, _, _, rfl, hQ, ⟨_, rfl⟩, hW, hsame.mono hk hn⟩
/-- a static call of a method that writes nothing, by its contract -/
theorem callPure (X : Stand p l e R s m args below meth c T locs cells slots) (hx : p.tables.exec = Jvm.exec) (hZ : Z.Warmed39 s.vm) {own : String} {index : Nat} {y : MethodName} {bytes : ByteArray} {maxL : Nat} {ret : Option FieldType} {rm : Room} {as' : Array Value} {v : Value} {W : Nat}
    (hown : s.vm.findClass own = some m.cls) (w1 : (Cond.methodLink own index y).before a0 Z = true) (w2 : (Cond.static y).before a0 Z = true) (w3 : (Cond.initialized y.cls).before a0 Z = true) (w4 : (Cond.code y bytes maxL ret).before a0 Z = true) (hy : y.cls ≠ "java/lang/invoke/MethodHandle" ∧ y.cls ≠ "java/lang/invoke/VarHandle")
    (eT : T.heap = h)
    (hM : MetFree l y (head1 [Cond.code y bytes maxL ret] rm) (fun a U => a = as' ∧ Z.Warmed39 U.vm ∧ U.heap = h) (fun _ _ _ _ _ => True) (fun _ U o U' => ∃ v' L, o = .returned v' ∧ (v' = some v ∧ L = [] ∧ U'.heap = h) ∧ FrameEnd U o U' L rm.cells rm.slots))
    (hc0 : rm.cells = 0) (hs0 : rm.slots = 0) (hf : rm.frames + 1 ≤ R.frames) (hl : W + (maxL + 11) + rm.locals ≤ R.locals)
    {pc : Nat} {Ls : Array Slot} {argsL rest : List Value} (hsize : Ls.size = c.maxLocals) (hlen : ∀ sig, parseMethodDescriptor y.desc = some sig → argsL.length = sig.parameters.length) (has : argsL.toArray = as') (hW : (rest.map fun v => v.category).sum ≤ W)
    (hd : decode c.code pc = .ok (.invokestatic index, 3)) (hcells : cells ≤ R.cells) (hslots : slots ≤ R.slots) :
    ∃ T', Stand p l e R s m args below meth c T' locs cells slots ∧ T'.heap = h ∧
      ∀ target, Steps p.tables e below (T'.setTop (mkF m (pc + 3) Ls (v :: rest))) target → Steps p.tables e below (T.setTop (mkF m pc Ls (argsL.reverse ++ rest))) target := by
  obtain ⟨v', vm₁, ⟨T1, L1, k1, n1⟩, -, X1, ⟨Lc, ⟨e1, e2, e3⟩, l1, y1, z1⟩, st⟩ := Jvm.LawKit.callS X hx (y := y) hown (mvT hZ w1) (mvT hZ w2) (mvT hZ w3) (mvT hZ w4) hy
    (backOf (W := W) (Q := fun v' h' L => v' = some v ∧ L = [] ∧ h' = h) hM hZ w4 w3 hf hl) (g := mkF m pc Ls (argsL.reverse ++ rest)) rfl hsize (argsL := argsL) (rest := rest) hlen rfl
    (by show 2 * 0 + _ ≤ _; rw [Nat.mul_zero, Nat.zero_add]; exact hW) hd (fun _ _ => ⟨has, eT, by rw [hc0]; exact hcells, by rw [hs0]; exact hslots⟩)
  dsimp only [Pt.U, Pt.locs, Pt.cells, Pt.slots] at X1 l1 y1 z1 st e3
  subst l1 y1 z1 e1 e2
  rw [hc0, hs0, List.append_nil, Nat.add_zero, Nat.add_zero] at X1
  exact ⟨T1, X1, e3, st⟩
end Own
end Jvm.RoadKit
namespace Jvm.RoadKit
open Sem ClassFile Op Lib Jvm.Stand Jvm.Free Jvm.LawKit
theorem nd_eq {α : Type} {l : List α} (N : l.Nodup) {i j : Nat} {x : α} (hi : l[i]? = some x) (hj : l[j]? = some x) : i = j := by
  obtain ⟨h1, e1⟩ := List.getElem?_eq_some_iff.mp hi
  obtain ⟨h2, e2⟩ := List.getElem?_eq_some_iff.mp hj
  have P := List.pairwise_iff_getElem.mp N
  rcases Nat.lt_trichotomy i j with h | h | h
  · exact absurd (e1.trans e2.symm) (P i j h1 h2 h)
  · exact h
  · exact absurd (e2.trans e1.symm) (P j i h2 h1 h)
/-! what the walk knows of the cells that it made: objects by their fields, arrays by their exact contents -/
section OWorld
variable {Z : State} {n0 : Nat} {h h' : Heap} {a b : Addr} {C O nm d : String} {ty : FieldType} {vs : List Value} {v old : Value} {sl : Nat}
def OAL (Z : State) (h : Heap) (a : Addr) (ty : FieldType) (vs : List Value) : Prop := ∃ c : Cell, Arr Z h a c ty ∧ c.slots = vs.toArray
abbrev OFEnt := String × String × String × Value
abbrev OEnt := Addr × String × List OFEnt × Option (FieldType × List Value)
abbrev eO (a : Addr) (C : String) (fs : List OFEnt) : OEnt := (a, C, fs, none)
abbrev eA (a : Addr) (ty : FieldType) (vs : List Value) : OEnt := (a, "", [], some (ty, vs))
def OObjOk (Z : State) (h : Heap) (a : Addr) (C : String) (fs : List OFEnt) : Prop :=
  Exa Z h a C ∧ (∀ f ∈ fs, Fld Z h a f.1 f.2.1 f.2.2.1 f.2.2.2) ∧ (fs.map fun f => slotOf Z f.1 f.2.1 f.2.2.1).Nodup
def OEntOk (Z : State) (h : Heap) (e : OEnt) : Prop := match e.2.2.2 with
  | none => OObjOk Z h e.1 e.2.1 e.2.2.1
  | some q => OAL Z h e.1 q.1 q.2
def OWorld (Z : State) (n0 : Nat) (h : Heap) (es : List OEnt) : Prop := Old Z n0 h ∧ (∀ e ∈ es, n0 ≤ e.1 ∧ OEntOk Z h e) ∧ (es.map (·.1)).Nodup
theorem OAL.lt (F : OAL Z h a ty vs) : a < h.size := by obtain ⟨c, A, -⟩ := F; exact A.lt
theorem OAL.ext (F : OAL Z h a ty vs) (E : Ext h h') : OAL Z h' a ty vs := by obtain ⟨c, A, r⟩ := F; exact ⟨c, A.ext E, r⟩
theorem OAL.other (F : OAL Z h b ty vs) (W : Wr h h' a sl v) (q : b ≠ a) : OAL Z h' b ty vs := by obtain ⟨c, A, r⟩ := F; exact ⟨c, A.other W q, r⟩
theorem OAL.same (F : OAL Z h a ty vs) (W : Wr h h' a sl v) : OAL Z h' a ty (vs.set sl v) := by
  obtain ⟨c, A, r⟩ := F
  refine ⟨_, A.same W, ?_⟩
  simp [Cell.setSlot, r]
theorem OAL.new {cA : ClassId} {z : Int32} (A : Arr Z h a (newA cA ty z) ty) : OAL Z h a ty (List.replicate z.toNatClampNeg (defaultValue ty)) :=
  ⟨_, A, by simp [newA]⟩
theorem OObjOk.lt {fs : List OFEnt} (F : OObjOk Z h a C fs) : a < h.size := F.1.lt
theorem OObjOk.ext {fs : List OFEnt} (F : OObjOk Z h a C fs) (E : Ext h h') : OObjOk Z h' a C fs := ⟨F.1.ext E, fun f hf => (F.2.1 f hf).ext E, F.2.2⟩
theorem OObjOk.other {fs : List OFEnt} (F : OObjOk Z h b C fs) (W : Wr h h' a sl v) (q : b ≠ a) : OObjOk Z h' b C fs := ⟨F.1.wr W, fun f hf => (F.2.1 f hf).other W (Or.inl q), F.2.2⟩
theorem OObjOk.same {fs : List OFEnt} {j : Nat} (F : OObjOk Z h a C fs) (hj : fs[j]? = some (O, nm, d, old)) (W : Wr h h' a (slotOf Z O nm d) v) : OObjOk Z h' a C (fs.set j (O, nm, d, v)) := by
  obtain ⟨F1, F2, F3⟩ := F
  obtain ⟨hl, hj'⟩ := List.getElem?_eq_some_iff.mp hj
  have hm : (fs.set j (O, nm, d, v)).map (fun f => slotOf Z f.1 f.2.1 f.2.2.1) = fs.map (fun f => slotOf Z f.1 f.2.1 f.2.2.1) := by
    apply List.ext_getElem?
    intro i
    simp only [List.getElem?_map, List.getElem?_set]
    by_cases hi : j = i
    · subst hi; simp [hl, hj']
    · simp [hi]
  refine ⟨F1.wr W, fun f hf => ?_, by rw [hm]; exact F3⟩
  obtain ⟨i, hi⟩ := List.mem_iff_getElem?.mp hf
  rw [List.getElem?_set] at hi
  by_cases q : j = i
  · subst q
    simp [hl] at hi
    subst hi
    exact (F2 _ (List.mem_of_getElem? hj)).same W
  · simp only [q, if_false] at hi
    refine (F2 f (List.mem_of_getElem? hi)).other W (Or.inr fun e => q ?_)
    exact nd_eq F3 (i := j) (j := i) (x := slotOf Z O nm d) (by simp [hj]) (by simp [hi, e])
theorem OEntOk.lt {e : OEnt} (F : OEntOk Z h e) : e.1 < h.size := by
  obtain ⟨a, C, fs, o⟩ := e
  cases o with
  | none => exact OObjOk.lt F
  | some q => exact OAL.lt F
theorem OEntOk.ext {e : OEnt} (F : OEntOk Z h e) (E : Ext h h') : OEntOk Z h' e := by
  obtain ⟨a, C, fs, o⟩ := e
  cases o with
  | none => exact OObjOk.ext F E
  | some q => exact OAL.ext F E
theorem OEntOk.other {e : OEnt} (F : OEntOk Z h e) (W : Wr h h' a sl v) (q : e.1 ≠ a) : OEntOk Z h' e := by
  obtain ⟨a, C, fs, o⟩ := e
  cases o with
  | none => exact OObjOk.other F W q
  | some r => exact OAL.other F W q
theorem OWorld.start (s : State) : OWorld s s.heap.size s.heap [] := ⟨Old.start s, (fun _ q => nomatch q), List.nodup_nil⟩
theorem OWorld.nil {es : List OEnt} (W : OWorld Z n0 h es) : OWorld Z n0 h [] := ⟨W.1, (fun _ q => nomatch q), List.nodup_nil⟩
theorem OWorld.at {es : List OEnt} {k : Nat} {e : OEnt} (W : OWorld Z n0 h es) (hk : es[k]? = some e) : n0 ≤ e.1 ∧ OEntOk Z h e := W.2.1 e (List.mem_of_getElem? hk)
theorem OWorld.obj {es : List OEnt} {k : Nat} {fs : List OFEnt} (W : OWorld Z n0 h es) (hk : es[k]? = some (eO a C fs)) : OObjOk Z h a C fs := (W.at hk).2
theorem OWorld.arr {es : List OEnt} {k : Nat} (W : OWorld Z n0 h es) (hk : es[k]? = some (eA a ty vs)) : OAL Z h a ty vs := (W.at hk).2
theorem OWorld.fld {es : List OEnt} {k j : Nat} {fs : List OFEnt} (W : OWorld Z n0 h es) (hk : es[k]? = some (eO a C fs)) (hj : fs[j]? = some (O, nm, d, v)) : Fld Z h a O nm d v := (W.obj hk).2.1 _ (List.mem_of_getElem? hj)
theorem OWorld.ext {es : List OEnt} (W : OWorld Z n0 h es) (E : Ext h h') : OWorld Z n0 h' es := ⟨W.1.ext E, fun e he => ⟨(W.2.1 e he).1, (W.2.1 e he).2.ext E⟩, W.2.2⟩
theorem OWorld.push {es : List OEnt} (W : OWorld Z n0 h es) (E : Ext h h') {r : String × List OFEnt × Option (FieldType × List Value)} (hr : OEntOk Z h' (h.size, r)) : OWorld Z n0 h' (es ++ [(h.size, r)]) := by
  have hn : n0 ≤ h.size := by rw [← W.1.1]; exact W.1.2.1
  refine ⟨W.1.ext E, fun e he => ?_, ?_⟩
  · rcases List.mem_append.mp he with he | he
    · exact ⟨(W.2.1 e he).1, (W.2.1 e he).2.ext E⟩
    · cases List.mem_singleton.mp he; exact ⟨hn, hr⟩
  · rw [List.map_append, List.nodup_append]
    refine ⟨W.2.2, by simp, fun x hx y hy => ?_⟩
    obtain ⟨e, he, rfl⟩ := List.mem_map.mp hx
    simp at hy
    subst hy
    exact Nat.ne_of_lt (W.2.1 e he).2.lt
theorem nodup_at {es : List OEnt} (N : (es.map (·.1)).Nodup) {k i : Nat} {e f : OEnt} (hk : es[k]? = some e) (hi : es[i]? = some f) (q : k ≠ i) : f.1 ≠ e.1 := fun e1 => q (nd_eq N (i := k) (j := i) (x := e.1) (by simp [hk]) (by simp [hi, e1]))
theorem OWorld.upd {es : List OEnt} {k : Nat} {e e' : OEnt} (W : OWorld Z n0 h es) (hk : es[k]? = some e) (Wr' : Wr h h' e.1 sl v) (he : e'.1 = e.1) (hok : OEntOk Z h' e') : OWorld Z n0 h' (es.set k e') := by
  obtain ⟨hl, hk'⟩ := List.getElem?_eq_some_iff.mp hk
  have hm : (es.set k e').map (·.1) = es.map (·.1) := by
    apply List.ext_getElem?
    intro i
    simp only [List.getElem?_map, List.getElem?_set]
    by_cases hi : k = i
    · subst hi; simp [hl, hk', he]
    · simp [hi]
  refine ⟨W.1.wr Wr' (W.at hk).1, fun f hf => ?_, by rw [hm]; exact W.2.2⟩
  obtain ⟨i, hi⟩ := List.mem_iff_getElem?.mp hf
  rw [List.getElem?_set] at hi
  by_cases q : k = i
  · subst q
    simp [hl] at hi
    subst hi
    exact ⟨by rw [he]; exact (W.at hk).1, hok⟩
  · simp only [q, if_false] at hi
    exact ⟨(W.at hi).1, (W.at hi).2.other Wr' (nodup_at W.2.2 hk hi q)⟩
theorem OWorld.wrA {es : List OEnt} {k : Nat} (W : OWorld Z n0 h es) (hk : es[k]? = some (eA a ty vs)) (Wr' : Wr h h' a sl v) : OWorld Z n0 h' (es.set k (eA a ty (vs.set sl v))) :=
  W.upd hk Wr' rfl (OAL.same (W.arr hk) Wr')
theorem OWorld.wrO {es : List OEnt} {k j : Nat} {fs : List OFEnt} (W : OWorld Z n0 h es) (hk : es[k]? = some (eO a C fs)) (hj : fs[j]? = some (O, nm, d, old)) (Wr' : Wr h h' a (slotOf Z O nm d) v) : OWorld Z n0 h' (es.set k (eO a C (fs.set j (O, nm, d, v)))) :=
  W.upd hk Wr' rfl (OObjOk.same (W.obj hk) hj Wr')
/-- the fields of a class as the sheet lays them, at their first values -/
def OLaidAll (Z : State) (a0 : Array Value) (C : String) : List OFEnt → Prop
  | [] => True
  | f :: fs => (Laid Z a0 C f.1 f.2.1 f.2.2.1 ∧ ∃ ty, parseFieldDescriptor f.2.2.1 = some ty ∧ f.2.2.2 = defaultValue ty) ∧ OLaidAll Z a0 C fs
theorem OLaidAll.mem {a0 : Array Value} : ∀ {fs : List OFEnt}, OLaidAll Z a0 C fs → ∀ f ∈ fs, Laid Z a0 C f.1 f.2.1 f.2.2.1 ∧ ∃ ty, parseFieldDescriptor f.2.2.1 = some ty ∧ f.2.2.2 = defaultValue ty
  | _ :: _, H, f, hf => (List.mem_cons.mp hf).elim (fun e => by subst e; exact H.1) (fun q => OLaidAll.mem H.2 f q)
theorem OLaidAll.nodup {a0 : Array Value} : ∀ {fs : List OFEnt}, OLaidAll Z a0 C fs → (fs.map fun f => f.2.1).Nodup → (fs.map fun f => slotOf Z f.1 f.2.1 f.2.2.1).Nodup
  | [], _, _ => List.nodup_nil
  | g :: gs, H, N => by
    rw [List.map_cons, List.nodup_cons] at N ⊢
    refine ⟨fun q => ?_, OLaidAll.nodup H.2 N.2⟩
    obtain ⟨f, hf, e⟩ := List.mem_map.mp q
    obtain ⟨L, t, ht, -⟩ := OLaidAll.mem H.2 f hf
    obtain ⟨L', t', ht', -⟩ := H.1
    exact slot_ne L L' (fun e => N.1 (List.mem_map.mpr ⟨f, hf, e⟩)) ht ht' e
end OWorld
/-- a class, no interface -/
def OIsCls (Z : State) (C : String) : Prop := ∀ s : State, Z.Warmed39 s.vm → ∃ c k, s.vm.findClass C = some c ∧ s.vm.classes[c]? = some k ∧ k.isInterface = false
theorem nf_sel {Z : State} {a0 : Array Value} {C D : String} {x z : MethodName} (w : (Cond.selects C x z).before a0 Z = true) (hD : z.cls = D) : OIsCls Z D := fun s hZ => by
  subst hD
  obtain ⟨c2, r2, m2, q1, q2, q3, q4, kP, hkP, hkPi⟩ := Cond.selects_spec (mvT (args := #[]) hZ w)
  exact ⟨m2.cls, kP, findClass_of_methodNamed q3, hkP, hkPi⟩
theorem OIsCls.nf {Z s : State} {y : MethodName} (h : OIsCls Z y.cls) (hZ : Z.Warmed39 s.vm) : NotFace s y := fun r0 h0 => by
  obtain ⟨c, k, e1, e2, e3⟩ := h s hZ
  cases (findClass_of_methodNamed h0).symm.trans e1
  exact ⟨k, e2, e3⟩
/-! where the walk stands, with what it knows -/
section OHere
variable {p : Program} {l : Launch} {e : Env} {R : Room} {s : State} {m : MethodId} {args : Array Value} {below : List Frame} {meth : Method} {c : Code} {T : State} {cells slots : Nat} {k n : Nat} {Q : Option Value → Heap → List Loc → Prop} {Z : State} {a0 : Array Value} {n0 : Nat} {es : List OEnt} {a : Addr} {vs : List Value} {rest : List Value} {pc : Nat} {Ls : Array Slot} {i : Nat} {j : Int32} {q : Nat} {target : State} {g : JFrame}
def OHere (p : Program) (l : Launch) (e : Env) (R : Room) (s : State) (m : MethodId) (args : Array Value) (below : List Frame) (meth : Method) (c : Code) (Z : State) (n0 : Nat) (T : State) (cells slots : Nat) (es : List OEnt) : Prop :=
  ∃ locs, Stand p l e R s m args below meth c T locs cells slots ∧ OWorld Z n0 T.heap es ∧ Fr n0 locs
theorem OHere.here (H : OHere p l e R s m args below meth c Z n0 T cells slots es) : At T m c below := H.elim fun _ h => h.1.here
theorem OHere.more {cells' slots' : Nat} (H : OHere p l e R s m args below meth c Z n0 T cells slots es) (h1 : cells ≤ cells') (h2 : slots ≤ slots') : OHere p l e R s m args below meth c Z n0 T cells' slots' es := by
  obtain ⟨locs, X, W, N⟩ := H; exact ⟨locs, X.more h1 h2, W, N⟩
theorem OHere.ldcI (H : OHere p l e R s m args below meth c Z n0 T cells slots es) (hx : p.tables.exec = Jvm.exec) {own : String} {index : Nat} {v : Int32} (hown : s.vm.findClass own = some m.cls) (hc : (Cond.constant own index v).before args s = true) (hg : g.method = m) (hd : decode c.code g.pc = .ok (.ldc index, 2))
    (hr : Steps p.tables e below (T.setTop { g with pc := g.pc + 2, stack := .int v :: g.stack }) target) : Steps p.tables e below (T.setTop g) target := by
  obtain ⟨locs, X, W, N⟩ := H; exact X.ldcI hx hown hc hg hd hr
theorem OHere.ldc2J (H : OHere p l e R s m args below meth c Z n0 T cells slots es) (hx : p.tables.exec = Jvm.exec) {own : String} {index : Nat} {v : Int64} (hown : s.vm.findClass own = some m.cls) (hc : (Cond.constantLong own index v).before args s = true) (hg : g.method = m) (hd : decode c.code g.pc = .ok (.ldc2_w index, 3))
    (hr : Steps p.tables e below (T.setTop { g with pc := g.pc + 3, stack := .long v :: g.stack }) target) : Steps p.tables e below (T.setTop g) target := by
  obtain ⟨locs, X, W, N⟩ := H; exact X.ldc2J hx hown hc hg hd hr
theorem OHere.irem (H : OHere p l e R s m args below meth c Z n0 T cells slots es) (hx : p.tables.exec = Jvm.exec) (hg : g.method = m) {x y : Int32} (hd : decode c.code g.pc = .ok (.irem, 1)) (hs : g.stack = .int y :: .int x :: rest) (hy : y ≠ 0)
    (hr : Steps p.tables e below (T.setTop { g with pc := g.pc + 1, stack := .int (x % y) :: rest }) target) : Steps p.tables e below (T.setTop g) target := by
  obtain ⟨locs, X, W, N⟩ := H; exact iremM X hx hg hd hs hy hr
theorem inside (A : Cell) (hA : A.slots = vs.toArray) (hj : ¬ j < 0) (hi : j.toNatClampNeg = i) (hl : i < vs.length) : ¬ (j < 0 ∨ A.slots.size ≤ j.toNatClampNeg) := by
  rw [hA, hi]; rintro (h | h)
  · exact hj h
  · simp at h; omega
/-- loads from an array: iaload, laload, baload -/
theorem OHere.iaload (H : OHere p l e R s m args below meth c Z n0 T cells slots es) (hx : p.tables.exec = Jvm.exec) (hZ : Z.Warmed39 s.vm) (hq : es[q]? = some (eA a .int vs)) {v : Value} (hj : ¬ j < 0) (hi : j.toNatClampNeg = i) (hv : vs[i]? = some v) (hd : decode c.code pc = .ok (.iaload, 1))
    (hr : Steps p.tables e below (T.setTop (mkF m (pc + 1) Ls (v :: rest))) target) : Steps p.tables e below (T.setTop (mkF m pc Ls (.int j :: .ref a :: rest))) target := by
  obtain ⟨locs, X, W, N⟩ := H
  obtain ⟨A, ⟨h1, h2, h3⟩, hA⟩ := W.arr hq
  exact X.iaload hx h1 (State.isArrayOf_alike hZ.alike h2) h3 (inside A hA hj hi (List.getElem?_eq_some_iff.mp hv).1) (by rw [hA, hi]; simpa using hv) (g := mkF m pc Ls (.int j :: .ref a :: rest)) rfl rfl hd target hr
theorem OHere.laload (H : OHere p l e R s m args below meth c Z n0 T cells slots es) (hx : p.tables.exec = Jvm.exec) (hZ : Z.Warmed39 s.vm) (hq : es[q]? = some (eA a .long vs)) {v : Value} (hj : ¬ j < 0) (hi : j.toNatClampNeg = i) (hv : vs[i]? = some v) (hd : decode c.code pc = .ok (.laload, 1))
    (hr : Steps p.tables e below (T.setTop (mkF m (pc + 1) Ls (v :: rest))) target) : Steps p.tables e below (T.setTop (mkF m pc Ls (.int j :: .ref a :: rest))) target := by
  obtain ⟨locs, X, W, N⟩ := H
  obtain ⟨A, ⟨h1, h2, h3⟩, hA⟩ := W.arr hq
  exact X.laload hx h1 (State.isArrayOf_alike hZ.alike h2) h3 (inside A hA hj hi (List.getElem?_eq_some_iff.mp hv).1) (by rw [hA, hi]; simpa using hv) (g := mkF m pc Ls (.int j :: .ref a :: rest)) rfl rfl hd target hr
theorem OHere.baload (H : OHere p l e R s m args below meth c Z n0 T cells slots es) (hx : p.tables.exec = Jvm.exec) (hZ : Z.Warmed39 s.vm) (hq : es[q]? = some (eA a .byte vs)) {v : Value} (hj : ¬ j < 0) (hi : j.toNatClampNeg = i) (hv : vs[i]? = some v) (hd : decode c.code pc = .ok (.baload, 1))
    (hr : Steps p.tables e below (T.setTop (mkF m (pc + 1) Ls (v :: rest))) target) : Steps p.tables e below (T.setTop (mkF m pc Ls (.int j :: .ref a :: rest))) target := by
  obtain ⟨locs, X, W, N⟩ := H
  obtain ⟨A, ⟨h1, h2, h3⟩, hA⟩ := W.arr hq
  exact X.baloadBytes hx h1 (State.isArrayOf_alike hZ.alike h2) h3 (inside A hA hj hi (List.getElem?_eq_some_iff.mp hv).1) (by rw [hA, hi]; simpa using hv) (g := mkF m pc Ls (.int j :: .ref a :: rest)) rfl rfl hd target hr
theorem OHere.len (H : OHere p l e R s m args below meth c Z n0 T cells slots es) (hx : p.tables.exec = Jvm.exec) (hZ : Z.Warmed39 s.vm) {ty : FieldType} (hq : es[q]? = some (eA a ty vs)) {z : Int32} (hz : vs.length.toInt32 = z) (hd : decode c.code pc = .ok (.arraylength, 1))
    (hr : Steps p.tables e below (T.setTop (mkF m (pc + 1) Ls (.int z :: rest))) target) : Steps p.tables e below (T.setTop (mkF m pc Ls (.ref a :: rest))) target := by
  obtain ⟨locs, X, W, N⟩ := H
  obtain ⟨A, ⟨h1, h2, h3⟩, hA⟩ := W.arr hq
  refine X.arraylength hx h1 (State.isArrayOf_alike hZ.alike h2) (g := mkF m pc Ls (.ref a :: rest)) rfl rfl hd target ?_
  have : A.slots.size.toInt32 = z := by rw [hA, ← hz]; simp
  rw [this]; exact hr
/-- stores into an array -/
theorem OHere.iastore (H : OHere p l e R s m args below meth c Z n0 T cells slots es) (hx : p.tables.exec = Jvm.exec) (hZ : Z.Warmed39 s.vm) (hq : es[q]? = some (eA a .int vs)) {x : Int32} (hj : ¬ j < 0) (hi : j.toNatClampNeg = i) (hl : i < vs.length) (hd : decode c.code pc = .ok (.iastore, 1)) :
    ∃ T', OHere p l e R s m args below meth c Z n0 T' cells slots (es.set q (eA a .int (vs.set i (.int x)))) ∧ ∀ target, Steps p.tables e below (T'.setTop (mkF m (pc + 1) Ls rest)) target → Steps p.tables e below (T.setTop (mkF m pc Ls (.int x :: .int j :: .ref a :: rest))) target := by
  obtain ⟨locs, X, W, N⟩ := H
  obtain ⟨A, hAr, hA⟩ := W.arr hq
  obtain ⟨T', h', X', e', Wr', st⟩ := stI X hx hZ rfl hAr (inside A hA hj hi hl) (g := mkF m pc Ls (.int x :: .int j :: .ref a :: rest)) rfl rfl hd
  subst e'
  rw [hi] at Wr' X'
  exact ⟨T', ⟨_, X', W.wrA hq Wr', N.app fun y hy => by cases List.mem_singleton.mp hy; exact (W.at hq).1⟩, st⟩
theorem OHere.lastore (H : OHere p l e R s m args below meth c Z n0 T cells slots es) (hx : p.tables.exec = Jvm.exec) (hZ : Z.Warmed39 s.vm) (hq : es[q]? = some (eA a .long vs)) {x : Int64} (hj : ¬ j < 0) (hi : j.toNatClampNeg = i) (hl : i < vs.length) (hd : decode c.code pc = .ok (.lastore, 1)) :
    ∃ T', OHere p l e R s m args below meth c Z n0 T' cells slots (es.set q (eA a .long (vs.set i (.long x)))) ∧ ∀ target, Steps p.tables e below (T'.setTop (mkF m (pc + 1) Ls rest)) target → Steps p.tables e below (T.setTop (mkF m pc Ls (.long x :: .int j :: .ref a :: rest))) target := by
  obtain ⟨locs, X, W, N⟩ := H
  obtain ⟨A, hAr, hA⟩ := W.arr hq
  obtain ⟨T', h', X', e', Wr', st⟩ := stJ X hx hZ rfl hAr (inside A hA hj hi hl) (g := mkF m pc Ls (.long x :: .int j :: .ref a :: rest)) rfl rfl hd
  subst e'
  rw [hi] at Wr' X'
  exact ⟨T', ⟨_, X', W.wrA hq Wr', N.app fun y hy => by cases List.mem_singleton.mp hy; exact (W.at hq).1⟩, st⟩
theorem OHere.bastore (H : OHere p l e R s m args below meth c Z n0 T cells slots es) (hx : p.tables.exec = Jvm.exec) (hZ : Z.Warmed39 s.vm) (hq : es[q]? = some (eA a .byte vs)) {x : Int32} (hj : ¬ j < 0) (hi : j.toNatClampNeg = i) (hl : i < vs.length) (hd : decode c.code pc = .ok (.bastore, 1)) :
    ∃ T', OHere p l e R s m args below meth c Z n0 T' cells slots (es.set q (eA a .byte (vs.set i (.int (nar .byte x))))) ∧ ∀ target, Steps p.tables e below (T'.setTop (mkF m (pc + 1) Ls rest)) target → Steps p.tables e below (T.setTop (mkF m pc Ls (.int x :: .int j :: .ref a :: rest))) target := by
  obtain ⟨locs, X, W, N⟩ := H
  obtain ⟨A, hAr, hA⟩ := W.arr hq
  obtain ⟨T', h', X', e', Wr', st⟩ := stB X hx hZ rfl hAr (inside A hA hj hi hl) (g := mkF m pc Ls (.int x :: .int j :: .ref a :: rest)) rfl rfl hd
  subst e'
  rw [hi] at Wr' X'
  exact ⟨T', ⟨_, X', W.wrA hq Wr', N.app fun y hy => by cases List.mem_singleton.mp hy; exact (W.at hq).1⟩, st⟩
/-- a new array of a primitive type; its address gets a name -/
theorem OHere.newarray (H : OHere p l e R s m args below meth c Z n0 T cells slots es) (hx : p.tables.exec = Jvm.exec) (hZ : Z.Warmed39 s.vm) {aty : ArrayType} (w : (Cond.arrayClass (newarray.typeOf aty)).before a0 Z = true) (hd : decode c.code pc = .ok (.newarray aty, 2)) {z : Int32} (hn : ¬ z < 0) {cap : Nat} (hcap : z.toNatClampNeg = cap) (hb : cap * 8 ≤ 536870912) (hc : cells + 1 ≤ R.cells) (hl : slots + cap ≤ R.slots) :
    ∃ T' b, OHere p l e R s m args below meth c Z n0 T' (cells + 1) (slots + cap) (es ++ [eA b (newarray.typeOf aty) (List.replicate cap (defaultValue (newarray.typeOf aty)))]) ∧ ∀ target, Steps p.tables e below (T'.setTop (mkF m (pc + 2) Ls (.ref b :: rest))) target → Steps p.tables e below (T.setTop (mkF m pc Ls (.int z :: rest))) target := by
  obtain ⟨locs, X, W, N⟩ := H
  obtain ⟨T', h', cA, X', e', E', A', st⟩ := newP X hx hZ w rfl (g := mkF m pc Ls (.int z :: rest)) rfl hd rfl hn (Nat.le_of_eq hcap) hb hc hl
  subst e'
  have A2 := OAL.new A'
  rw [hcap] at A2
  exact ⟨T', T.heap.size, ⟨_, X', W.push E' A2, N⟩, st⟩
/-- a new object -/
theorem OHere.new (H : OHere p l e R s m args below meth c Z n0 T cells slots es) (hx : p.tables.exec = Jvm.exec) (hZ : Z.Warmed39 s.vm) {own C : String} {index sz : Nat} (hown : s.vm.findClass own = some m.cls) (w : (Cond.classLink own index C).before a0 Z = true) (wi : (Cond.instantiable C sz).before a0 Z = true) (wz : (Cond.initialized C).before a0 Z = true) (fs : List OFEnt) (hfs : OLaidAll Z a0 C fs) (hnd : (fs.map fun f => f.2.1).Nodup) (hd : decode c.code pc = .ok (.new index, 3)) (hc : cells + 1 ≤ R.cells) (hl : slots + sz ≤ R.slots) :
    ∃ T' b, OHere p l e R s m args below meth c Z n0 T' (cells + 1) (slots + sz) (es ++ [eO b C fs]) ∧ ∀ target, Steps p.tables e below (T'.setTop (mkF m (pc + 3) Ls (.ref b :: rest))) target → Steps p.tables e below (T.setTop (mkF m pc Ls rest)) target := by
  obtain ⟨locs, X, W, N⟩ := H
  obtain ⟨T', h', X', e', E', A', D', -, st⟩ := newO X hx hZ hown w wi wz rfl (g := mkF m pc Ls rest) rfl hd hc hl
  subst e'
  refine ⟨T', T.heap.size, ⟨_, X', W.push E' ⟨A', fun f hf => ?_, hfs.nodup hnd⟩, N⟩, st⟩
  obtain ⟨L, ty, ht, hv⟩ := hfs.mem f hf
  rw [hv]; exact D' L ht
theorem OHere.initO (H : OHere p l e R s m args below meth c Z n0 T cells slots es) (hx : p.tables.exec = Jvm.exec) (hZ : Z.Warmed39 s.vm) {own : String} {index : Nat} (hown : s.vm.findClass own = some m.cls) (w1 : (Cond.methodLink own index Lib.objectInit).before a0 Z = true) (w2 : (Cond.instanceMethod Lib.objectInit).before a0 Z = true)
    (w3 : (Cond.code Lib.objectInit ⟨#[0xb1]⟩ 1 none).before a0 Z = true) (hsize : Ls.size = c.maxLocals) (hd : decode c.code pc = .ok (.invokespecial index, 3)) (hf : 1 ≤ R.frames) {W : Nat} (hW : (rest.map fun v => v.category).sum ≤ W) (hl : W + 12 ≤ R.locals) :
    ∃ T', OHere p l e R s m args below meth c Z n0 T' cells slots es ∧ ∀ target, Steps p.tables e below (T'.setTop (mkF m (pc + 3) Ls rest)) target → Steps p.tables e below (T.setTop (mkF m pc Ls (.ref a :: rest))) target := by
  obtain ⟨locs, X, W', N⟩ := H
  obtain ⟨T', X', e', st⟩ := RoadKit.initO X hx hZ hown w1 w2 w3 rfl (g := mkF m pc Ls (.ref a :: rest)) rfl hsize rfl hd hf (W := W) (by show 2 * 0 + _ ≤ _; rw [Nat.mul_zero, Nat.zero_add]; exact hW) hl
  exact ⟨T', ⟨_, X', by rw [e']; exact W', N⟩, st⟩
theorem OHere.getfield (H : OHere p l e R s m args below meth c Z n0 T cells slots es) (hx : p.tables.exec = Jvm.exec) (hZ : Z.Warmed39 s.vm) {own R0 O nm d C : String} {index f : Nat} {fs : List OFEnt} {v : Value} (hown : s.vm.findClass own = some m.cls) (w : (Cond.fieldLink own index R0 nm d).before a0 Z = true) (via : Via Z R0 O nm d) (hq : es[q]? = some (eO a C fs)) (hf : fs[f]? = some (O, nm, d, v)) (hd : decode c.code pc = .ok (.getfield index, 3)) :
    ∃ T', OHere p l e R s m args below meth c Z n0 T' cells slots es ∧ ∀ target, Steps p.tables e below (T'.setTop (mkF m (pc + 3) Ls (v :: rest))) target → Steps p.tables e below (T.setTop (mkF m pc Ls (.ref a :: rest))) target := by
  obtain ⟨locs, X, W, N⟩ := H
  obtain ⟨T', X', e', st⟩ := getF X hx hZ hown (host := "") (Or.inl w) via rfl (W.fld hq hf) (g := mkF m pc Ls (.ref a :: rest)) rfl rfl hd
  exact ⟨T', ⟨_, X', by rw [e']; exact W, N⟩, st⟩
theorem OHere.putfield (H : OHere p l e R s m args below meth c Z n0 T cells slots es) (hx : p.tables.exec = Jvm.exec) (hZ : Z.Warmed39 s.vm) {own R0 O nm d C : String} {index f kk : Nat} {fs : List OFEnt} {v old : Value} {ty : FieldType} (hown : s.vm.findClass own = some m.cls) (w : (Cond.fieldLink own index R0 nm d).before a0 Z = true) (via : Via Z R0 O nm d) (hq : es[q]? = some (eO a C fs)) (hf : fs[f]? = some (O, nm, d, old))
    (L : (Cond.lays C O nm d).before a0 Z = true ∨ ((Cond.laysFinal C O nm d).before a0 Z = true ∧ own = O ∧ meth.name = "<init>")) (wi : (Cond.instantiable C kk).before a0 Z = true) (hty : parseFieldDescriptor d = some ty) (hn : narrow ty v = v) (hfit : fits ty v = true) (hd : decode c.code pc = .ok (.putfield index, 3)) :
    ∃ T', OHere p l e R s m args below meth c Z n0 T' cells slots (es.set q (eO a C (fs.set f (O, nm, d, v)))) ∧ ∀ target, Steps p.tables e below (T'.setTop (mkF m (pc + 3) Ls rest)) target → Steps p.tables e below (T.setTop (mkF m pc Ls (v :: .ref a :: rest))) target := by
  obtain ⟨locs, X, W, N⟩ := H
  obtain ⟨T', h', X', e', Wr', st⟩ := putF X hx hZ hown (host := "") (Or.inl w) via rfl (W.fld hq hf) (W.obj hq).1 L wi hty hn hfit (g := mkF m pc Ls (v :: .ref a :: rest)) rfl rfl hd
  subst e'
  exact ⟨T', ⟨_, X', W.wrO hq hf Wr', N.app fun y hy => by cases List.mem_singleton.mp hy; exact (W.at hq).1⟩, st⟩
/-! the ends -/
theorem OHere.int (H : OHere p l e R s m args below meth c Z n0 T cells slots es) (hx : p.tables.exec = Jvm.exec) (hlocks : meth.locks = false) (hret : meth.sig.returnType = some .int) {z : Int32} (hd : decode c.code pc = .ok (.ireturn, 1)) (hk : cells ≤ k) (hn : slots ≤ n)
    (hQ : ∀ h L, OWorld Z n0 h es → Fr n0 L → Q (some (.int z)) h L) : OEnds p e below s k n Q (T.setTop (mkF m pc Ls (.int z :: rest))) := by
  obtain ⟨locs, X, W, N⟩ := H; exact OEnds.int X hx hlocks hret hd hk hn (hQ _ _ W N)
theorem OHere.nrw {ty : FieldType} (H : OHere p l e R s m args below meth c Z n0 T cells slots es) (hx : p.tables.exec = Jvm.exec) (hlocks : meth.locks = false) (hret : meth.sig.returnType = some ty) (ht : ty = .boolean ∨ ty = .byte ∨ ty = .char ∨ ty = .short) {z : Int32} (hd : decode c.code pc = .ok (.ireturn, 1)) (hk : cells ≤ k) (hn : slots ≤ n)
    (hQ : ∀ h L, OWorld Z n0 h es → Fr n0 L → Q (some (.int (nar ty z))) h L) : OEnds p e below s k n Q (T.setTop (mkF m pc Ls (.int z :: rest))) := by
  obtain ⟨locs, X, W, N⟩ := H; exact OEnds.nrw X hx hlocks hret ht hd hk hn (hQ _ _ W N)
theorem OHere.long (H : OHere p l e R s m args below meth c Z n0 T cells slots es) (hx : p.tables.exec = Jvm.exec) (hlocks : meth.locks = false) (hret : meth.sig.returnType = some .long) {z : Int64} (hd : decode c.code pc = .ok (.lreturn, 1)) (hk : cells ≤ k) (hn : slots ≤ n)
    (hQ : ∀ h L, OWorld Z n0 h es → Fr n0 L → Q (some (.long z)) h L) : OEnds p e below s k n Q (T.setTop (mkF m pc Ls [.long z])) := by
  obtain ⟨locs, X, W, N⟩ := H; exact OEnds.long X hx hlocks hret hd hk hn (hQ _ _ W N)
theorem OHere.ret (H : OHere p l e R s m args below meth c Z n0 T cells slots es) (hx : p.tables.exec = Jvm.exec) (hlocks : meth.locks = false) (hret : meth.sig.returnType = none) (hd : decode c.code pc = .ok (.return_, 1)) (hk : cells ≤ k) (hn : slots ≤ n)
    (hQ : ∀ h L, OWorld Z n0 h es → Fr n0 L → Q none h L) : OEnds p e below s k n Q (T.setTop (mkF m pc Ls [])) := by
  obtain ⟨locs, X, W, N⟩ := H
  obtain ⟨fs, hr, hrun, hended, hW, hsame⟩ := X.leave (v := none) (fun _ => rfl) hlocks
  exact ⟨_, _, X.returnOut hx hret hd hr, hrun, hended, _, _, rfl, hQ _ _ W N, ⟨_, rfl⟩, hW, hsame.mono hk hn⟩
/-! a callee's contract, and the calls -/
def OCon (l : Launch) (Z : State) (n0 : Nat) (y : MethodName) (bytes : ByteArray) (maxL : Nat) (ret : Option FieldType) (ws : List Cond) (rm : Room) (as : Array Value) (es : List OEnt) (P : Option Value → List OEnt → Prop) : Prop :=
  ∀ h, OWorld Z n0 h es → MetFree l y (head1 (Cond.code y bytes maxL ret :: ws) rm) (fun a U => a = as ∧ Z.Warmed39 U.vm ∧ U.heap = h) (fun _ _ _ _ _ => True) (fun _ U o U' => ∃ v' L, o = .returned v' ∧ (Fr n0 L ∧ ∃ es', P v' es' ∧ OWorld Z n0 U'.heap es') ∧ FrameEnd U o U' L rm.cells rm.slots)
theorem OHere.static (H : OHere p l e R s m args below meth c Z n0 T cells slots es) (hx : p.tables.exec = Jvm.exec) (hZ : Z.Warmed39 s.vm) {own : String} {index : Nat} {y : MethodName} {bytes : ByteArray} {maxL : Nat} {ret : Option FieldType} {rm : Room} {as' : Array Value} {P : Option Value → List OEnt → Prop} {W : Nat}
    (hown : s.vm.findClass own = some m.cls) (w1 : (Cond.methodLink own index y).before a0 Z = true) (w2 : (Cond.static y).before a0 Z = true) (w3 : (Cond.initialized y.cls).before a0 Z = true) (w4 : (Cond.code y bytes maxL ret).before a0 Z = true) (hy : y.cls ≠ "java/lang/invoke/MethodHandle" ∧ y.cls ≠ "java/lang/invoke/VarHandle")
    (hM : OCon l Z n0 y bytes maxL ret [] rm as' es P) (hf : rm.frames + 1 ≤ R.frames) (hl : W + (maxL + 11) + rm.locals ≤ R.locals)
    {argsL : List Value} (hsize : Ls.size = c.maxLocals) (hlen : ∀ sig, parseMethodDescriptor y.desc = some sig → argsL.length = sig.parameters.length) (has : argsL.toArray = as') (hW : (rest.map fun v => v.category).sum ≤ W)
    (hd : decode c.code pc = .ok (.invokestatic index, 3)) (hcells : cells + rm.cells ≤ R.cells) (hslots : slots + rm.slots ≤ R.slots) :
    ∃ T' v es', P v es' ∧ OHere p l e R s m args below meth c Z n0 T' (cells + rm.cells) (slots + rm.slots) es' ∧
      ∀ target, Steps p.tables e below (T'.setTop (mkF m (pc + 3) Ls (v.toList ++ rest))) target → Steps p.tables e below (T.setTop (mkF m pc Ls (argsL.reverse ++ rest))) target := by
  obtain ⟨locs, X, W', N⟩ := H
  obtain ⟨v', vm₁, ⟨T1, L1, k1, n1⟩, -, X1, ⟨Lc, ⟨e2, es', hP, e3⟩, l1, y1, z1⟩, st⟩ := Jvm.LawKit.callS X hx (y := y) hown (mvT hZ w1) (mvT hZ w2) (mvT hZ w3) (mvT hZ w4) hy
    (backOf (W := W) (Q := fun v' h' L => Fr n0 L ∧ ∃ es', P v' es' ∧ OWorld Z n0 h' es') (hM T.heap W') hZ w4 w3 hf hl) (g := mkF m pc Ls (argsL.reverse ++ rest)) rfl hsize (argsL := argsL) (rest := rest) hlen rfl
    (by show 2 * 0 + _ ≤ _; rw [Nat.mul_zero, Nat.zero_add]; exact hW) hd (fun _ _ => ⟨has, rfl, hcells, hslots⟩)
  dsimp only [Pt.U, Pt.locs, Pt.cells, Pt.slots] at X1 l1 y1 z1 st e3
  subst l1 y1 z1
  exact ⟨T1, v', es', hP, ⟨_, X1, e3, N.app e2⟩, st⟩
theorem OHere.special (H : OHere p l e R s m args below meth c Z n0 T cells slots es) (hx : p.tables.exec = Jvm.exec) (hZ : Z.Warmed39 s.vm) {own : String} {index : Nat} {y : MethodName} (hy1 : y.name = "<init>") {bytes : ByteArray} {maxL : Nat} {rm : Room} {as' : Array Value} {P : Option Value → List OEnt → Prop} {W : Nat}
    (hown : s.vm.findClass own = some m.cls) (w1 : (Cond.methodLink own index y).before a0 Z = true) (w2 : (Cond.instanceMethod y).before a0 Z = true) (w3 : (Cond.initialized y.cls).before a0 Z = true) (w4 : (Cond.code y bytes maxL none).before a0 Z = true) (hy : y.cls ≠ "java/lang/invoke/MethodHandle" ∧ y.cls ≠ "java/lang/invoke/VarHandle")
    (hM : OCon l Z n0 y bytes maxL none [] rm as' es P) (hf : rm.frames + 1 ≤ R.frames) (hl : W + (maxL + 11) + rm.locals ≤ R.locals)
    {argsL : List Value} (hsize : Ls.size = c.maxLocals) (hlen : ∀ sig, parseMethodDescriptor y.desc = some sig → argsL.length = sig.parameters.length) (has : (.ref a :: argsL).toArray = as') (hW : (rest.map fun v => v.category).sum ≤ W)
    (hd : decode c.code pc = .ok (.invokespecial index, 3)) (hcells : cells + rm.cells ≤ R.cells) (hslots : slots + rm.slots ≤ R.slots) :
    ∃ T' v es', P v es' ∧ OHere p l e R s m args below meth c Z n0 T' (cells + rm.cells) (slots + rm.slots) es' ∧
      ∀ target, Steps p.tables e below (T'.setTop (mkF m (pc + 3) Ls (v.toList ++ rest))) target → Steps p.tables e below (T.setTop (mkF m pc Ls (argsL.reverse ++ .ref a :: rest))) target := by
  obtain ⟨locs, X, W', N⟩ := H
  obtain ⟨v', vm₁, ⟨T1, L1, k1, n1⟩, -, X1, ⟨Lc, ⟨e2, es', hP, e3⟩, l1, y1, z1⟩, st⟩ := X.specialBack hx (y := y) hy1 hown (mvT hZ w1) (mvT hZ w2) (mvT hZ w4) hy
    (backOf (W := W) (Q := fun v' h' L => Fr n0 L ∧ ∃ es', P v' es' ∧ OWorld Z n0 h' es') (hM T.heap W') hZ w4 w3 hf hl) (g := mkF m pc Ls (argsL.reverse ++ .ref a :: rest)) rfl hsize (Steps.refl _) (a := a) (argsL := argsL) (rest := rest) hlen rfl
    (by show 2 * 0 + _ ≤ _; rw [Nat.mul_zero, Nat.zero_add]; exact hW) hd (fun _ _ => ⟨has, rfl, hcells, hslots⟩)
  dsimp only [Pt.U, Pt.locs, Pt.cells, Pt.slots] at X1 l1 y1 z1 st e3
  subst l1 y1 z1
  exact ⟨T1, v', es', hP, ⟨_, X1, e3, N.app e2⟩, fun target k => st.trans k⟩
theorem OHere.virtual (H : OHere p l e R s m args below meth c Z n0 T cells slots es) (hx : p.tables.exec = Jvm.exec) (hZ : Z.Warmed39 s.vm) {own C : String} {index : Nat} {y z : MethodName} {bytes : ByteArray} {maxL : Nat} {ret : Option FieldType} {rm : Room} {as' : Array Value} {P : Option Value → List OEnt → Prop} {fs : List OFEnt} {W : Nat}
    (hown : s.vm.findClass own = some m.cls) (w1 : (Cond.methodLink own index y).before a0 Z = true) (w2 : (Cond.declares y).before a0 Z = true) (nf : OIsCls Z y.cls) (w3 : (Cond.selects C y z).before a0 Z = true) (w4 : (Cond.instanceMethod z).before a0 Z = true) (w5 : (Cond.initialized z.cls).before a0 Z = true) (w6 : (Cond.code z bytes maxL ret).before a0 Z = true) (hy : y.cls ≠ "java/lang/invoke/MethodHandle" ∧ y.cls ≠ "java/lang/invoke/VarHandle")
    (hq : es[q]? = some (eO a C fs)) (hM : OCon l Z n0 z bytes maxL ret [] rm as' es P) (hf : rm.frames + 1 ≤ R.frames) (hl : W + (maxL + 11) + rm.locals ≤ R.locals)
    {argsL : List Value} (hsize : Ls.size = c.maxLocals) (hlen : ∀ sig, parseMethodDescriptor y.desc = some sig → argsL.length = sig.parameters.length) (has : (.ref a :: argsL).toArray = as') (hW : (rest.map fun v => v.category).sum ≤ W)
    (hd : decode c.code pc = .ok (.invokevirtual index, 3)) (hcells : cells + rm.cells ≤ R.cells) (hslots : slots + rm.slots ≤ R.slots) :
    ∃ T' v es', P v es' ∧ OHere p l e R s m args below meth c Z n0 T' (cells + rm.cells) (slots + rm.slots) es' ∧
      ∀ target, Steps p.tables e below (T'.setTop (mkF m (pc + 3) Ls (v.toList ++ rest))) target → Steps p.tables e below (T.setTop (mkF m pc Ls (argsL.reverse ++ .ref a :: rest))) target := by
  obtain ⟨locs, X, W', N⟩ := H
  obtain ⟨cB, kB, qa, qb, qc⟩ := isOf hZ (T := T) rfl (W'.obj hq).1
  obtain ⟨v', vm₁, ⟨T1, L1, k1, n1⟩, -, X1, ⟨Lc, ⟨e2, es', hP, e3⟩, l1, y1, z1⟩, st⟩ := X.virtualBack hx (y := y) (z := z) hown (mvT hZ w1) (mvT hZ w2) (nf.nf hZ) (mvT hZ w3) (mvT hZ w4) hy
    (backOf (W := W) (Q := fun v' h' L => Fr n0 L ∧ ∃ es', P v' es' ∧ OWorld Z n0 h' es') (hM T.heap W') hZ w6 w5 hf hl) qa qc (g := mkF m pc Ls (argsL.reverse ++ .ref a :: rest)) rfl hsize (Steps.refl _) (argsL := argsL) (rest := rest) hlen rfl
    (by show 2 * 0 + _ ≤ _; rw [Nat.mul_zero, Nat.zero_add]; exact hW) hd (fun _ _ => ⟨has, rfl, hcells, hslots⟩)
  dsimp only [Pt.U, Pt.locs, Pt.cells, Pt.slots] at X1 l1 y1 z1 st e3
  subst l1 y1 z1
  exact ⟨T1, v', es', hP, ⟨_, X1, e3, N.app e2⟩, fun target k => st.trans k⟩
theorem OHere.virtualUp (H : OHere p l e R s m args below meth c Z n0 T cells slots es) (hx : p.tables.exec = Jvm.exec) (hZ : Z.Warmed39 s.vm) {own C owner : String} {index : Nat} {x y : MethodName} {bytes : ByteArray} {maxL : Nat} {ret : Option FieldType} {rm : Room} {as' : Array Value} {P : Option Value → List OEnt → Prop} {fs : List OFEnt} {W : Nat}
    (hown : s.vm.findClass own = some m.cls) (w1 : (Cond.methodLink own index x).before a0 Z = true) (w2 : (Cond.sameMethod x.cls owner x.name x.desc).before a0 Z = true) (w2' : (Cond.declares ⟨owner, x.name, x.desc⟩).before a0 Z = true) (w3 : (Cond.selects C x y).before a0 Z = true) (w4 : (Cond.instanceMethod y).before a0 Z = true) (w5 : (Cond.initialized y.cls).before a0 Z = true) (w6 : (Cond.code y bytes maxL ret).before a0 Z = true) (hy : owner ≠ "java/lang/invoke/MethodHandle" ∧ owner ≠ "java/lang/invoke/VarHandle")
    (hq : es[q]? = some (eO a C fs)) (hM : OCon l Z n0 y bytes maxL ret [] rm as' es P) (hf : rm.frames + 1 ≤ R.frames) (hl : W + (maxL + 11) + rm.locals ≤ R.locals)
    {argsL : List Value} (hsize : Ls.size = c.maxLocals) (hlen : ∀ sig, parseMethodDescriptor x.desc = some sig → argsL.length = sig.parameters.length) (has : (.ref a :: argsL).toArray = as') (hW : (rest.map fun v => v.category).sum ≤ W)
    (hd : decode c.code pc = .ok (.invokevirtual index, 3)) (hcells : cells + rm.cells ≤ R.cells) (hslots : slots + rm.slots ≤ R.slots) :
    ∃ T' v es', P v es' ∧ OHere p l e R s m args below meth c Z n0 T' (cells + rm.cells) (slots + rm.slots) es' ∧
      ∀ target, Steps p.tables e below (T'.setTop (mkF m (pc + 3) Ls (v.toList ++ rest))) target → Steps p.tables e below (T.setTop (mkF m pc Ls (argsL.reverse ++ .ref a :: rest))) target := by
  obtain ⟨locs, X, W', N⟩ := H
  obtain ⟨cB, kB, qa, qb, qc⟩ := isOf hZ (T := T) rfl (W'.obj hq).1
  obtain ⟨v', vm₁, ⟨T1, L1, k1, n1⟩, -, X1, ⟨Lc, ⟨e2, es', hP, e3⟩, l1, y1, z1⟩, st⟩ := X.virtualBackUp hx (x := x) (y := y) (owner := owner) hown (mvT hZ w1) (mvT hZ w2) (mvT hZ w2') hy (mvT hZ w3) (mvT hZ w4)
    (backOf (W := W) (Q := fun v' h' L => Fr n0 L ∧ ∃ es', P v' es' ∧ OWorld Z n0 h' es') (hM T.heap W') hZ w6 w5 hf hl) qa qc (g := mkF m pc Ls (argsL.reverse ++ .ref a :: rest)) rfl hsize (Steps.refl _) (argsL := argsL) (rest := rest) hlen rfl
    (by show 2 * 0 + _ ≤ _; rw [Nat.mul_zero, Nat.zero_add]; exact hW) hd (fun _ _ => ⟨has, rfl, hcells, hslots⟩)
  dsimp only [Pt.U, Pt.locs, Pt.cells, Pt.slots] at X1 l1 y1 z1 st e3
  subst l1 y1 z1
  exact ⟨T1, v', es', hP, ⟨_, X1, e3, N.app e2⟩, fun target k => st.trans k⟩
/-- a private method, called by invokevirtual -/
theorem OHere.priv (H : OHere p l e R s m args below meth c Z n0 T cells slots es) (hx : p.tables.exec = Jvm.exec) (hZ : Z.Warmed39 s.vm) {own C : String} {index : Nat} {y : MethodName} {bytes : ByteArray} {maxL : Nat} {ret : Option FieldType} {rm : Room} {as' : Array Value} {P : Option Value → List OEnt → Prop} {fs : List OFEnt} {W : Nat}
    (hown : s.vm.findClass own = some m.cls) (w1 : (Cond.methodLink own index y).before a0 Z = true) (w4 : (Cond.instanceMethod y).before a0 Z = true) (nf : OIsCls Z y.cls) (w3 : (Cond.privateMethod y).before a0 Z = true) (w5 : (Cond.initialized y.cls).before a0 Z = true) (w6 : (Cond.code y bytes maxL ret).before a0 Z = true) (hy : y.cls ≠ "java/lang/invoke/MethodHandle" ∧ y.cls ≠ "java/lang/invoke/VarHandle")
    (hq : es[q]? = some (eO a C fs)) (hM : OCon l Z n0 y bytes maxL ret [] rm as' es P) (hf : rm.frames + 1 ≤ R.frames) (hl : W + (maxL + 11) + rm.locals ≤ R.locals)
    {argsL : List Value} (hsize : Ls.size = c.maxLocals) (hlen : ∀ sig, parseMethodDescriptor y.desc = some sig → argsL.length = sig.parameters.length) (has : (.ref a :: argsL).toArray = as') (hW : (rest.map fun v => v.category).sum ≤ W)
    (hd : decode c.code pc = .ok (.invokevirtual index, 3)) (hcells : cells + rm.cells ≤ R.cells) (hslots : slots + rm.slots ≤ R.slots) :
    ∃ T' v es', P v es' ∧ OHere p l e R s m args below meth c Z n0 T' (cells + rm.cells) (slots + rm.slots) es' ∧
      ∀ target, Steps p.tables e below (T'.setTop (mkF m (pc + 3) Ls (v.toList ++ rest))) target → Steps p.tables e below (T.setTop (mkF m pc Ls (argsL.reverse ++ .ref a :: rest))) target := by
  obtain ⟨locs, X, W', N⟩ := H
  obtain ⟨cq, q1, q2⟩ := (W'.obj hq).1.cell
  have hpr := Cond.privateMethod_at (mvP hZ w3 (args := args))
  obtain ⟨cC, kC, f1, f2, f3⟩ := nf s hZ
  obtain ⟨v', vm₁, ⟨T1, L1, k1, n1⟩, -, X1, ⟨Lc, ⟨e2, es', hP, e3⟩, l1, y1, z1⟩, st⟩ := X.privateBack hx (y := y) hown (mvT hZ w1) (mvT hZ w4) (selects_self_of_private f1 f2 f3 hpr (mvT hZ w4) hy) hpr (mvT hZ w6) hy
    (backOf (W := W) (Q := fun v' h' L => Fr n0 L ∧ ∃ es', P v' es' ∧ OWorld Z n0 h' es') (hM T.heap W') hZ w6 w5 hf hl) (g := mkF m pc Ls (argsL.reverse ++ .ref a :: rest)) rfl hsize (Steps.refl _) (a := a) q1 q2 (argsL := argsL) (rest := rest) hlen rfl
    (by show 2 * 0 + _ ≤ _; rw [Nat.mul_zero, Nat.zero_add]; exact hW) hd (fun _ _ => ⟨has, rfl, hcells, hslots⟩)
  dsimp only [Pt.U, Pt.locs, Pt.cells, Pt.slots] at X1 l1 y1 z1 st e3
  subst l1 y1 z1
  exact ⟨T1, v', es', hP, ⟨_, X1, e3, N.app e2⟩, fun target k => st.trans k⟩
theorem OCon.of_pure {y : MethodName} {bytes : ByteArray} {maxL : Nat} {ret : Option FieldType} {ws : List Cond} {rm : Room} {as' : Array Value} {v : Option Value}
    (hM : ∀ h, MetFree l y (head1 (Cond.code y bytes maxL ret :: ws) rm) (fun a U => a = as' ∧ Z.Warmed39 U.vm ∧ U.heap = h) (fun _ _ _ _ _ => True) (fun _ U o U' => ∃ v' L, o = .returned v' ∧ (v' = v ∧ L = [] ∧ U'.heap = h) ∧ FrameEnd U o U' L rm.cells rm.slots)) : OCon l Z n0 y bytes maxL ret ws rm as' es (fun v' es' => v' = v ∧ es' = es) := fun h W p e a1 a2 a3 s m args below hf ha hP hK => by
  obtain ⟨n, o, h1, h2, h3, v', L, h4, ⟨h5, h6, h7⟩, h8⟩ := hM h p e a1 a2 a3 s m args below hf ha hP hK
  exact ⟨n, o, h1, h2, h3, v', L, h4, ⟨by rw [h6]; exact Fr.nil _, es, ⟨h5, rfl⟩, by rw [h7]; exact W⟩, h8⟩
end OHere
end Jvm.RoadKit
namespace Jvm.Own
open Jvm.RoadKit Jvm.Free
theorem nat_or32 (n : Nat) : n ||| 32 = if n / 32 % 2 = 0 then n + 32 else n := by
  have h1 : (n ||| 32) / 64 = n / 64 := by
    have := Nat.or_div_two_pow (a := n) (b := 32) (n := 6)
    simpa using this
  have h2 : (n ||| 32) % 64 = (n % 64) ||| 32 := by
    have := Nat.or_mod_two_pow (a := n) (b := 32) (n := 6)
    simpa using this
  have h3 : ∀ r < 64, r ||| 32 = if r / 32 % 2 = 0 then r + 32 else r := by decide
  have h4 := h3 (n % 64) (Nat.mod_lt _ (by decide))
  rw [h4] at h2
  split at h2 <;> split <;> omega
theorem toInt_nat (u : Int32) : u.toInt = if u.toBitVec.toNat < 2 ^ 31 then (u.toBitVec.toNat : Int) else (u.toBitVec.toNat : Int) - 2 ^ 32 := by
  have : u.toInt = u.toBitVec.toInt := rfl
  rw [this, BitVec.toInt_eq_toNat_cond]
  split <;> split <;> omega
theorem or32 (u : Int32) : (u ||| 32).toInt = if u.toInt / 32 % 2 = 0 then u.toInt + 32 else u.toInt := by
  have e : (u ||| 32).toBitVec.toNat = u.toBitVec.toNat ||| 32 := by simp [Int32.toBitVec_or, BitVec.toNat_or]
  have hb := u.toBitVec.isLt
  rw [toInt_nat, toInt_nat u, e, nat_or32]
  repeat' split
  all_goals omega
theorem i64_nat (u : Int64) : u.toInt = if u.toBitVec.toNat < 2 ^ 63 then (u.toBitVec.toNat : Int) else (u.toBitVec.toNat : Int) - 2 ^ 64 := by
  have : u.toInt = u.toBitVec.toInt := rfl
  rw [this, BitVec.toInt_eq_toNat_cond]
  split <;> split <;> omega
theorem or_neg64 (x y : Int64) : (x ||| y) < 0 ↔ x < 0 ∨ y < 0 := by
  have h : ∀ z : Int64, z < 0 ↔ z.toBitVec.msb = true := fun z => by
    rw [Int64.lt_iff_toInt_lt, Int64.toInt_zero]
    show z.toBitVec.toInt < 0 ↔ _
    rw [BitVec.toInt_neg_iff, BitVec.msb_eq_decide]; simp; omega
  simp [h, Int64.toBitVec_or, BitVec.msb_or]
theorem ushr_le (x : Int64) (y : Int32) : (XT.ushrL x y).toBitVec.toNat ≤ x.toBitVec.toNat := by
  simp only [XT.ushrL, UInt64.toBitVec_toInt64, UInt64.toBitVec_shiftRight, Int64.toBitVec_toUInt64]
  rw [BitVec.ushiftRight_eq', BitVec.toNat_ushiftRight, Nat.shiftRight_eq_div_pow]
  exact Nat.div_le_self _ _
theorem ushr_nonneg (x : Int64) (y : Int32) (h : 0 ≤ x.toInt) : 0 ≤ (XT.ushrL x y).toInt := by
  have h1 := ushr_le x y
  rw [i64_nat] at *
  have := x.toBitVec.isLt
  have := (XT.ushrL x y).toBitVec.isLt
  split at h <;> split <;> omega
theorem ushr44 (x : Int64) : 0 ≤ (XT.ushrL x 44).toInt ∧ (XT.ushrL x 44).toInt < 2 ^ 20 := by
  have e : (XT.ushrL x 44).toBitVec.toNat = x.toBitVec.toNat / 2 ^ 44 := by
    simp only [XT.ushrL, UInt64.toBitVec_toInt64, UInt64.toBitVec_shiftRight, Int64.toBitVec_toUInt64]
    rw [BitVec.ushiftRight_eq', BitVec.toNat_ushiftRight, Nat.shiftRight_eq_div_pow]
    rfl
  have := x.toBitVec.isLt
  rw [i64_nat, e]
  split <;> omega
theorem narc_toInt (x : Int32) : (nar .char x).toInt = x.toInt % 65536 := by
  have e : (nar .char x).toBitVec.toNat = x.toBitVec.toNat % 65536 := by
    show x.toUInt32.toUInt16.toUInt32.toInt32.toBitVec.toNat = _
    simp
  rw [toInt_nat, e, toInt_nat x]
  have := x.toBitVec.isLt
  repeat' split
  all_goals omega
theorem and_max64 (x : Int64) : 0 ≤ (x &&& 9223372036854775807).toInt := by
  have e : (x &&& 9223372036854775807).toBitVec.toNat = x.toBitVec.toNat &&& 9223372036854775807 := by simp [Int64.toBitVec_and, BitVec.toNat_and]
  have h : x.toBitVec.toNat &&& 9223372036854775807 ≤ 9223372036854775807 := Nat.and_le_right
  rw [i64_nat, e]
  split <;> omega
theorem and_max32 (x : Int32) : 0 ≤ (x &&& 2147483647).toInt := by
  have e : (x &&& 2147483647).toBitVec.toNat = x.toBitVec.toNat &&& 2147483647 := by simp [Int32.toBitVec_and, BitVec.toNat_and]
  have h : x.toBitVec.toNat &&& 2147483647 ≤ 2147483647 := Nat.and_le_right
  rw [toInt_nat, e]
  split <;> omega
theorem bv_toInt (b : BitVec 64) (k : Nat) (hb : b.toNat = k) (hk : k < 64) : b.toInt = k := by
  rw [BitVec.toInt_eq_toNat_of_lt (by omega), hb]
theorem bv_smod (b : BitVec 64) (k : Nat) (hb : b.toNat = k) (hk : k < 64) : (b.smod 64).toNat = k := by
  have h1 := bv_toInt b k hb hk
  have e : b.smod 64 = BitVec.ofNat 64 k := by
    apply BitVec.eq_of_toInt_eq
    rw [bv_toInt (BitVec.ofNat 64 k) k (by simp; omega) hk, BitVec.toInt_smod, h1, show (64 : BitVec 64).toInt = 64 from by decide, Int.fmod_eq_emod_of_nonneg _ (by omega)]; omega
  rw [e]; simp; omega
theorem and63 (y : Int64) : (y &&& 63).toBitVec.toNat = y.toBitVec.toNat % 64 := by
  rw [Int64.toBitVec_and, BitVec.toNat_and]
  have : (63 : Int64).toBitVec.toNat = 2 ^ 6 - 1 := rfl
  rw [this, Nat.and_two_pow_sub_one_eq_mod]
theorem shl_bv (x y : Int64) (k : Nat) (hy : y.toBitVec.toNat % 64 = k) : (x <<< (y &&& 63)).toBitVec = x.toBitVec <<< k := by
  have : (x <<< (y &&& 63)).toBitVec = x.toBitVec <<< ((y &&& 63).toBitVec.smod 64) := rfl
  rw [this, BitVec.shiftLeft_eq', bv_smod _ k (by rw [and63, hy]) (by omega)]
theorem neg_msb (z : Int64) : z < 0 ↔ z.toBitVec.msb = true := by
  rw [Int64.lt_iff_toInt_lt, Int64.toInt_zero]
  show z.toBitVec.toInt < 0 ↔ _
  rw [BitVec.toInt_neg_iff, BitVec.msb_eq_decide]; simp; omega
theorem shl_neg (x y : Int64) (k : Nat) (hk : k < 64) (hy : y.toBitVec.toNat % 64 = 63 - k) : (x <<< (y &&& 63)) < 0 ↔ x.toBitVec.getLsbD k = true := by
  rw [neg_msb, shl_bv x y (63 - k) hy, BitVec.msb_eq_getLsbD_last, BitVec.getLsbD_shiftLeft]
  have e : 63 - (63 - k) = k := by omega
  simp [e]
theorem mask_zero (x y : Int64) (k : Nat) (hy : y.toBitVec.toNat % 64 = k) : (x &&& ((1 : Int64) <<< (y &&& 63))) = 0 ↔ x.toBitVec.getLsbD k = false := by
  have hk : k < 64 := by omega
  rw [← Int64.toBitVec_inj, Int64.toBitVec_and, shl_bv _ _ k hy]
  constructor
  · intro h
    have := congrArg (fun z : BitVec 64 => z.getLsbD k) h
    simp [hk] at this
    exact this
  · intro h
    apply BitVec.eq_of_getLsbD_eq
    intro i hi
    simp only [BitVec.getLsbD_and, BitVec.getLsbD_shiftLeft, Int64.toBitVec_zero, BitVec.getLsbD_zero]
    show (x.toBitVec.getLsbD i && (decide (i < 64) && !decide (i < k) && (1#64).getLsbD (i - k))) = false
    by_cases q : i = k
    · subst q; simp [h]
    · by_cases q2 : i < k
      · simp [q2]
      · have : (1#64).getLsbD (i - k) = false := by
          rw [BitVec.getLsbD_one]; simp; omega
        simp [this]
theorem ushrL_bv (x : Int64) (y : Int32) (k : Nat) (hy : y.toInt64.toBitVec.toNat % 64 = k) : (XT.ushrL x y).toBitVec = x.toBitVec >>> k := by
  have e : (XT.ushrL x y).toBitVec = x.toBitVec >>> ((y.toInt64.toBitVec &&& 63) % 64) := by
    simp [XT.ushrL]
  rw [e, BitVec.ushiftRight_eq']
  congr 1
  have := and63 y.toInt64
  rw [Int64.toBitVec_and] at this
  have h2 : ((y.toInt64.toBitVec &&& 63) % 64).toNat = (y.toInt64.toBitVec &&& 63).toNat % 64 := by simp [BitVec.toNat_umod]
  rw [h2]
  have h3 : (y.toInt64.toBitVec &&& 63).toNat = y.toInt64.toBitVec.toNat % 64 := this
  rw [h3]; omega
end Jvm.Own
namespace Jvm.Pilot.@@N@@
open Jvm Jvm.ClassFile Sem Op Lib Jvm.Free Jvm.Stand Jvm.LawKit Jvm.RoadKit Bundle Jvm.Pilot.@@N@@.Jvm.D
open Jvm.Own
open Jvm.Kit (i64_add i64_sub i64_mul i64_div i32_mask i64_mask)
/-! small numbers -/
theorem n_toInt {n : Nat} (h : n < 2 ^ 31) : n.toInt32.toInt = n := Int32.toInt_ofNat_small h
theorem n_lt {i n : Nat} (hn : n < 2 ^ 31) (h : i < n) : i.toInt32 < n.toInt32 := by rw [Int32.lt_iff_toInt_lt, n_toInt hn, n_toInt (by omega)]; omega
theorem n_nlt {n : Nat} : ¬ n.toInt32 < n.toInt32 := by rw [Int32.lt_iff_toInt_lt]; omega
theorem n_nneg {i : Nat} (hn : i < 2 ^ 31) : ¬ i.toInt32 < 0 := by rw [Int32.lt_iff_toInt_lt, n_toInt hn, Int32.toInt_zero]; omega
theorem n_clamp {i : Nat} (hn : i < 2 ^ 31) : i.toInt32.toNatClampNeg = i := by show i.toInt32.toInt.toNat = i; rw [n_toInt hn]; rfl
theorem n_succ {i : Nat} (hn : i + 1 < 2 ^ 31) : i.toInt32 + 1 = (i + 1).toInt32 := by
  rw [← Int32.toInt_inj, n_toInt hn, Jvm.Kit.i32_add, n_toInt (by omega)]; rfl
  · rw [n_toInt (by omega), show (1 : Int32).toInt = 1 from rfl]; omega
  · rw [n_toInt (by omega), show (1 : Int32).toInt = 1 from rfl]; omega
theorem fill_step {α : Type} (vs : List α) (x : α) (i : Nat) (h : i < vs.length) : (List.replicate i x ++ vs.drop i).set i x = List.replicate (i + 1) x ++ vs.drop (i + 1) := by
  rw [List.set_append_right _ _ (by simp), List.length_replicate, Nat.sub_self, List.drop_eq_getElem_cons h, List.set_cons_zero, List.replicate_succ', List.append_assoc]; rfl
theorem fill_done {α : Type} (vs : List α) (x : α) : List.replicate vs.length x ++ vs.drop vs.length = List.replicate vs.length x := by simp
/-! directions -/
def rng4 (x : Int32) : Prop := x = 0 ∨ x = 1 ∨ x = 2 ∨ x = 3
theorem rng4_and (x : Int32) : rng4 (x &&& (3 : Int32)) := by
  have h : (x &&& (3 : Int32)).toInt = x.toInt % 2 ^ 2 := i32_mask x 3 (k := 2) (by decide) (by decide)
  unfold rng4
  rw [← Int32.toInt_inj, ← Int32.toInt_inj, ← Int32.toInt_inj, ← Int32.toInt_inj, h, show (0 : Int32).toInt = 0 from rfl, show (1 : Int32).toInt = 1 from rfl, show (2 : Int32).toInt = 2 from rfl, show (3 : Int32).toInt = 3 from rfl]
  omega
theorem rng4_xor {x : Int32} (h : rng4 x) : rng4 (x ^^^ (2 : Int32)) := by
  rcases h with rfl | rfl | rfl | rfl <;> (unfold rng4; decide)
def blk (v : Nat) (P : List Jvm.Value) : Prop := ∀ i, 4 * v ≤ i → i < 4 * v + 4 → P[i]? = some (.int (-1))
theorem blk_set {v i : Nat} {P : List Jvm.Value} {x : Jvm.Value} (h : blk v P) (hi : i < 4 * v ∨ 4 * v + 4 ≤ i) : blk v (P.set i x) := fun j h1 h2 => by
  rw [List.getElem?_set_ne (by omega)]; exact h j h1 h2
def pIx (v : Nat) (d : Int32) : Nat := 4 * v + d.toInt.toNat
theorem rng4_toInt {d : Int32} (h : rng4 d) : 0 ≤ d.toInt ∧ d.toInt < 4 := by rcases h with rfl | rfl | rfl | rfl <;> decide
theorem ix_ok {d w : Int32} (h : rng4 d) (v : Nat) (hw : w.toInt = 4 * v) (hv : v < 100) : ¬ (w + d) < 0 ∧ (w + d).toNatClampNeg = pIx v d := by
  have r := rng4_toInt h
  have e : (w + d).toInt = 4 * v + d.toInt := by rw [Jvm.Kit.i32_add (by omega) (by omega), hw]
  refine ⟨by rw [Int32.lt_iff_toInt_lt, e, Int32.toInt_zero]; omega, ?_⟩
  show (w + d).toInt.toNat = 4 * v + d.toInt.toNat
  rw [e]; omega
theorem blk_at {d : Int32} {v : Nat} {P : List Jvm.Value} (h : rng4 d) (hb : blk v P) : P[pIx v d]? = some (.int (-1)) := by
  have r := rng4_toInt h
  exact hb _ (by unfold pIx; omega) (by unfold pIx; omega)
theorem pIx_off {d : Int32} {v v' : Nat} (h : rng4 d) (hv : v ≠ v') : pIx v d < 4 * v' ∨ 4 * v' + 4 ≤ pIx v d := by
  have r := rng4_toInt h
  unfold pIx; omega
def fturn (x y : Int32) : Int32 := if ((y - x) &&& (3 : Int32)) = (3 : Int32) then (-1 : Int32) else if ((y - x) &&& (3 : Int32)) = (2 : Int32) then (-2 : Int32) else ((y - x) &&& (3 : Int32))
theorem turn_ok {x y : Int32} (hx : rng4 x) (hy : rng4 y) : ¬ fturn x y < (-2 : Int32) ∧ ¬ (1 : Int32) < fturn x y ∧ ((x + fturn x y) &&& (3 : Int32)) = y := by
  rcases hx with rfl | rfl | rfl | rfl <;> rcases hy with rfl | rfl | rfl | rfl <;> decide
theorem d3_0 : decode jdk_29_method_65_code 0 = .ok (.iload_n 0, 1) := by decide +kernel
theorem d3_1 : decode jdk_29_method_65_code 1 = .ok (.iload_n 1, 1) := by decide +kernel
theorem d3_2 : decode jdk_29_method_65_code 2 = .ok (.if_icmp .lt 7, 3) := by decide +kernel
theorem d3_5 : decode jdk_29_method_65_code 5 = .ok (.iload_n 0, 1) := by decide +kernel
theorem d3_6 : decode jdk_29_method_65_code 6 = .ok (.goto 4, 3) := by decide +kernel
theorem d3_9 : decode jdk_29_method_65_code 9 = .ok (.iload_n 1, 1) := by decide +kernel
theorem d3_10 : decode jdk_29_method_65_code 10 = .ok (.ireturn, 1) := by decide +kernel
theorem pn_3 : plainFor (⟨"java/lang/Math", "max", "(II)I"⟩ : MethodName) = true := Jvm.Free.JP.mathPlain rfl (by decide +kernel)
theorem pd_3 : parseMethodDescriptor "(II)I" = some ⟨[.int, .int], some .int⟩ := by decide +kernel
theorem ef_3 (m : MethodId) (u0 : Int32) (u1 : Int32) : entryFrame m #[(.int u0), (.int u1)] 2 = mkF m 0 #[.val (.int u0), .val (.int u1)] [] := by first | (simp [entryFrame, mkF, argsToLocals, Value.category]; done) | rfl
def f3 (u0 : Int32) (u1 : Int32) : Int32 := (if u0 < u1 then u1 else u0)
set_option maxRecDepth 65536 in
set_option maxHeartbeats 40000000 in
theorem met3 (l : Launch) (Z : State) (a0 : Array Value) (hw : ∀ d ∈ tables_1, d.before a0 Z = true) (ws : List Jvm.Cond) (u0 : Int32) (u1 : Int32) (h0 : Heap) :
    MetFree l (⟨"java/lang/Math", "max", "(II)I"⟩ : MethodName) (head1 (Jvm.Cond.code (⟨"java/lang/Math", "max", "(II)I"⟩ : MethodName) jdk_29_method_65_code 2 (some .int) :: ws) ({ frames := 0, cells := 0, slots := 0, locals := 0 } : Room)) (fun a U => a = #[(.int u0), (.int u1)] ∧ Z.Warmed39 U.vm ∧ U.heap = h0) (fun _ _ _ _ _ => True) (fun _ U o U' => ∃ v L, o = .returned v ∧ (v = some (.int (f3 u0 u1)) ∧ L = [] ∧ U'.heap = h0) ∧ FrameEnd U o U' L ({ frames := 0, cells := 0, slots := 0, locals := 0 } : Room).cells ({ frames := 0, cells := 0, slots := 0, locals := 0 } : Room).slots) := by
  refine MetFree.of_bodySF pn_3 hisR ?_
  intro p e s m args below meth c s₁ Bd hml0 hP hK
  obtain ⟨rfl, hZ, hh⟩ := hP
  have hx := Bd.exec
  have hby := Bd.bytes
  have hml : c.maxLocals = 2 := hml0
  have hown : s.vm.findClass "java/lang/Math" = some m.cls := findClass_of_methodNamed Bd.named
  have X0 : Stand p l e ({ frames := 0, cells := 0, slots := 0, locals := 0 } : Room) s m #[(.int u0), (.int u1)] below meth c s₁ [] 0 0 := Stand.of_body Bd
  have e0 : s₁.heap = h0 := by rw [← hh, Bd.state]; rfl
  show OEnds p e below s _ _ (fun v h L => v = some (.int (f3 u0 u1)) ∧ L = [] ∧ h = h0) _
  refine OEnds.pre (fun t k => castTop (ef_3 m u0 u1) k) ?_
  show OEnds p e below s _ _ _ (s₁.setTop (mkF m 0 #[.val (.int u0), .val (.int u1)] []))
  refine OEnds.pre (fun t k => XS.iloadN X0.here hx rfl (hb hby d3_0) rfl k) ?_
  show OEnds p e below s _ _ _ (s₁.setTop (mkF m 1 #[.val (.int u0), .val (.int u1)] [(.int u0)]))
  refine OEnds.pre (fun t k => XS.iloadN X0.here hx rfl (hb hby d3_1) rfl k) ?_
  show OEnds p e below s _ _ _ (s₁.setTop (mkF m 2 #[.val (.int u0), .val (.int u1)] [(.int u1), (.int u0)]))
  by_cases c1 : u0 < u1
  · refine OEnds.pre (fun t k => XS.icmpYes X0.here hx rfl (pc0 := 2) (pc' := 9) rfl (hb hby d3_2) rfl (XT.ii_lt_t c1) (by decide) (by decide) k) ?_
    show OEnds p e below s _ _ _ (s₁.setTop (mkF m 9 #[.val (.int u0), .val (.int u1)] []))
    refine OEnds.pre (fun t k => XS.iloadN X0.here hx rfl (hb hby d3_9) rfl k) ?_
    show OEnds p e below s _ _ _ (s₁.setTop (mkF m 10 #[.val (.int u0), .val (.int u1)] [(.int u1)]))
    exact OEnds.int X0 hx Bd.notSynchronized Bd.returns (hb hby d3_10) (Nat.zero_le _) (Nat.zero_le _) ⟨congrArg (fun q => some (Value.int q)) (by unfold f3; rw [if_pos c1]), rfl, e0⟩
  · refine OEnds.pre (fun t k => XS.icmpNo X0.here hx rfl (hb hby d3_2) rfl (XT.ii_lt_f c1) k) ?_
    show OEnds p e below s _ _ _ (s₁.setTop (mkF m 5 #[.val (.int u0), .val (.int u1)] []))
    refine OEnds.pre (fun t k => XS.iloadN X0.here hx rfl (hb hby d3_5) rfl k) ?_
    show OEnds p e below s _ _ _ (s₁.setTop (mkF m 6 #[.val (.int u0), .val (.int u1)] [(.int u0)]))
    refine OEnds.pre (fun t k => XS.goto X0.here hx rfl (pc0 := 6) (pc' := 10) rfl (hb hby d3_6) (by decide) (by decide) k) ?_
    show OEnds p e below s _ _ _ (s₁.setTop (mkF m 10 #[.val (.int u0), .val (.int u1)] [(.int u0)]))
    exact OEnds.int X0 hx Bd.notSynchronized Bd.returns (hb hby d3_10) (Nat.zero_le _) (Nat.zero_le _) ⟨congrArg (fun q => some (Value.int q)) (by unfold f3; rw [if_neg c1]), rfl, e0⟩
theorem d8_0 : decode method_2_code 0 = .ok (.iload_n 0, 1) := by decide +kernel
theorem d8_1 : decode method_2_code 1 = .ok (.ifCond .ne 5, 3) := by decide +kernel
theorem d8_4 : decode method_2_code 4 = .ok (.iload_n 1, 1) := by decide +kernel
theorem d8_5 : decode method_2_code 5 = .ok (.ireturn, 1) := by decide +kernel
theorem d8_6 : decode method_2_code 6 = .ok (.iload_n 0, 1) := by decide +kernel
theorem d8_7 : decode method_2_code 7 = .ok (.iconst 1, 1) := by decide +kernel
theorem d8_8 : decode method_2_code 8 = .ok (.if_icmp .ne 7, 3) := by decide +kernel
theorem d8_11 : decode method_2_code 11 = .ok (.iload_n 1, 1) := by decide +kernel
theorem d8_12 : decode method_2_code 12 = .ok (.iconst 2, 1) := by decide +kernel
theorem d8_13 : decode method_2_code 13 = .ok (.ixor, 1) := by decide +kernel
theorem d8_14 : decode method_2_code 14 = .ok (.ireturn, 1) := by decide +kernel
theorem d8_15 : decode method_2_code 15 = .ok (.iload_n 0, 1) := by decide +kernel
theorem d8_16 : decode method_2_code 16 = .ok (.iconst 2, 1) := by decide +kernel
theorem d8_17 : decode method_2_code 17 = .ok (.if_icmp .ne 5, 3) := by decide +kernel
theorem d8_20 : decode method_2_code 20 = .ok (.iload_n 2, 1) := by decide +kernel
theorem d8_21 : decode method_2_code 21 = .ok (.ireturn, 1) := by decide +kernel
theorem d8_22 : decode method_2_code 22 = .ok (.iload_n 2, 1) := by decide +kernel
theorem d8_23 : decode method_2_code 23 = .ok (.iconst 2, 1) := by decide +kernel
theorem d8_24 : decode method_2_code 24 = .ok (.ixor, 1) := by decide +kernel
theorem d8_25 : decode method_2_code 25 = .ok (.ireturn, 1) := by decide +kernel
theorem pn_8 : plainFor (⟨"com/example/orderly_slopes/orderlyslopes/layout/OrthogonalGraphTurnPinLaw", "dirOf", "(III)I"⟩ : MethodName) = true := by first | exact plainFor_of_name (by first | (simp [plainName, overriddenIn]; done) | decide +kernel) | decide +kernel
theorem pd_8 : parseMethodDescriptor "(III)I" = some ⟨[.int, .int, .int], some .int⟩ := by decide +kernel
theorem ef_8 (m : MethodId) (u0 : Int32) (u1 : Int32) (u2 : Int32) : entryFrame m #[(.int u0), (.int u1), (.int u2)] 3 = mkF m 0 #[.val (.int u0), .val (.int u1), .val (.int u2)] [] := by first | (simp [entryFrame, mkF, argsToLocals, Value.category]; done) | rfl
def f8 (u0 : Int32) (u1 : Int32) (u2 : Int32) : Int32 := (if u0 = (0 : Int32) then u1 else (if u0 = (1 : Int32) then (u1 ^^^ (2 : Int32)) else (if u0 = (2 : Int32) then u2 else (u2 ^^^ (2 : Int32)))))
set_option maxRecDepth 65536 in
set_option maxHeartbeats 40000000 in
theorem met8 (l : Launch) (Z : State) (a0 : Array Value) (hw : ∀ d ∈ tables_1, d.before a0 Z = true) (ws : List Jvm.Cond) (u0 : Int32) (u1 : Int32) (u2 : Int32) (h0 : Heap) :
    MetFree l (⟨"com/example/orderly_slopes/orderlyslopes/layout/OrthogonalGraphTurnPinLaw", "dirOf", "(III)I"⟩ : MethodName) (head1 (Jvm.Cond.code (⟨"com/example/orderly_slopes/orderlyslopes/layout/OrthogonalGraphTurnPinLaw", "dirOf", "(III)I"⟩ : MethodName) method_2_code 3 (some .int) :: ws) ({ frames := 0, cells := 0, slots := 0, locals := 0 } : Room)) (fun a U => a = #[(.int u0), (.int u1), (.int u2)] ∧ Z.Warmed39 U.vm ∧ U.heap = h0) (fun _ _ _ _ _ => True) (fun _ U o U' => ∃ v L, o = .returned v ∧ (v = some (.int (f8 u0 u1 u2)) ∧ L = [] ∧ U'.heap = h0) ∧ FrameEnd U o U' L ({ frames := 0, cells := 0, slots := 0, locals := 0 } : Room).cells ({ frames := 0, cells := 0, slots := 0, locals := 0 } : Room).slots) := by
  refine MetFree.of_bodySF pn_8 hisR ?_
  intro p e s m args below meth c s₁ Bd hml0 hP hK
  obtain ⟨rfl, hZ, hh⟩ := hP
  have hx := Bd.exec
  have hby := Bd.bytes
  have hml : c.maxLocals = 3 := hml0
  have hown : s.vm.findClass "com/example/orderly_slopes/orderlyslopes/layout/OrthogonalGraphTurnPinLaw" = some m.cls := findClass_of_methodNamed Bd.named
  have X0 : Stand p l e ({ frames := 0, cells := 0, slots := 0, locals := 0 } : Room) s m #[(.int u0), (.int u1), (.int u2)] below meth c s₁ [] 0 0 := Stand.of_body Bd
  have e0 : s₁.heap = h0 := by rw [← hh, Bd.state]; rfl
  show OEnds p e below s _ _ (fun v h L => v = some (.int (f8 u0 u1 u2)) ∧ L = [] ∧ h = h0) _
  refine OEnds.pre (fun t k => castTop (ef_8 m u0 u1 u2) k) ?_
  show OEnds p e below s _ _ _ (s₁.setTop (mkF m 0 #[.val (.int u0), .val (.int u1), .val (.int u2)] []))
  refine OEnds.pre (fun t k => XS.iloadN X0.here hx rfl (hb hby d8_0) rfl k) ?_
  show OEnds p e below s _ _ _ (s₁.setTop (mkF m 1 #[.val (.int u0), .val (.int u1), .val (.int u2)] [(.int u0)]))
  by_cases c1 : u0 = (0 : Int32)
  · refine OEnds.pre (fun t k => XS.ifNo X0.here hx rfl (hb hby d8_1) rfl (XT.i0_ne_f c1) k) ?_
    show OEnds p e below s _ _ _ (s₁.setTop (mkF m 4 #[.val (.int u0), .val (.int u1), .val (.int u2)] []))
    refine OEnds.pre (fun t k => XS.iloadN X0.here hx rfl (hb hby d8_4) rfl k) ?_
    show OEnds p e below s _ _ _ (s₁.setTop (mkF m 5 #[.val (.int u0), .val (.int u1), .val (.int u2)] [(.int u1)]))
    exact OEnds.int X0 hx Bd.notSynchronized Bd.returns (hb hby d8_5) (Nat.zero_le _) (Nat.zero_le _) ⟨congrArg (fun q => some (Value.int q)) (by unfold f8; rw [if_pos c1]), rfl, e0⟩
  · refine OEnds.pre (fun t k => XS.ifYes X0.here hx rfl (pc0 := 1) (pc' := 6) rfl (hb hby d8_1) rfl (XT.i0_ne_t c1) (by decide) (by decide) k) ?_
    show OEnds p e below s _ _ _ (s₁.setTop (mkF m 6 #[.val (.int u0), .val (.int u1), .val (.int u2)] []))
    refine OEnds.pre (fun t k => XS.iloadN X0.here hx rfl (hb hby d8_6) rfl k) ?_
    show OEnds p e below s _ _ _ (s₁.setTop (mkF m 7 #[.val (.int u0), .val (.int u1), .val (.int u2)] [(.int u0)]))
    refine OEnds.pre (fun t k => XT.iconstV X0.here hx rfl (1 : Int32) (hb hby d8_7) rfl k) ?_
    show OEnds p e below s _ _ _ (s₁.setTop (mkF m 8 #[.val (.int u0), .val (.int u1), .val (.int u2)] [(.int (1 : Int32)), (.int u0)]))
    by_cases c2 : u0 = (1 : Int32)
    · refine OEnds.pre (fun t k => XS.icmpNo X0.here hx rfl (hb hby d8_8) rfl (XT.ii_ne_f c2) k) ?_
      show OEnds p e below s _ _ _ (s₁.setTop (mkF m 11 #[.val (.int u0), .val (.int u1), .val (.int u2)] []))
      refine OEnds.pre (fun t k => XS.iloadN X0.here hx rfl (hb hby d8_11) rfl k) ?_
      show OEnds p e below s _ _ _ (s₁.setTop (mkF m 12 #[.val (.int u0), .val (.int u1), .val (.int u2)] [(.int u1)]))
      refine OEnds.pre (fun t k => XT.iconstV X0.here hx rfl (2 : Int32) (hb hby d8_12) rfl k) ?_
      show OEnds p e below s _ _ _ (s₁.setTop (mkF m 13 #[.val (.int u0), .val (.int u1), .val (.int u2)] [(.int (2 : Int32)), (.int u1)]))
      refine OEnds.pre (fun t k => XT.ixor X0.here hx rfl (hb hby d8_13) rfl k) ?_
      show OEnds p e below s _ _ _ (s₁.setTop (mkF m 14 #[.val (.int u0), .val (.int u1), .val (.int u2)] [(.int (u1 ^^^ (2 : Int32)))]))
      exact OEnds.int X0 hx Bd.notSynchronized Bd.returns (hb hby d8_14) (Nat.zero_le _) (Nat.zero_le _) ⟨congrArg (fun q => some (Value.int q)) (by unfold f8; rw [if_neg c1, if_pos c2]), rfl, e0⟩
    · refine OEnds.pre (fun t k => XS.icmpYes X0.here hx rfl (pc0 := 8) (pc' := 15) rfl (hb hby d8_8) rfl (XT.ii_ne_t c2) (by decide) (by decide) k) ?_
      show OEnds p e below s _ _ _ (s₁.setTop (mkF m 15 #[.val (.int u0), .val (.int u1), .val (.int u2)] []))
      refine OEnds.pre (fun t k => XS.iloadN X0.here hx rfl (hb hby d8_15) rfl k) ?_
      show OEnds p e below s _ _ _ (s₁.setTop (mkF m 16 #[.val (.int u0), .val (.int u1), .val (.int u2)] [(.int u0)]))
      refine OEnds.pre (fun t k => XT.iconstV X0.here hx rfl (2 : Int32) (hb hby d8_16) rfl k) ?_
      show OEnds p e below s _ _ _ (s₁.setTop (mkF m 17 #[.val (.int u0), .val (.int u1), .val (.int u2)] [(.int (2 : Int32)), (.int u0)]))
      by_cases c3 : u0 = (2 : Int32)
      · refine OEnds.pre (fun t k => XS.icmpNo X0.here hx rfl (hb hby d8_17) rfl (XT.ii_ne_f c3) k) ?_
        show OEnds p e below s _ _ _ (s₁.setTop (mkF m 20 #[.val (.int u0), .val (.int u1), .val (.int u2)] []))
        refine OEnds.pre (fun t k => XS.iloadN X0.here hx rfl (hb hby d8_20) rfl k) ?_
        show OEnds p e below s _ _ _ (s₁.setTop (mkF m 21 #[.val (.int u0), .val (.int u1), .val (.int u2)] [(.int u2)]))
        exact OEnds.int X0 hx Bd.notSynchronized Bd.returns (hb hby d8_21) (Nat.zero_le _) (Nat.zero_le _) ⟨congrArg (fun q => some (Value.int q)) (by unfold f8; rw [if_neg c1, if_neg c2, if_pos c3]), rfl, e0⟩
      · refine OEnds.pre (fun t k => XS.icmpYes X0.here hx rfl (pc0 := 17) (pc' := 22) rfl (hb hby d8_17) rfl (XT.ii_ne_t c3) (by decide) (by decide) k) ?_
        show OEnds p e below s _ _ _ (s₁.setTop (mkF m 22 #[.val (.int u0), .val (.int u1), .val (.int u2)] []))
        refine OEnds.pre (fun t k => XS.iloadN X0.here hx rfl (hb hby d8_22) rfl k) ?_
        show OEnds p e below s _ _ _ (s₁.setTop (mkF m 23 #[.val (.int u0), .val (.int u1), .val (.int u2)] [(.int u2)]))
        refine OEnds.pre (fun t k => XT.iconstV X0.here hx rfl (2 : Int32) (hb hby d8_23) rfl k) ?_
        show OEnds p e below s _ _ _ (s₁.setTop (mkF m 24 #[.val (.int u0), .val (.int u1), .val (.int u2)] [(.int (2 : Int32)), (.int u2)]))
        refine OEnds.pre (fun t k => XT.ixor X0.here hx rfl (hb hby d8_24) rfl k) ?_
        show OEnds p e below s _ _ _ (s₁.setTop (mkF m 25 #[.val (.int u0), .val (.int u1), .val (.int u2)] [(.int (u2 ^^^ (2 : Int32)))]))
        exact OEnds.int X0 hx Bd.notSynchronized Bd.returns (hb hby d8_25) (Nat.zero_le _) (Nat.zero_le _) ⟨congrArg (fun q => some (Value.int q)) (by unfold f8; rw [if_neg c1, if_neg c2, if_neg c3]), rfl, e0⟩
theorem f8_rng {k x y : Int32} (hx : rng4 x) (hy : rng4 y) : rng4 (f8 k x y) := by
  unfold f8
  repeat' split
  · exact hx
  · exact rng4_xor hx
  · exact hy
  · exact rng4_xor hy
theorem b2 {x : Int32} (h : rng4 x) : nar .byte (nar .byte x) = x := by rcases h with rfl | rfl | rfl | rfl <;> decide
theorem rng4_ix {k : Int32} (h : rng4 k) : ¬ k < 0 := by rcases h with rfl | rfl | rfl | rfl <;> decide
theorem dirs_at {k x y : Int32} (hk : rng4 k) (hx : rng4 x) (hy : rng4 y) : ([.int (nar .byte (nar .byte x)), .int (nar .byte (nar .byte (x ^^^ (2 : Int32)))), .int (nar .byte (nar .byte y)), .int (nar .byte (nar .byte (y ^^^ (2 : Int32))))] : List Jvm.Value)[k.toNatClampNeg]? = some (.int (f8 k x y)) := by
  rw [b2 hx, b2 hy, b2 (rng4_xor hx), b2 (rng4_xor hy)]
  rcases hk with rfl | rfl | rfl | rfl <;> rfl
theorem set_self {α : Type} {es : List α} {q : Nat} {x : α} (h : es[q]? = some x) : es.set q x = es := by
  apply List.ext_getElem?
  intro i
  rw [List.getElem?_set]
  split
  · rename_i e; subst e
    split
    · exact h.symm
    · rename_i hl; rw [List.getElem?_eq_none (by omega)]
  · rfl
theorem set_get {α : Type} {es : List α} {q : Nat} {x y : α} (h : es[q]? = some x) : (es.set q y)[q]? = some y := by
  rw [List.getElem?_set]; simp [(List.getElem?_eq_some_iff.mp h).1]
theorem d4_0 : decode jdk_65_method_103_code 0 = .ok (.iconst 0, 1) := by decide +kernel
theorem d4_1 : decode jdk_65_method_103_code 1 = .ok (.istore_n 2, 1) := by decide +kernel
theorem d4_2 : decode jdk_65_method_103_code 2 = .ok (.aload_n 0, 1) := by decide +kernel
theorem d4_3 : decode jdk_65_method_103_code 3 = .ok (.arraylength, 1) := by decide +kernel
theorem d4_4 : decode jdk_65_method_103_code 4 = .ok (.istore_n 3, 1) := by decide +kernel
theorem d4_5 : decode jdk_65_method_103_code 5 = .ok (.iload_n 2, 1) := by decide +kernel
theorem d4_6 : decode jdk_65_method_103_code 6 = .ok (.iload_n 3, 1) := by decide +kernel
theorem d4_7 : decode jdk_65_method_103_code 7 = .ok (.if_icmp .ge 13, 3) := by decide +kernel
theorem d4_10 : decode jdk_65_method_103_code 10 = .ok (.aload_n 0, 1) := by decide +kernel
theorem d4_11 : decode jdk_65_method_103_code 11 = .ok (.iload_n 2, 1) := by decide +kernel
theorem d4_12 : decode jdk_65_method_103_code 12 = .ok (.iload_n 1, 1) := by decide +kernel
theorem d4_13 : decode jdk_65_method_103_code 13 = .ok (.iastore, 1) := by decide +kernel
theorem d4_14 : decode jdk_65_method_103_code 14 = .ok (.iinc 2 1, 3) := by decide +kernel
theorem d4_17 : decode jdk_65_method_103_code 17 = .ok (.goto (-12), 3) := by decide +kernel
theorem d4_20 : decode jdk_65_method_103_code 20 = .ok (.return_, 1) := by decide +kernel
theorem pn_4 : plainFor (⟨"java/util/Arrays", "fill", "([II)V"⟩ : MethodName) = true := by first | exact plainFor_of_name (by first | (simp [plainName, overriddenIn]; done) | decide +kernel) | decide +kernel
theorem ef_4 (m : MethodId) (x0 : Addr) (x1 : Int32) : entryFrame m #[(.ref x0), (.int x1)] 4 = mkF m 0 #[.val (.ref x0), .val (.int x1), .unset, .unset] [] := by first | (simp [entryFrame, mkF, argsToLocals, Value.category]; done) | rfl
set_option maxRecDepth 65536 in
set_option maxHeartbeats 40000000 in
theorem con4 (l : Launch) (Z : State) (a0 : Array Value) (hw : ∀ d ∈ tables_1, d.before a0 Z = true) (n0 : Nat) (ws : List Jvm.Cond) (u0 : Addr) (u1 : Int32) (es : List OEnt) (q : Nat) (vs : List Value) (hq : es[q]? = some (eA u0 .int vs)) (hl : vs.length < 2 ^ 31) :
    OCon l Z n0 (⟨"java/util/Arrays", "fill", "([II)V"⟩ : MethodName) jdk_65_method_103_code 4 none ws ({ frames := 0, cells := 0, slots := 0, locals := 0 } : Room) #[(.ref u0), (.int u1)] es (fun v' es' => v' = none ∧ es' = es.set q (eA u0 .int (List.replicate vs.length (.int u1)))) := by
  intro h0 hW0
  refine MetFree.of_bodySF pn_4 hisR ?_
  intro p e s m args below meth c s₁ Bd hml0 hP hK
  obtain ⟨rfl, hZ, hh⟩ := hP
  have hx := Bd.exec
  have hby := Bd.bytes
  have hml : c.maxLocals = 4 := hml0
  have hown : s.vm.findClass "java/util/Arrays" = some m.cls := findClass_of_methodNamed Bd.named
  have hnm := (name_of_methodNamed Bd.named Bd.method).1
  have H0 : OHere p l e ({ frames := 0, cells := 0, slots := 0, locals := 0 } : Room) s m #[(.ref u0), (.int u1)] below meth c Z n0 s₁ 0 0 es := ⟨[], Stand.of_body Bd, by rw [show s₁.heap = h0 from by rw [← hh, Bd.state]; rfl]; exact hW0, Fr.nil _⟩
  show OEnds p e below s _ _ (fun v' h' L => Fr n0 L ∧ ∃ es', (fun v' es' => v' = none ∧ es' = es.set q (eA u0 .int (List.replicate vs.length (.int u1)))) v' es' ∧ OWorld Z n0 h' es') _
  refine OEnds.pre (fun t k => castTop (ef_4 m u0 u1) k) ?_
  show OEnds p e below s _ _ _ (s₁.setTop (mkF m 0 #[.val (.ref u0), .val (.int u1), .unset, .unset] []))
  refine OEnds.pre (fun t k => XT.iconstV H0.here hx rfl (0 : Int32) (hb hby d4_0) rfl k) ?_
  show OEnds p e below s _ _ _ (s₁.setTop (mkF m 1 #[.val (.ref u0), .val (.int u1), .unset, .unset] [(.int (0 : Int32))]))
  refine OEnds.pre (fun t k => XS.istoreN H0.here hx rfl (hb hby d4_1) rfl (l' := #[.val (.ref u0), .val (.int u1), .val (.int (0 : Int32)), .unset]) rfl k) ?_
  show OEnds p e below s _ _ _ (s₁.setTop (mkF m 2 #[.val (.ref u0), .val (.int u1), .val (.int (0 : Int32)), .unset] []))
  refine OEnds.pre (fun t k => XS.aloadN H0.here hx rfl (hb hby d4_2) rfl rfl k) ?_
  show OEnds p e below s _ _ _ (s₁.setTop (mkF m 3 #[.val (.ref u0), .val (.int u1), .val (.int (0 : Int32)), .unset] [(.ref u0)]))
  refine OEnds.pre (fun t k => OHere.len H0 hx hZ (q := q) (vs := vs) (z := vs.length.toInt32) hq rfl (hb hby d4_3) k) ?_
  show OEnds p e below s _ _ _ (s₁.setTop (mkF m 4 #[.val (.ref u0), .val (.int u1), .val (.int (0 : Int32)), .unset] [(.int vs.length.toInt32)]))
  refine OEnds.pre (fun t k => XS.istoreN H0.here hx rfl (hb hby d4_4) rfl (l' := #[.val (.ref u0), .val (.int u1), .val (.int (0 : Int32)), .val (.int vs.length.toInt32)]) rfl k) ?_
  show OEnds p e below s _ _ _ (s₁.setTop (mkF m 5 #[.val (.ref u0), .val (.int u1), .val (.int (0 : Int32)), .val (.int vs.length.toInt32)] []))
  have loop : ∀ (k i : Nat) (T : State), i + k = vs.length → OHere p l e ({ frames := 0, cells := 0, slots := 0, locals := 0 } : Room) s m #[(.ref u0), (.int u1)] below meth c Z n0 T 0 0 (es.set q (eA u0 .int (List.replicate i (.int u1) ++ vs.drop i))) → OEnds p e below s ({ frames := 0, cells := 0, slots := 0, locals := 0 } : Room).cells ({ frames := 0, cells := 0, slots := 0, locals := 0 } : Room).slots (fun v' h' L => Fr n0 L ∧ ∃ es', (fun v' es' => v' = none ∧ es' = es.set q (eA u0 .int (List.replicate vs.length (.int u1)))) v' es' ∧ OWorld Z n0 h' es') (T.setTop (mkF m 5 #[.val (.ref u0), .val (.int u1), .val (.int i.toInt32), .val (.int vs.length.toInt32)] [])) := by
    intro k
    induction k with
    | zero =>
      intro i T hk H
      have hi : i = vs.length := by omega
      subst hi
      refine OEnds.pre (fun t k => XS.iloadN H.here hx rfl (hb hby d4_5) rfl k) ?_
      show OEnds p e below s _ _ _ (T.setTop (mkF m 6 #[.val (.ref u0), .val (.int u1), .val (.int vs.length.toInt32), .val (.int vs.length.toInt32)] [(.int vs.length.toInt32)]))
      refine OEnds.pre (fun t k => XS.iloadN H.here hx rfl (hb hby d4_6) rfl k) ?_
      show OEnds p e below s _ _ _ (T.setTop (mkF m 7 #[.val (.ref u0), .val (.int u1), .val (.int vs.length.toInt32), .val (.int vs.length.toInt32)] [(.int vs.length.toInt32), (.int vs.length.toInt32)]))
      refine OEnds.pre (fun t k => XS.icmpYes H.here hx rfl (pc0 := 7) (pc' := 20) rfl (hb hby d4_7) rfl (XT.ii_ge_t (by simp)) (by decide) (by decide) k) ?_
      show OEnds p e below s _ _ _ (T.setTop (mkF m 20 #[.val (.ref u0), .val (.int u1), .val (.int vs.length.toInt32), .val (.int vs.length.toInt32)] []))
      exact H.ret hx Bd.notSynchronized Bd.returns (hb hby d4_20) (by decide) (by decide) (fun h L W N => ⟨N, _, ⟨rfl, by rw [fill_done]⟩, W⟩)
    | succ k ih =>
      intro i T hk H
      have hi : i < vs.length := by omega
      refine OEnds.pre (fun t k => XS.iloadN H.here hx rfl (hb hby d4_5) rfl k) ?_
      show OEnds p e below s _ _ _ (T.setTop (mkF m 6 #[.val (.ref u0), .val (.int u1), .val (.int i.toInt32), .val (.int vs.length.toInt32)] [(.int i.toInt32)]))
      refine OEnds.pre (fun t k => XS.iloadN H.here hx rfl (hb hby d4_6) rfl k) ?_
      show OEnds p e below s _ _ _ (T.setTop (mkF m 7 #[.val (.ref u0), .val (.int u1), .val (.int i.toInt32), .val (.int vs.length.toInt32)] [(.int vs.length.toInt32), (.int i.toInt32)]))
      refine OEnds.pre (fun t k => XS.icmpNo H.here hx rfl (hb hby d4_7) rfl (XT.ii_ge_f (n_lt hl hi)) k) ?_
      show OEnds p e below s _ _ _ (T.setTop (mkF m 10 #[.val (.ref u0), .val (.int u1), .val (.int i.toInt32), .val (.int vs.length.toInt32)] []))
      refine OEnds.pre (fun t k => XS.aloadN H.here hx rfl (hb hby d4_10) rfl rfl k) ?_
      show OEnds p e below s _ _ _ (T.setTop (mkF m 11 #[.val (.ref u0), .val (.int u1), .val (.int i.toInt32), .val (.int vs.length.toInt32)] [(.ref u0)]))
      refine OEnds.pre (fun t k => XS.iloadN H.here hx rfl (hb hby d4_11) rfl k) ?_
      show OEnds p e below s _ _ _ (T.setTop (mkF m 12 #[.val (.ref u0), .val (.int u1), .val (.int i.toInt32), .val (.int vs.length.toInt32)] [(.int i.toInt32), (.ref u0)]))
      refine OEnds.pre (fun t k => XS.iloadN H.here hx rfl (hb hby d4_12) rfl k) ?_
      show OEnds p e below s _ _ _ (T.setTop (mkF m 13 #[.val (.ref u0), .val (.int u1), .val (.int i.toInt32), .val (.int vs.length.toInt32)] [(.int u1), (.int i.toInt32), (.ref u0)]))
      obtain ⟨T1, H1, st1⟩ := OHere.iastore H hx hZ (q := q) (i := i) (vs := (List.replicate i (.int u1) ++ vs.drop i)) (x := u1) (j := i.toInt32) (pc := 13) (Ls := #[.val (.ref u0), .val (.int u1), .val (.int i.toInt32), .val (.int vs.length.toInt32)]) (rest := []) (set_get hq) (n_nneg (by omega)) (n_clamp (by omega)) (by simp; omega) (hb hby d4_13)
      rw [List.set_set, fill_step vs _ i hi] at H1
      refine OEnds.pre (fun t k => st1 _ k) ?_
      show OEnds p e below s _ _ _ (T1.setTop (mkF m 14 #[.val (.ref u0), .val (.int u1), .val (.int i.toInt32), .val (.int vs.length.toInt32)] []))
      refine OEnds.pre (fun t k => XT.iincV H1.here hx rfl (l' := #[.val (.ref u0), .val (.int u1), .val (.int (i.toInt32 + (1 : Int32))), .val (.int vs.length.toInt32)]) (1 : Int32) (hb hby d4_14) rfl rfl rfl k) ?_
      show OEnds p e below s _ _ _ (T1.setTop (mkF m 17 #[.val (.ref u0), .val (.int u1), .val (.int (i.toInt32 + (1 : Int32))), .val (.int vs.length.toInt32)] []))
      refine OEnds.pre (fun t k => XS.goto H1.here hx rfl (pc0 := 17) (pc' := 5) rfl (hb hby d4_17) (by decide) (by decide) k) ?_
      show OEnds p e below s _ _ _ (T1.setTop (mkF m 5 #[.val (.ref u0), .val (.int u1), .val (.int (i.toInt32 + (1 : Int32))), .val (.int vs.length.toInt32)] []))
      rw [n_succ (by omega)]
      exact ih (i + 1) _ (by omega) H1
  exact loop vs.length 0 _ (by omega) (by rw [List.replicate_zero, List.nil_append, List.drop_zero, set_self hq]; exact H0)
theorem con3 (l : Launch) (Z : State) (a0 : Array Value) (hw : ∀ d ∈ tables_1, d.before a0 Z = true) (n0 : Nat) (ws : List Jvm.Cond) (u0 u1 r : Int32) (hr : f3 u0 u1 = r) (es : List OEnt) :
    OCon l Z n0 (⟨"java/lang/Math", "max", "(II)I"⟩ : MethodName) jdk_29_method_65_code 2 (some .int) ws ({ frames := 0, cells := 0, slots := 0, locals := 0 } : Room) #[(.int u0), (.int u1)] es (fun v' es' => v' = some (.int r) ∧ es' = es) := by
  subst hr; exact OCon.of_pure fun h => met3 l Z a0 hw ws u0 u1 h
theorem pd_ocI : parseMethodDescriptor "()I" = some ⟨[], some .int⟩ := by decide +kernel
theorem pd_oIIcI : parseMethodDescriptor "(II)I" = some ⟨[.int, .int], some .int⟩ := by decide +kernel
theorem pd_oIIcV : parseMethodDescriptor "(II)V" = some ⟨[.int, .int], none⟩ := by decide +kernel
theorem pd_oIIIcI : parseMethodDescriptor "(III)I" = some ⟨[.int, .int, .int], some .int⟩ := by decide +kernel
theorem pd_oIIIcV : parseMethodDescriptor "(III)V" = some ⟨[.int, .int, .int], none⟩ := by decide +kernel
theorem pd_oAIIcV : parseMethodDescriptor "([II)V" = some ⟨[(.array .int), .int], none⟩ := by decide +kernel
theorem blk16 (v : Nat) (hv : v < 4) : blk v ([.int (-1), .int (-1), .int (-1), .int (-1), .int (-1), .int (-1), .int (-1), .int (-1), .int (-1), .int (-1), .int (-1), .int (-1), .int (-1), .int (-1), .int (-1), .int (-1)] : List Value) := fun i h1 h2 => by
  have : i < 16 := by omega
  have h : ∀ j < 16, ([.int (-1), .int (-1), .int (-1), .int (-1), .int (-1), .int (-1), .int (-1), .int (-1), .int (-1), .int (-1), .int (-1), .int (-1), .int (-1), .int (-1), .int (-1), .int (-1)] : List Value)[j]? = some (.int (-1)) := by decide
  exact h i this
theorem d1_0 : decode prog_33_method_1_code 0 = .ok (.aload_n 0, 1) := by decide +kernel
theorem d1_1 : decode prog_33_method_1_code 1 = .ok (.invokespecial 1, 3) := by decide +kernel
theorem d1_4 : decode prog_33_method_1_code 4 = .ok (.aload_n 0, 1) := by decide +kernel
theorem d1_5 : decode prog_33_method_1_code 5 = .ok (.iconst 4, 1) := by decide +kernel
theorem d1_6 : decode prog_33_method_1_code 6 = .ok (.iload_n 1, 1) := by decide +kernel
theorem d1_7 : decode prog_33_method_1_code 7 = .ok (.iconst 1, 1) := by decide +kernel
theorem d1_8 : decode prog_33_method_1_code 8 = .ok (.invokestatic 7, 3) := by decide +kernel
theorem d1_11 : decode prog_33_method_1_code 11 = .ok (.imul, 1) := by decide +kernel
theorem d1_12 : decode prog_33_method_1_code 12 = .ok (.newarray .int, 2) := by decide +kernel
theorem d1_14 : decode prog_33_method_1_code 14 = .ok (.putfield 13, 3) := by decide +kernel
theorem d1_17 : decode prog_33_method_1_code 17 = .ok (.aload_n 0, 1) := by decide +kernel
theorem d1_18 : decode prog_33_method_1_code 18 = .ok (.getfield 13, 3) := by decide +kernel
theorem d1_21 : decode prog_33_method_1_code 21 = .ok (.iconst (-1), 1) := by decide +kernel
theorem d1_22 : decode prog_33_method_1_code 22 = .ok (.invokestatic 19, 3) := by decide +kernel
theorem d1_25 : decode prog_33_method_1_code 25 = .ok (.aload_n 0, 1) := by decide +kernel
theorem d1_26 : decode prog_33_method_1_code 26 = .ok (.iload_n 1, 1) := by decide +kernel
theorem d1_27 : decode prog_33_method_1_code 27 = .ok (.putfield 25, 3) := by decide +kernel
theorem d1_30 : decode prog_33_method_1_code 30 = .ok (.aload_n 0, 1) := by decide +kernel
theorem d1_31 : decode prog_33_method_1_code 31 = .ok (.iconst 2, 1) := by decide +kernel
theorem d1_32 : decode prog_33_method_1_code 32 = .ok (.iload_n 2, 1) := by decide +kernel
theorem d1_33 : decode prog_33_method_1_code 33 = .ok (.iconst 1, 1) := by decide +kernel
theorem d1_34 : decode prog_33_method_1_code 34 = .ok (.invokestatic 7, 3) := by decide +kernel
theorem d1_37 : decode prog_33_method_1_code 37 = .ok (.imul, 1) := by decide +kernel
theorem d1_38 : decode prog_33_method_1_code 38 = .ok (.newarray .int, 2) := by decide +kernel
theorem d1_40 : decode prog_33_method_1_code 40 = .ok (.putfield 29, 3) := by decide +kernel
theorem d1_43 : decode prog_33_method_1_code 43 = .ok (.aload_n 0, 1) := by decide +kernel
theorem d1_44 : decode prog_33_method_1_code 44 = .ok (.aload_n 0, 1) := by decide +kernel
theorem d1_45 : decode prog_33_method_1_code 45 = .ok (.getfield 29, 3) := by decide +kernel
theorem d1_48 : decode prog_33_method_1_code 48 = .ok (.arraylength, 1) := by decide +kernel
theorem d1_49 : decode prog_33_method_1_code 49 = .ok (.newarray .byte, 2) := by decide +kernel
theorem d1_51 : decode prog_33_method_1_code 51 = .ok (.putfield 32, 3) := by decide +kernel
theorem d1_54 : decode prog_33_method_1_code 54 = .ok (.return_, 1) := by decide +kernel
theorem pn_1 : plainFor (⟨"com/example/orderly_slopes/orderlyslopes/layout/OrthogonalGraph", "<init>", "(II)V"⟩ : MethodName) = true := by first | exact plainFor_of_name (by first | (simp [plainName, overriddenIn]; done) | decide +kernel) | decide +kernel
theorem ef_1 (m : MethodId) (x0 : Addr) (x1 : Int32) (x2 : Int32) : entryFrame m #[(.ref x0), (.int x1), (.int x2)] 3 = mkF m 0 #[.val (.ref x0), .val (.int x1), .val (.int x2)] [] := by first | (simp [entryFrame, mkF, argsToLocals, Value.category]; done) | rfl
set_option maxRecDepth 65536 in
set_option maxHeartbeats 40000000 in
theorem con1 (l : Launch) (Z : State) (a0 : Array Value) (hw : ∀ d ∈ tables_1, d.before a0 Z = true) (n0 : Nat) (ws : List Jvm.Cond) (u0 : Addr)  :
    OCon l Z n0 (⟨"com/example/orderly_slopes/orderlyslopes/layout/OrthogonalGraph", "<init>", "(II)V"⟩ : MethodName) prog_33_method_1_code 3 none ws ({ frames := 1, cells := 3, slots := 24, locals := 15 } : Room) #[(.ref u0), (.int (4 : Int32)), (.int (2 : Int32))] [(eO u0 "com/example/orderly_slopes/orderlyslopes/layout/OrthogonalGraph" [("com/example/orderly_slopes/orderlyslopes/layout/OrthogonalGraph", "ports", "[I", .null), ("com/example/orderly_slopes/orderlyslopes/layout/OrthogonalGraph", "vertexCount", "I", (.int 0)), ("com/example/orderly_slopes/orderlyslopes/layout/OrthogonalGraph", "origins", "[I", .null), ("com/example/orderly_slopes/orderlyslopes/layout/OrthogonalGraph", "directions", "[B", .null), ("com/example/orderly_slopes/orderlyslopes/layout/OrthogonalGraph", "edgeCount", "I", (.int 0))])] (fun v' es' => ∃ bp bo bd : Addr, v' = none ∧ es' = [(eO u0 "com/example/orderly_slopes/orderlyslopes/layout/OrthogonalGraph" [("com/example/orderly_slopes/orderlyslopes/layout/OrthogonalGraph", "ports", "[I", (.ref bp)), ("com/example/orderly_slopes/orderlyslopes/layout/OrthogonalGraph", "vertexCount", "I", (.int (4 : Int32))), ("com/example/orderly_slopes/orderlyslopes/layout/OrthogonalGraph", "origins", "[I", (.ref bo)), ("com/example/orderly_slopes/orderlyslopes/layout/OrthogonalGraph", "directions", "[B", (.ref bd)), ("com/example/orderly_slopes/orderlyslopes/layout/OrthogonalGraph", "edgeCount", "I", (.int 0))]), (eA bp .int [.int (-1), .int (-1), .int (-1), .int (-1), .int (-1), .int (-1), .int (-1), .int (-1), .int (-1), .int (-1), .int (-1), .int (-1), .int (-1), .int (-1), .int (-1), .int (-1)]), (eA bo .int [.int 0, .int 0, .int 0, .int 0]), (eA bd .byte [.int 0, .int 0, .int 0, .int 0])]) := by
  intro h0 hW0
  refine MetFree.of_bodySF pn_1 hisR ?_
  intro p e s m args below meth c s₁ Bd hml0 hP hK
  obtain ⟨rfl, hZ, hh⟩ := hP
  have hx := Bd.exec
  have hby := Bd.bytes
  have hml : c.maxLocals = 3 := hml0
  have hown : s.vm.findClass "com/example/orderly_slopes/orderlyslopes/layout/OrthogonalGraph" = some m.cls := findClass_of_methodNamed Bd.named
  have hnm := (name_of_methodNamed Bd.named Bd.method).1
  have H0 : OHere p l e ({ frames := 1, cells := 3, slots := 24, locals := 15 } : Room) s m #[(.ref u0), (.int (4 : Int32)), (.int (2 : Int32))] below meth c Z n0 s₁ 0 0 [(eO u0 "com/example/orderly_slopes/orderlyslopes/layout/OrthogonalGraph" [("com/example/orderly_slopes/orderlyslopes/layout/OrthogonalGraph", "ports", "[I", .null), ("com/example/orderly_slopes/orderlyslopes/layout/OrthogonalGraph", "vertexCount", "I", (.int 0)), ("com/example/orderly_slopes/orderlyslopes/layout/OrthogonalGraph", "origins", "[I", .null), ("com/example/orderly_slopes/orderlyslopes/layout/OrthogonalGraph", "directions", "[B", .null), ("com/example/orderly_slopes/orderlyslopes/layout/OrthogonalGraph", "edgeCount", "I", (.int 0))])] := ⟨[], Stand.of_body Bd, by rw [show s₁.heap = h0 from by rw [← hh, Bd.state]; rfl]; exact hW0, Fr.nil _⟩
  show OEnds p e below s _ _ (fun v' h' L => Fr n0 L ∧ ∃ es', (fun v' es' => ∃ bp bo bd : Addr, v' = none ∧ es' = [(eO u0 "com/example/orderly_slopes/orderlyslopes/layout/OrthogonalGraph" [("com/example/orderly_slopes/orderlyslopes/layout/OrthogonalGraph", "ports", "[I", (.ref bp)), ("com/example/orderly_slopes/orderlyslopes/layout/OrthogonalGraph", "vertexCount", "I", (.int (4 : Int32))), ("com/example/orderly_slopes/orderlyslopes/layout/OrthogonalGraph", "origins", "[I", (.ref bo)), ("com/example/orderly_slopes/orderlyslopes/layout/OrthogonalGraph", "directions", "[B", (.ref bd)), ("com/example/orderly_slopes/orderlyslopes/layout/OrthogonalGraph", "edgeCount", "I", (.int 0))]), (eA bp .int [.int (-1), .int (-1), .int (-1), .int (-1), .int (-1), .int (-1), .int (-1), .int (-1), .int (-1), .int (-1), .int (-1), .int (-1), .int (-1), .int (-1), .int (-1), .int (-1)]), (eA bo .int [.int 0, .int 0, .int 0, .int 0]), (eA bd .byte [.int 0, .int 0, .int 0, .int 0])]) v' es' ∧ OWorld Z n0 h' es') _
  refine OEnds.pre (fun t k => castTop (ef_1 m u0 (4 : Int32) (2 : Int32)) k) ?_
  show OEnds p e below s _ _ _ (s₁.setTop (mkF m 0 #[.val (.ref u0), .val (.int (4 : Int32)), .val (.int (2 : Int32))] []))
  refine OEnds.pre (fun t k => XS.aloadN H0.here hx rfl (hb hby d1_0) rfl rfl k) ?_
  show OEnds p e below s _ _ _ (s₁.setTop (mkF m 1 #[.val (.ref u0), .val (.int (4 : Int32)), .val (.int (2 : Int32))] [(.ref u0)]))
  obtain ⟨T1, H1, st1⟩ := OHere.initO H0 hx hZ (pc := 1) (Ls := #[.val (.ref u0), .val (.int (4 : Int32)), .val (.int (2 : Int32))]) (rest := []) (a := u0) hown (hw _ (List.mem_of_getElem? (i := 6) rfl)) (hw _ (List.mem_of_getElem? (i := 7) rfl)) (hw _ (List.mem_of_getElem? (i := 8) rfl)) (by rw [hml]; rfl) (hb hby d1_1) (by decide) (W := 0) (Nat.le_of_eq rfl) (by decide)
  replace H1 : OHere p l e _ s m _ below meth c Z n0 T1 0 0 [(eO u0 "com/example/orderly_slopes/orderlyslopes/layout/OrthogonalGraph" [("com/example/orderly_slopes/orderlyslopes/layout/OrthogonalGraph", "ports", "[I", .null), ("com/example/orderly_slopes/orderlyslopes/layout/OrthogonalGraph", "vertexCount", "I", (.int 0)), ("com/example/orderly_slopes/orderlyslopes/layout/OrthogonalGraph", "origins", "[I", .null), ("com/example/orderly_slopes/orderlyslopes/layout/OrthogonalGraph", "directions", "[B", .null), ("com/example/orderly_slopes/orderlyslopes/layout/OrthogonalGraph", "edgeCount", "I", (.int 0))])] := H1
  refine OEnds.pre (fun t k => st1 _ k) ?_
  show OEnds p e below s _ _ _ (T1.setTop (mkF m 4 #[.val (.ref u0), .val (.int (4 : Int32)), .val (.int (2 : Int32))] []))
  refine OEnds.pre (fun t k => XS.aloadN H1.here hx rfl (hb hby d1_4) rfl rfl k) ?_
  show OEnds p e below s _ _ _ (T1.setTop (mkF m 5 #[.val (.ref u0), .val (.int (4 : Int32)), .val (.int (2 : Int32))] [(.ref u0)]))
  refine OEnds.pre (fun t k => XT.iconstV H1.here hx rfl (4 : Int32) (hb hby d1_5) rfl k) ?_
  show OEnds p e below s _ _ _ (T1.setTop (mkF m 6 #[.val (.ref u0), .val (.int (4 : Int32)), .val (.int (2 : Int32))] [(.int (4 : Int32)), (.ref u0)]))
  refine OEnds.pre (fun t k => XS.iloadN H1.here hx rfl (hb hby d1_6) rfl k) ?_
  show OEnds p e below s _ _ _ (T1.setTop (mkF m 7 #[.val (.ref u0), .val (.int (4 : Int32)), .val (.int (2 : Int32))] [(.int (4 : Int32)), (.int (4 : Int32)), (.ref u0)]))
  refine OEnds.pre (fun t k => XT.iconstV H1.here hx rfl (1 : Int32) (hb hby d1_7) rfl k) ?_
  show OEnds p e below s _ _ _ (T1.setTop (mkF m 8 #[.val (.ref u0), .val (.int (4 : Int32)), .val (.int (2 : Int32))] [(.int (1 : Int32)), (.int (4 : Int32)), (.int (4 : Int32)), (.ref u0)]))
  obtain ⟨T2, _, _, ⟨rfl, rfl⟩, H2, st2⟩ := OHere.static H1 hx hZ (y := (⟨"java/lang/Math", "max", "(II)I"⟩ : MethodName)) (P := _) (W := 2) hown (hw _ (List.mem_of_getElem? (i := 9) rfl)) (hw _ (List.mem_of_getElem? (i := 10) rfl)) (hw _ (List.mem_of_getElem? (i := 11) rfl)) (hw _ (List.mem_of_getElem? (i := 12) rfl)) (by decide) (con3 l Z a0 hw n0 [] (4 : Int32) (1 : Int32) (4 : Int32) (by decide) _) (by decide) (by decide) (pc := 8) (Ls := #[.val (.ref u0), .val (.int (4 : Int32)), .val (.int (2 : Int32))]) (argsL := [(.int (4 : Int32)), (.int (1 : Int32))]) (rest := [(.int (4 : Int32)), (.ref u0)]) (by rw [hml]; rfl) (lenOf pd_oIIcI rfl) rfl (Nat.le_of_eq rfl) (hb hby d1_8) (by decide) (by decide)
  replace H2 : OHere p l e _ s m _ below meth c Z n0 T2 0 0 [(eO u0 "com/example/orderly_slopes/orderlyslopes/layout/OrthogonalGraph" [("com/example/orderly_slopes/orderlyslopes/layout/OrthogonalGraph", "ports", "[I", .null), ("com/example/orderly_slopes/orderlyslopes/layout/OrthogonalGraph", "vertexCount", "I", (.int 0)), ("com/example/orderly_slopes/orderlyslopes/layout/OrthogonalGraph", "origins", "[I", .null), ("com/example/orderly_slopes/orderlyslopes/layout/OrthogonalGraph", "directions", "[B", .null), ("com/example/orderly_slopes/orderlyslopes/layout/OrthogonalGraph", "edgeCount", "I", (.int 0))])] := H2
  refine OEnds.pre (fun t k => st2 _ k) ?_
  show OEnds p e below s _ _ _ (T2.setTop (mkF m 11 #[.val (.ref u0), .val (.int (4 : Int32)), .val (.int (2 : Int32))] [(.int (4 : Int32)), (.int (4 : Int32)), (.ref u0)]))
  refine OEnds.pre (fun t k => XS.imul H2.here hx rfl (hb hby d1_11) rfl k) ?_
  show OEnds p e below s _ _ _ (T2.setTop (mkF m 12 #[.val (.ref u0), .val (.int (4 : Int32)), .val (.int (2 : Int32))] [(.int (16 : Int32)), (.ref u0)]))
  obtain ⟨T4, b3, H4, st4⟩ := OHere.newarray H2 hx hZ (cap := 16) (pc := 12) (Ls := #[.val (.ref u0), .val (.int (4 : Int32)), .val (.int (2 : Int32))]) (rest := [(.ref u0)]) (z := (16 : Int32)) (aty := .int) (hw _ (List.mem_of_getElem? (i := 13) rfl)) (hb hby d1_12) (by decide) (by decide) (by decide) (by decide) (by decide)
  replace H4 : OHere p l e _ s m _ below meth c Z n0 T4 1 16 [(eO u0 "com/example/orderly_slopes/orderlyslopes/layout/OrthogonalGraph" [("com/example/orderly_slopes/orderlyslopes/layout/OrthogonalGraph", "ports", "[I", .null), ("com/example/orderly_slopes/orderlyslopes/layout/OrthogonalGraph", "vertexCount", "I", (.int 0)), ("com/example/orderly_slopes/orderlyslopes/layout/OrthogonalGraph", "origins", "[I", .null), ("com/example/orderly_slopes/orderlyslopes/layout/OrthogonalGraph", "directions", "[B", .null), ("com/example/orderly_slopes/orderlyslopes/layout/OrthogonalGraph", "edgeCount", "I", (.int 0))]), (eA b3 .int [(.int 0), (.int 0), (.int 0), (.int 0), (.int 0), (.int 0), (.int 0), (.int 0), (.int 0), (.int 0), (.int 0), (.int 0), (.int 0), (.int 0), (.int 0), (.int 0)])] := H4
  refine OEnds.pre (fun t k => st4 _ k) ?_
  show OEnds p e below s _ _ _ (T4.setTop (mkF m 14 #[.val (.ref u0), .val (.int (4 : Int32)), .val (.int (2 : Int32))] [(.ref b3), (.ref u0)]))
  obtain ⟨T5, H5, st5⟩ := OHere.putfield H4 hx hZ (O := "com/example/orderly_slopes/orderlyslopes/layout/OrthogonalGraph") (q := 0) (f := 0) (v := (.ref b3)) (C := "com/example/orderly_slopes/orderlyslopes/layout/OrthogonalGraph") (ty := (.array .int)) (pc := 14) (Ls := #[.val (.ref u0), .val (.int (4 : Int32)), .val (.int (2 : Int32))]) (rest := []) hown (hw _ (List.mem_of_getElem? (i := 14) rfl)) Via.refl (fs := [("com/example/orderly_slopes/orderlyslopes/layout/OrthogonalGraph", "ports", "[I", .null), ("com/example/orderly_slopes/orderlyslopes/layout/OrthogonalGraph", "vertexCount", "I", (.int 0)), ("com/example/orderly_slopes/orderlyslopes/layout/OrthogonalGraph", "origins", "[I", .null), ("com/example/orderly_slopes/orderlyslopes/layout/OrthogonalGraph", "directions", "[B", .null), ("com/example/orderly_slopes/orderlyslopes/layout/OrthogonalGraph", "edgeCount", "I", (.int 0))]) rfl rfl (Or.inl (hw _ (List.mem_of_getElem? (i := 15) rfl))) (hw _ (List.mem_of_getElem? (i := 1) rfl)) (by decide) rfl rfl (hb hby d1_14)
  replace H5 : OHere p l e _ s m _ below meth c Z n0 T5 1 16 [(eO u0 "com/example/orderly_slopes/orderlyslopes/layout/OrthogonalGraph" [("com/example/orderly_slopes/orderlyslopes/layout/OrthogonalGraph", "ports", "[I", (.ref b3)), ("com/example/orderly_slopes/orderlyslopes/layout/OrthogonalGraph", "vertexCount", "I", (.int 0)), ("com/example/orderly_slopes/orderlyslopes/layout/OrthogonalGraph", "origins", "[I", .null), ("com/example/orderly_slopes/orderlyslopes/layout/OrthogonalGraph", "directions", "[B", .null), ("com/example/orderly_slopes/orderlyslopes/layout/OrthogonalGraph", "edgeCount", "I", (.int 0))]), (eA b3 .int [(.int 0), (.int 0), (.int 0), (.int 0), (.int 0), (.int 0), (.int 0), (.int 0), (.int 0), (.int 0), (.int 0), (.int 0), (.int 0), (.int 0), (.int 0), (.int 0)])] := H5
  refine OEnds.pre (fun t k => st5 _ k) ?_
  show OEnds p e below s _ _ _ (T5.setTop (mkF m 17 #[.val (.ref u0), .val (.int (4 : Int32)), .val (.int (2 : Int32))] []))
  refine OEnds.pre (fun t k => XS.aloadN H5.here hx rfl (hb hby d1_17) rfl rfl k) ?_
  show OEnds p e below s _ _ _ (T5.setTop (mkF m 18 #[.val (.ref u0), .val (.int (4 : Int32)), .val (.int (2 : Int32))] [(.ref u0)]))
  obtain ⟨T6, H6, st6⟩ := OHere.getfield H5 hx hZ (O := "com/example/orderly_slopes/orderlyslopes/layout/OrthogonalGraph") (q := 0) (f := 0) (v := (.ref b3)) (fs := [("com/example/orderly_slopes/orderlyslopes/layout/OrthogonalGraph", "ports", "[I", (.ref b3)), ("com/example/orderly_slopes/orderlyslopes/layout/OrthogonalGraph", "vertexCount", "I", (.int 0)), ("com/example/orderly_slopes/orderlyslopes/layout/OrthogonalGraph", "origins", "[I", .null), ("com/example/orderly_slopes/orderlyslopes/layout/OrthogonalGraph", "directions", "[B", .null), ("com/example/orderly_slopes/orderlyslopes/layout/OrthogonalGraph", "edgeCount", "I", (.int 0))]) (C := "com/example/orderly_slopes/orderlyslopes/layout/OrthogonalGraph") (pc := 18) (Ls := #[.val (.ref u0), .val (.int (4 : Int32)), .val (.int (2 : Int32))]) (rest := []) hown (hw _ (List.mem_of_getElem? (i := 14) rfl)) Via.refl rfl rfl (hb hby d1_18)
  replace H6 : OHere p l e _ s m _ below meth c Z n0 T6 1 16 [(eO u0 "com/example/orderly_slopes/orderlyslopes/layout/OrthogonalGraph" [("com/example/orderly_slopes/orderlyslopes/layout/OrthogonalGraph", "ports", "[I", (.ref b3)), ("com/example/orderly_slopes/orderlyslopes/layout/OrthogonalGraph", "vertexCount", "I", (.int 0)), ("com/example/orderly_slopes/orderlyslopes/layout/OrthogonalGraph", "origins", "[I", .null), ("com/example/orderly_slopes/orderlyslopes/layout/OrthogonalGraph", "directions", "[B", .null), ("com/example/orderly_slopes/orderlyslopes/layout/OrthogonalGraph", "edgeCount", "I", (.int 0))]), (eA b3 .int [(.int 0), (.int 0), (.int 0), (.int 0), (.int 0), (.int 0), (.int 0), (.int 0), (.int 0), (.int 0), (.int 0), (.int 0), (.int 0), (.int 0), (.int 0), (.int 0)])] := H6
  refine OEnds.pre (fun t k => st6 _ k) ?_
  show OEnds p e below s _ _ _ (T6.setTop (mkF m 21 #[.val (.ref u0), .val (.int (4 : Int32)), .val (.int (2 : Int32))] [(.ref b3)]))
  refine OEnds.pre (fun t k => XT.iconstV H6.here hx rfl (-1 : Int32) (hb hby d1_21) rfl k) ?_
  show OEnds p e below s _ _ _ (T6.setTop (mkF m 22 #[.val (.ref u0), .val (.int (4 : Int32)), .val (.int (2 : Int32))] [(.int (-1 : Int32)), (.ref b3)]))
  obtain ⟨T7, _, _, ⟨rfl, rfl⟩, H7, st7⟩ := OHere.static H6 hx hZ (y := (⟨"java/util/Arrays", "fill", "([II)V"⟩ : MethodName)) (P := _) (W := 0) hown (hw _ (List.mem_of_getElem? (i := 16) rfl)) (hw _ (List.mem_of_getElem? (i := 17) rfl)) (hw _ (List.mem_of_getElem? (i := 18) rfl)) (hw _ (List.mem_of_getElem? (i := 19) rfl)) (by decide) (con4 l Z a0 hw n0 [] b3 (-1 : Int32) [(eO u0 "com/example/orderly_slopes/orderlyslopes/layout/OrthogonalGraph" [("com/example/orderly_slopes/orderlyslopes/layout/OrthogonalGraph", "ports", "[I", (.ref b3)), ("com/example/orderly_slopes/orderlyslopes/layout/OrthogonalGraph", "vertexCount", "I", (.int 0)), ("com/example/orderly_slopes/orderlyslopes/layout/OrthogonalGraph", "origins", "[I", .null), ("com/example/orderly_slopes/orderlyslopes/layout/OrthogonalGraph", "directions", "[B", .null), ("com/example/orderly_slopes/orderlyslopes/layout/OrthogonalGraph", "edgeCount", "I", (.int 0))]), (eA b3 .int [(.int 0), (.int 0), (.int 0), (.int 0), (.int 0), (.int 0), (.int 0), (.int 0), (.int 0), (.int 0), (.int 0), (.int 0), (.int 0), (.int 0), (.int 0), (.int 0)])] 1 [(.int 0), (.int 0), (.int 0), (.int 0), (.int 0), (.int 0), (.int 0), (.int 0), (.int 0), (.int 0), (.int 0), (.int 0), (.int 0), (.int 0), (.int 0), (.int 0)] rfl (by decide)) (by decide) (by decide) (pc := 22) (Ls := #[.val (.ref u0), .val (.int (4 : Int32)), .val (.int (2 : Int32))]) (argsL := [(.ref b3), (.int (-1 : Int32))]) (rest := []) (by rw [hml]; rfl) (lenOf pd_oAIIcV rfl) rfl (Nat.le_of_eq rfl) (hb hby d1_22) (by decide) (by decide)
  replace H7 : OHere p l e _ s m _ below meth c Z n0 T7 1 16 [(eO u0 "com/example/orderly_slopes/orderlyslopes/layout/OrthogonalGraph" [("com/example/orderly_slopes/orderlyslopes/layout/OrthogonalGraph", "ports", "[I", (.ref b3)), ("com/example/orderly_slopes/orderlyslopes/layout/OrthogonalGraph", "vertexCount", "I", (.int 0)), ("com/example/orderly_slopes/orderlyslopes/layout/OrthogonalGraph", "origins", "[I", .null), ("com/example/orderly_slopes/orderlyslopes/layout/OrthogonalGraph", "directions", "[B", .null), ("com/example/orderly_slopes/orderlyslopes/layout/OrthogonalGraph", "edgeCount", "I", (.int 0))]), (eA b3 .int [(.int (-1 : Int32)), (.int (-1 : Int32)), (.int (-1 : Int32)), (.int (-1 : Int32)), (.int (-1 : Int32)), (.int (-1 : Int32)), (.int (-1 : Int32)), (.int (-1 : Int32)), (.int (-1 : Int32)), (.int (-1 : Int32)), (.int (-1 : Int32)), (.int (-1 : Int32)), (.int (-1 : Int32)), (.int (-1 : Int32)), (.int (-1 : Int32)), (.int (-1 : Int32))])] := H7
  refine OEnds.pre (fun t k => st7 _ k) ?_
  show OEnds p e below s _ _ _ (T7.setTop (mkF m 25 #[.val (.ref u0), .val (.int (4 : Int32)), .val (.int (2 : Int32))] []))
  refine OEnds.pre (fun t k => XS.aloadN H7.here hx rfl (hb hby d1_25) rfl rfl k) ?_
  show OEnds p e below s _ _ _ (T7.setTop (mkF m 26 #[.val (.ref u0), .val (.int (4 : Int32)), .val (.int (2 : Int32))] [(.ref u0)]))
  refine OEnds.pre (fun t k => XS.iloadN H7.here hx rfl (hb hby d1_26) rfl k) ?_
  show OEnds p e below s _ _ _ (T7.setTop (mkF m 27 #[.val (.ref u0), .val (.int (4 : Int32)), .val (.int (2 : Int32))] [(.int (4 : Int32)), (.ref u0)]))
  obtain ⟨T8, H8, st8⟩ := OHere.putfield H7 hx hZ (O := "com/example/orderly_slopes/orderlyslopes/layout/OrthogonalGraph") (q := 0) (f := 1) (v := (.int (4 : Int32))) (C := "com/example/orderly_slopes/orderlyslopes/layout/OrthogonalGraph") (ty := .int) (pc := 27) (Ls := #[.val (.ref u0), .val (.int (4 : Int32)), .val (.int (2 : Int32))]) (rest := []) hown (hw _ (List.mem_of_getElem? (i := 20) rfl)) Via.refl (fs := [("com/example/orderly_slopes/orderlyslopes/layout/OrthogonalGraph", "ports", "[I", (.ref b3)), ("com/example/orderly_slopes/orderlyslopes/layout/OrthogonalGraph", "vertexCount", "I", (.int 0)), ("com/example/orderly_slopes/orderlyslopes/layout/OrthogonalGraph", "origins", "[I", .null), ("com/example/orderly_slopes/orderlyslopes/layout/OrthogonalGraph", "directions", "[B", .null), ("com/example/orderly_slopes/orderlyslopes/layout/OrthogonalGraph", "edgeCount", "I", (.int 0))]) rfl rfl (Or.inl (hw _ (List.mem_of_getElem? (i := 21) rfl))) (hw _ (List.mem_of_getElem? (i := 1) rfl)) (by decide) rfl rfl (hb hby d1_27)
  replace H8 : OHere p l e _ s m _ below meth c Z n0 T8 1 16 [(eO u0 "com/example/orderly_slopes/orderlyslopes/layout/OrthogonalGraph" [("com/example/orderly_slopes/orderlyslopes/layout/OrthogonalGraph", "ports", "[I", (.ref b3)), ("com/example/orderly_slopes/orderlyslopes/layout/OrthogonalGraph", "vertexCount", "I", (.int (4 : Int32))), ("com/example/orderly_slopes/orderlyslopes/layout/OrthogonalGraph", "origins", "[I", .null), ("com/example/orderly_slopes/orderlyslopes/layout/OrthogonalGraph", "directions", "[B", .null), ("com/example/orderly_slopes/orderlyslopes/layout/OrthogonalGraph", "edgeCount", "I", (.int 0))]), (eA b3 .int [(.int (-1 : Int32)), (.int (-1 : Int32)), (.int (-1 : Int32)), (.int (-1 : Int32)), (.int (-1 : Int32)), (.int (-1 : Int32)), (.int (-1 : Int32)), (.int (-1 : Int32)), (.int (-1 : Int32)), (.int (-1 : Int32)), (.int (-1 : Int32)), (.int (-1 : Int32)), (.int (-1 : Int32)), (.int (-1 : Int32)), (.int (-1 : Int32)), (.int (-1 : Int32))])] := H8
  refine OEnds.pre (fun t k => st8 _ k) ?_
  show OEnds p e below s _ _ _ (T8.setTop (mkF m 30 #[.val (.ref u0), .val (.int (4 : Int32)), .val (.int (2 : Int32))] []))
  refine OEnds.pre (fun t k => XS.aloadN H8.here hx rfl (hb hby d1_30) rfl rfl k) ?_
  show OEnds p e below s _ _ _ (T8.setTop (mkF m 31 #[.val (.ref u0), .val (.int (4 : Int32)), .val (.int (2 : Int32))] [(.ref u0)]))
  refine OEnds.pre (fun t k => XT.iconstV H8.here hx rfl (2 : Int32) (hb hby d1_31) rfl k) ?_
  show OEnds p e below s _ _ _ (T8.setTop (mkF m 32 #[.val (.ref u0), .val (.int (4 : Int32)), .val (.int (2 : Int32))] [(.int (2 : Int32)), (.ref u0)]))
  refine OEnds.pre (fun t k => XS.iloadN H8.here hx rfl (hb hby d1_32) rfl k) ?_
  show OEnds p e below s _ _ _ (T8.setTop (mkF m 33 #[.val (.ref u0), .val (.int (4 : Int32)), .val (.int (2 : Int32))] [(.int (2 : Int32)), (.int (2 : Int32)), (.ref u0)]))
  refine OEnds.pre (fun t k => XT.iconstV H8.here hx rfl (1 : Int32) (hb hby d1_33) rfl k) ?_
  show OEnds p e below s _ _ _ (T8.setTop (mkF m 34 #[.val (.ref u0), .val (.int (4 : Int32)), .val (.int (2 : Int32))] [(.int (1 : Int32)), (.int (2 : Int32)), (.int (2 : Int32)), (.ref u0)]))
  obtain ⟨T9, _, _, ⟨rfl, rfl⟩, H9, st9⟩ := OHere.static H8 hx hZ (y := (⟨"java/lang/Math", "max", "(II)I"⟩ : MethodName)) (P := _) (W := 2) hown (hw _ (List.mem_of_getElem? (i := 9) rfl)) (hw _ (List.mem_of_getElem? (i := 10) rfl)) (hw _ (List.mem_of_getElem? (i := 11) rfl)) (hw _ (List.mem_of_getElem? (i := 12) rfl)) (by decide) (con3 l Z a0 hw n0 [] (2 : Int32) (1 : Int32) (2 : Int32) (by decide) _) (by decide) (by decide) (pc := 34) (Ls := #[.val (.ref u0), .val (.int (4 : Int32)), .val (.int (2 : Int32))]) (argsL := [(.int (2 : Int32)), (.int (1 : Int32))]) (rest := [(.int (2 : Int32)), (.ref u0)]) (by rw [hml]; rfl) (lenOf pd_oIIcI rfl) rfl (Nat.le_of_eq rfl) (hb hby d1_34) (by decide) (by decide)
  replace H9 : OHere p l e _ s m _ below meth c Z n0 T9 1 16 [(eO u0 "com/example/orderly_slopes/orderlyslopes/layout/OrthogonalGraph" [("com/example/orderly_slopes/orderlyslopes/layout/OrthogonalGraph", "ports", "[I", (.ref b3)), ("com/example/orderly_slopes/orderlyslopes/layout/OrthogonalGraph", "vertexCount", "I", (.int (4 : Int32))), ("com/example/orderly_slopes/orderlyslopes/layout/OrthogonalGraph", "origins", "[I", .null), ("com/example/orderly_slopes/orderlyslopes/layout/OrthogonalGraph", "directions", "[B", .null), ("com/example/orderly_slopes/orderlyslopes/layout/OrthogonalGraph", "edgeCount", "I", (.int 0))]), (eA b3 .int [(.int (-1 : Int32)), (.int (-1 : Int32)), (.int (-1 : Int32)), (.int (-1 : Int32)), (.int (-1 : Int32)), (.int (-1 : Int32)), (.int (-1 : Int32)), (.int (-1 : Int32)), (.int (-1 : Int32)), (.int (-1 : Int32)), (.int (-1 : Int32)), (.int (-1 : Int32)), (.int (-1 : Int32)), (.int (-1 : Int32)), (.int (-1 : Int32)), (.int (-1 : Int32))])] := H9
  refine OEnds.pre (fun t k => st9 _ k) ?_
  show OEnds p e below s _ _ _ (T9.setTop (mkF m 37 #[.val (.ref u0), .val (.int (4 : Int32)), .val (.int (2 : Int32))] [(.int (2 : Int32)), (.int (2 : Int32)), (.ref u0)]))
  refine OEnds.pre (fun t k => XS.imul H9.here hx rfl (hb hby d1_37) rfl k) ?_
  show OEnds p e below s _ _ _ (T9.setTop (mkF m 38 #[.val (.ref u0), .val (.int (4 : Int32)), .val (.int (2 : Int32))] [(.int (4 : Int32)), (.ref u0)]))
  obtain ⟨T11, b10, H11, st11⟩ := OHere.newarray H9 hx hZ (cap := 4) (pc := 38) (Ls := #[.val (.ref u0), .val (.int (4 : Int32)), .val (.int (2 : Int32))]) (rest := [(.ref u0)]) (z := (4 : Int32)) (aty := .int) (hw _ (List.mem_of_getElem? (i := 13) rfl)) (hb hby d1_38) (by decide) (by decide) (by decide) (by decide) (by decide)
  replace H11 : OHere p l e _ s m _ below meth c Z n0 T11 2 20 [(eO u0 "com/example/orderly_slopes/orderlyslopes/layout/OrthogonalGraph" [("com/example/orderly_slopes/orderlyslopes/layout/OrthogonalGraph", "ports", "[I", (.ref b3)), ("com/example/orderly_slopes/orderlyslopes/layout/OrthogonalGraph", "vertexCount", "I", (.int (4 : Int32))), ("com/example/orderly_slopes/orderlyslopes/layout/OrthogonalGraph", "origins", "[I", .null), ("com/example/orderly_slopes/orderlyslopes/layout/OrthogonalGraph", "directions", "[B", .null), ("com/example/orderly_slopes/orderlyslopes/layout/OrthogonalGraph", "edgeCount", "I", (.int 0))]), (eA b3 .int [(.int (-1 : Int32)), (.int (-1 : Int32)), (.int (-1 : Int32)), (.int (-1 : Int32)), (.int (-1 : Int32)), (.int (-1 : Int32)), (.int (-1 : Int32)), (.int (-1 : Int32)), (.int (-1 : Int32)), (.int (-1 : Int32)), (.int (-1 : Int32)), (.int (-1 : Int32)), (.int (-1 : Int32)), (.int (-1 : Int32)), (.int (-1 : Int32)), (.int (-1 : Int32))]), (eA b10 .int [(.int 0), (.int 0), (.int 0), (.int 0)])] := H11
  refine OEnds.pre (fun t k => st11 _ k) ?_
  show OEnds p e below s _ _ _ (T11.setTop (mkF m 40 #[.val (.ref u0), .val (.int (4 : Int32)), .val (.int (2 : Int32))] [(.ref b10), (.ref u0)]))
  obtain ⟨T12, H12, st12⟩ := OHere.putfield H11 hx hZ (O := "com/example/orderly_slopes/orderlyslopes/layout/OrthogonalGraph") (q := 0) (f := 2) (v := (.ref b10)) (C := "com/example/orderly_slopes/orderlyslopes/layout/OrthogonalGraph") (ty := (.array .int)) (pc := 40) (Ls := #[.val (.ref u0), .val (.int (4 : Int32)), .val (.int (2 : Int32))]) (rest := []) hown (hw _ (List.mem_of_getElem? (i := 22) rfl)) Via.refl (fs := [("com/example/orderly_slopes/orderlyslopes/layout/OrthogonalGraph", "ports", "[I", (.ref b3)), ("com/example/orderly_slopes/orderlyslopes/layout/OrthogonalGraph", "vertexCount", "I", (.int (4 : Int32))), ("com/example/orderly_slopes/orderlyslopes/layout/OrthogonalGraph", "origins", "[I", .null), ("com/example/orderly_slopes/orderlyslopes/layout/OrthogonalGraph", "directions", "[B", .null), ("com/example/orderly_slopes/orderlyslopes/layout/OrthogonalGraph", "edgeCount", "I", (.int 0))]) rfl rfl (Or.inl (hw _ (List.mem_of_getElem? (i := 23) rfl))) (hw _ (List.mem_of_getElem? (i := 1) rfl)) (by decide) rfl rfl (hb hby d1_40)
  replace H12 : OHere p l e _ s m _ below meth c Z n0 T12 2 20 [(eO u0 "com/example/orderly_slopes/orderlyslopes/layout/OrthogonalGraph" [("com/example/orderly_slopes/orderlyslopes/layout/OrthogonalGraph", "ports", "[I", (.ref b3)), ("com/example/orderly_slopes/orderlyslopes/layout/OrthogonalGraph", "vertexCount", "I", (.int (4 : Int32))), ("com/example/orderly_slopes/orderlyslopes/layout/OrthogonalGraph", "origins", "[I", (.ref b10)), ("com/example/orderly_slopes/orderlyslopes/layout/OrthogonalGraph", "directions", "[B", .null), ("com/example/orderly_slopes/orderlyslopes/layout/OrthogonalGraph", "edgeCount", "I", (.int 0))]), (eA b3 .int [(.int (-1 : Int32)), (.int (-1 : Int32)), (.int (-1 : Int32)), (.int (-1 : Int32)), (.int (-1 : Int32)), (.int (-1 : Int32)), (.int (-1 : Int32)), (.int (-1 : Int32)), (.int (-1 : Int32)), (.int (-1 : Int32)), (.int (-1 : Int32)), (.int (-1 : Int32)), (.int (-1 : Int32)), (.int (-1 : Int32)), (.int (-1 : Int32)), (.int (-1 : Int32))]), (eA b10 .int [(.int 0), (.int 0), (.int 0), (.int 0)])] := H12
  refine OEnds.pre (fun t k => st12 _ k) ?_
  show OEnds p e below s _ _ _ (T12.setTop (mkF m 43 #[.val (.ref u0), .val (.int (4 : Int32)), .val (.int (2 : Int32))] []))
  refine OEnds.pre (fun t k => XS.aloadN H12.here hx rfl (hb hby d1_43) rfl rfl k) ?_
  show OEnds p e below s _ _ _ (T12.setTop (mkF m 44 #[.val (.ref u0), .val (.int (4 : Int32)), .val (.int (2 : Int32))] [(.ref u0)]))
  refine OEnds.pre (fun t k => XS.aloadN H12.here hx rfl (hb hby d1_44) rfl rfl k) ?_
  show OEnds p e below s _ _ _ (T12.setTop (mkF m 45 #[.val (.ref u0), .val (.int (4 : Int32)), .val (.int (2 : Int32))] [(.ref u0), (.ref u0)]))
  obtain ⟨T13, H13, st13⟩ := OHere.getfield H12 hx hZ (O := "com/example/orderly_slopes/orderlyslopes/layout/OrthogonalGraph") (q := 0) (f := 2) (v := (.ref b10)) (fs := [("com/example/orderly_slopes/orderlyslopes/layout/OrthogonalGraph", "ports", "[I", (.ref b3)), ("com/example/orderly_slopes/orderlyslopes/layout/OrthogonalGraph", "vertexCount", "I", (.int (4 : Int32))), ("com/example/orderly_slopes/orderlyslopes/layout/OrthogonalGraph", "origins", "[I", (.ref b10)), ("com/example/orderly_slopes/orderlyslopes/layout/OrthogonalGraph", "directions", "[B", .null), ("com/example/orderly_slopes/orderlyslopes/layout/OrthogonalGraph", "edgeCount", "I", (.int 0))]) (C := "com/example/orderly_slopes/orderlyslopes/layout/OrthogonalGraph") (pc := 45) (Ls := #[.val (.ref u0), .val (.int (4 : Int32)), .val (.int (2 : Int32))]) (rest := [(.ref u0)]) hown (hw _ (List.mem_of_getElem? (i := 22) rfl)) Via.refl rfl rfl (hb hby d1_45)
  replace H13 : OHere p l e _ s m _ below meth c Z n0 T13 2 20 [(eO u0 "com/example/orderly_slopes/orderlyslopes/layout/OrthogonalGraph" [("com/example/orderly_slopes/orderlyslopes/layout/OrthogonalGraph", "ports", "[I", (.ref b3)), ("com/example/orderly_slopes/orderlyslopes/layout/OrthogonalGraph", "vertexCount", "I", (.int (4 : Int32))), ("com/example/orderly_slopes/orderlyslopes/layout/OrthogonalGraph", "origins", "[I", (.ref b10)), ("com/example/orderly_slopes/orderlyslopes/layout/OrthogonalGraph", "directions", "[B", .null), ("com/example/orderly_slopes/orderlyslopes/layout/OrthogonalGraph", "edgeCount", "I", (.int 0))]), (eA b3 .int [(.int (-1 : Int32)), (.int (-1 : Int32)), (.int (-1 : Int32)), (.int (-1 : Int32)), (.int (-1 : Int32)), (.int (-1 : Int32)), (.int (-1 : Int32)), (.int (-1 : Int32)), (.int (-1 : Int32)), (.int (-1 : Int32)), (.int (-1 : Int32)), (.int (-1 : Int32)), (.int (-1 : Int32)), (.int (-1 : Int32)), (.int (-1 : Int32)), (.int (-1 : Int32))]), (eA b10 .int [(.int 0), (.int 0), (.int 0), (.int 0)])] := H13
  refine OEnds.pre (fun t k => st13 _ k) ?_
  show OEnds p e below s _ _ _ (T13.setTop (mkF m 48 #[.val (.ref u0), .val (.int (4 : Int32)), .val (.int (2 : Int32))] [(.ref b10), (.ref u0)]))
  refine OEnds.pre (fun t k => OHere.len H13 hx hZ (q := 2) (vs := [(.int 0), (.int 0), (.int 0), (.int 0)]) (z := (4 : Int32)) rfl rfl (hb hby d1_48) k) ?_
  show OEnds p e below s _ _ _ (T13.setTop (mkF m 49 #[.val (.ref u0), .val (.int (4 : Int32)), .val (.int (2 : Int32))] [(.int (4 : Int32)), (.ref u0)]))
  obtain ⟨T15, b14, H15, st15⟩ := OHere.newarray H13 hx hZ (cap := 4) (pc := 49) (Ls := #[.val (.ref u0), .val (.int (4 : Int32)), .val (.int (2 : Int32))]) (rest := [(.ref u0)]) (z := (4 : Int32)) (aty := .byte) (hw _ (List.mem_of_getElem? (i := 24) rfl)) (hb hby d1_49) (by decide) (by decide) (by decide) (by decide) (by decide)
  replace H15 : OHere p l e _ s m _ below meth c Z n0 T15 3 24 [(eO u0 "com/example/orderly_slopes/orderlyslopes/layout/OrthogonalGraph" [("com/example/orderly_slopes/orderlyslopes/layout/OrthogonalGraph", "ports", "[I", (.ref b3)), ("com/example/orderly_slopes/orderlyslopes/layout/OrthogonalGraph", "vertexCount", "I", (.int (4 : Int32))), ("com/example/orderly_slopes/orderlyslopes/layout/OrthogonalGraph", "origins", "[I", (.ref b10)), ("com/example/orderly_slopes/orderlyslopes/layout/OrthogonalGraph", "directions", "[B", .null), ("com/example/orderly_slopes/orderlyslopes/layout/OrthogonalGraph", "edgeCount", "I", (.int 0))]), (eA b3 .int [(.int (-1 : Int32)), (.int (-1 : Int32)), (.int (-1 : Int32)), (.int (-1 : Int32)), (.int (-1 : Int32)), (.int (-1 : Int32)), (.int (-1 : Int32)), (.int (-1 : Int32)), (.int (-1 : Int32)), (.int (-1 : Int32)), (.int (-1 : Int32)), (.int (-1 : Int32)), (.int (-1 : Int32)), (.int (-1 : Int32)), (.int (-1 : Int32)), (.int (-1 : Int32))]), (eA b10 .int [(.int 0), (.int 0), (.int 0), (.int 0)]), (eA b14 .byte [(.int 0), (.int 0), (.int 0), (.int 0)])] := H15
  refine OEnds.pre (fun t k => st15 _ k) ?_
  show OEnds p e below s _ _ _ (T15.setTop (mkF m 51 #[.val (.ref u0), .val (.int (4 : Int32)), .val (.int (2 : Int32))] [(.ref b14), (.ref u0)]))
  obtain ⟨T16, H16, st16⟩ := OHere.putfield H15 hx hZ (O := "com/example/orderly_slopes/orderlyslopes/layout/OrthogonalGraph") (q := 0) (f := 3) (v := (.ref b14)) (C := "com/example/orderly_slopes/orderlyslopes/layout/OrthogonalGraph") (ty := (.array .byte)) (pc := 51) (Ls := #[.val (.ref u0), .val (.int (4 : Int32)), .val (.int (2 : Int32))]) (rest := []) hown (hw _ (List.mem_of_getElem? (i := 25) rfl)) Via.refl (fs := [("com/example/orderly_slopes/orderlyslopes/layout/OrthogonalGraph", "ports", "[I", (.ref b3)), ("com/example/orderly_slopes/orderlyslopes/layout/OrthogonalGraph", "vertexCount", "I", (.int (4 : Int32))), ("com/example/orderly_slopes/orderlyslopes/layout/OrthogonalGraph", "origins", "[I", (.ref b10)), ("com/example/orderly_slopes/orderlyslopes/layout/OrthogonalGraph", "directions", "[B", .null), ("com/example/orderly_slopes/orderlyslopes/layout/OrthogonalGraph", "edgeCount", "I", (.int 0))]) rfl rfl (Or.inl (hw _ (List.mem_of_getElem? (i := 26) rfl))) (hw _ (List.mem_of_getElem? (i := 1) rfl)) (by decide) rfl rfl (hb hby d1_51)
  replace H16 : OHere p l e _ s m _ below meth c Z n0 T16 3 24 [(eO u0 "com/example/orderly_slopes/orderlyslopes/layout/OrthogonalGraph" [("com/example/orderly_slopes/orderlyslopes/layout/OrthogonalGraph", "ports", "[I", (.ref b3)), ("com/example/orderly_slopes/orderlyslopes/layout/OrthogonalGraph", "vertexCount", "I", (.int (4 : Int32))), ("com/example/orderly_slopes/orderlyslopes/layout/OrthogonalGraph", "origins", "[I", (.ref b10)), ("com/example/orderly_slopes/orderlyslopes/layout/OrthogonalGraph", "directions", "[B", (.ref b14)), ("com/example/orderly_slopes/orderlyslopes/layout/OrthogonalGraph", "edgeCount", "I", (.int 0))]), (eA b3 .int [(.int (-1 : Int32)), (.int (-1 : Int32)), (.int (-1 : Int32)), (.int (-1 : Int32)), (.int (-1 : Int32)), (.int (-1 : Int32)), (.int (-1 : Int32)), (.int (-1 : Int32)), (.int (-1 : Int32)), (.int (-1 : Int32)), (.int (-1 : Int32)), (.int (-1 : Int32)), (.int (-1 : Int32)), (.int (-1 : Int32)), (.int (-1 : Int32)), (.int (-1 : Int32))]), (eA b10 .int [(.int 0), (.int 0), (.int 0), (.int 0)]), (eA b14 .byte [(.int 0), (.int 0), (.int 0), (.int 0)])] := H16
  refine OEnds.pre (fun t k => st16 _ k) ?_
  show OEnds p e below s _ _ _ (T16.setTop (mkF m 54 #[.val (.ref u0), .val (.int (4 : Int32)), .val (.int (2 : Int32))] []))
  exact H16.ret hx Bd.notSynchronized Bd.returns (hb hby d1_54) (by decide) (by decide) (fun h L W N => ⟨N, _, ⟨b3, b10, b14, rfl, rfl⟩, W⟩)
theorem d6_0 : decode prog_33_method_4_code 0 = .ok (.iconst 2, 1) := by decide +kernel
theorem d6_1 : decode prog_33_method_4_code 1 = .ok (.aload_n 0, 1) := by decide +kernel
theorem d6_2 : decode prog_33_method_4_code 2 = .ok (.getfield 36, 3) := by decide +kernel
theorem d6_5 : decode prog_33_method_4_code 5 = .ok (.imul, 1) := by decide +kernel
theorem d6_6 : decode prog_33_method_4_code 6 = .ok (.ireturn, 1) := by decide +kernel
theorem pn_6 : plainFor (⟨"com/example/orderly_slopes/orderlyslopes/layout/OrthogonalGraph", "dartCount", "()I"⟩ : MethodName) = true := by first | exact plainFor_of_name (by first | (simp [plainName, overriddenIn]; done) | decide +kernel) | decide +kernel
theorem ef_6 (m : MethodId) (x0 : Addr) : entryFrame m #[(.ref x0)] 1 = mkF m 0 #[.val (.ref x0)] [] := by first | (simp [entryFrame, mkF, argsToLocals, Value.category]; done) | rfl
set_option maxRecDepth 65536 in
set_option maxHeartbeats 40000000 in
theorem con6 (l : Launch) (Z : State) (a0 : Array Value) (hw : ∀ d ∈ tables_1, d.before a0 Z = true) (n0 : Nat) (ws : List Jvm.Cond) (u0 : Addr) (bp bo bd : Addr) (cnt : Int32) (P O D : List Value) :
    OCon l Z n0 (⟨"com/example/orderly_slopes/orderlyslopes/layout/OrthogonalGraph", "dartCount", "()I"⟩ : MethodName) prog_33_method_4_code 1 (some .int) ws ({ frames := 0, cells := 0, slots := 0, locals := 0 } : Room) #[(.ref u0)] [(eO u0 "com/example/orderly_slopes/orderlyslopes/layout/OrthogonalGraph" [("com/example/orderly_slopes/orderlyslopes/layout/OrthogonalGraph", "ports", "[I", (.ref bp)), ("com/example/orderly_slopes/orderlyslopes/layout/OrthogonalGraph", "vertexCount", "I", (.int (4 : Int32))), ("com/example/orderly_slopes/orderlyslopes/layout/OrthogonalGraph", "origins", "[I", (.ref bo)), ("com/example/orderly_slopes/orderlyslopes/layout/OrthogonalGraph", "directions", "[B", (.ref bd)), ("com/example/orderly_slopes/orderlyslopes/layout/OrthogonalGraph", "edgeCount", "I", (.int cnt))]), (eA bp .int P), (eA bo .int O), (eA bd .byte D)] (fun v' es' => v' = some (.int ((2 : Int32) * cnt)) ∧ es' = [(eO u0 "com/example/orderly_slopes/orderlyslopes/layout/OrthogonalGraph" [("com/example/orderly_slopes/orderlyslopes/layout/OrthogonalGraph", "ports", "[I", (.ref bp)), ("com/example/orderly_slopes/orderlyslopes/layout/OrthogonalGraph", "vertexCount", "I", (.int (4 : Int32))), ("com/example/orderly_slopes/orderlyslopes/layout/OrthogonalGraph", "origins", "[I", (.ref bo)), ("com/example/orderly_slopes/orderlyslopes/layout/OrthogonalGraph", "directions", "[B", (.ref bd)), ("com/example/orderly_slopes/orderlyslopes/layout/OrthogonalGraph", "edgeCount", "I", (.int cnt))]), (eA bp .int P), (eA bo .int O), (eA bd .byte D)]) := by
  intro h0 hW0
  refine MetFree.of_bodySF pn_6 hisR ?_
  intro p e s m args below meth c s₁ Bd hml0 hP hK
  obtain ⟨rfl, hZ, hh⟩ := hP
  have hx := Bd.exec
  have hby := Bd.bytes
  have hml : c.maxLocals = 1 := hml0
  have hown : s.vm.findClass "com/example/orderly_slopes/orderlyslopes/layout/OrthogonalGraph" = some m.cls := findClass_of_methodNamed Bd.named
  have hnm := (name_of_methodNamed Bd.named Bd.method).1
  have H0 : OHere p l e ({ frames := 0, cells := 0, slots := 0, locals := 0 } : Room) s m #[(.ref u0)] below meth c Z n0 s₁ 0 0 [(eO u0 "com/example/orderly_slopes/orderlyslopes/layout/OrthogonalGraph" [("com/example/orderly_slopes/orderlyslopes/layout/OrthogonalGraph", "ports", "[I", (.ref bp)), ("com/example/orderly_slopes/orderlyslopes/layout/OrthogonalGraph", "vertexCount", "I", (.int (4 : Int32))), ("com/example/orderly_slopes/orderlyslopes/layout/OrthogonalGraph", "origins", "[I", (.ref bo)), ("com/example/orderly_slopes/orderlyslopes/layout/OrthogonalGraph", "directions", "[B", (.ref bd)), ("com/example/orderly_slopes/orderlyslopes/layout/OrthogonalGraph", "edgeCount", "I", (.int cnt))]), (eA bp .int P), (eA bo .int O), (eA bd .byte D)] := ⟨[], Stand.of_body Bd, by rw [show s₁.heap = h0 from by rw [← hh, Bd.state]; rfl]; exact hW0, Fr.nil _⟩
  show OEnds p e below s _ _ (fun v' h' L => Fr n0 L ∧ ∃ es', (fun v' es' => v' = some (.int ((2 : Int32) * cnt)) ∧ es' = [(eO u0 "com/example/orderly_slopes/orderlyslopes/layout/OrthogonalGraph" [("com/example/orderly_slopes/orderlyslopes/layout/OrthogonalGraph", "ports", "[I", (.ref bp)), ("com/example/orderly_slopes/orderlyslopes/layout/OrthogonalGraph", "vertexCount", "I", (.int (4 : Int32))), ("com/example/orderly_slopes/orderlyslopes/layout/OrthogonalGraph", "origins", "[I", (.ref bo)), ("com/example/orderly_slopes/orderlyslopes/layout/OrthogonalGraph", "directions", "[B", (.ref bd)), ("com/example/orderly_slopes/orderlyslopes/layout/OrthogonalGraph", "edgeCount", "I", (.int cnt))]), (eA bp .int P), (eA bo .int O), (eA bd .byte D)]) v' es' ∧ OWorld Z n0 h' es') _
  refine OEnds.pre (fun t k => castTop (ef_6 m u0) k) ?_
  show OEnds p e below s _ _ _ (s₁.setTop (mkF m 0 #[.val (.ref u0)] []))
  refine OEnds.pre (fun t k => XT.iconstV H0.here hx rfl (2 : Int32) (hb hby d6_0) rfl k) ?_
  show OEnds p e below s _ _ _ (s₁.setTop (mkF m 1 #[.val (.ref u0)] [(.int (2 : Int32))]))
  refine OEnds.pre (fun t k => XS.aloadN H0.here hx rfl (hb hby d6_1) rfl rfl k) ?_
  show OEnds p e below s _ _ _ (s₁.setTop (mkF m 2 #[.val (.ref u0)] [(.ref u0), (.int (2 : Int32))]))
  obtain ⟨T1, H1, st1⟩ := OHere.getfield H0 hx hZ (O := "com/example/orderly_slopes/orderlyslopes/layout/OrthogonalGraph") (q := 0) (f := 4) (v := (.int cnt)) (fs := [("com/example/orderly_slopes/orderlyslopes/layout/OrthogonalGraph", "ports", "[I", (.ref bp)), ("com/example/orderly_slopes/orderlyslopes/layout/OrthogonalGraph", "vertexCount", "I", (.int (4 : Int32))), ("com/example/orderly_slopes/orderlyslopes/layout/OrthogonalGraph", "origins", "[I", (.ref bo)), ("com/example/orderly_slopes/orderlyslopes/layout/OrthogonalGraph", "directions", "[B", (.ref bd)), ("com/example/orderly_slopes/orderlyslopes/layout/OrthogonalGraph", "edgeCount", "I", (.int cnt))]) (C := "com/example/orderly_slopes/orderlyslopes/layout/OrthogonalGraph") (pc := 2) (Ls := #[.val (.ref u0)]) (rest := [(.int (2 : Int32))]) hown (hw _ (List.mem_of_getElem? (i := 37) rfl)) Via.refl rfl rfl (hb hby d6_2)
  replace H1 : OHere p l e _ s m _ below meth c Z n0 T1 0 0 [(eO u0 "com/example/orderly_slopes/orderlyslopes/layout/OrthogonalGraph" [("com/example/orderly_slopes/orderlyslopes/layout/OrthogonalGraph", "ports", "[I", (.ref bp)), ("com/example/orderly_slopes/orderlyslopes/layout/OrthogonalGraph", "vertexCount", "I", (.int (4 : Int32))), ("com/example/orderly_slopes/orderlyslopes/layout/OrthogonalGraph", "origins", "[I", (.ref bo)), ("com/example/orderly_slopes/orderlyslopes/layout/OrthogonalGraph", "directions", "[B", (.ref bd)), ("com/example/orderly_slopes/orderlyslopes/layout/OrthogonalGraph", "edgeCount", "I", (.int cnt))]), (eA bp .int P), (eA bo .int O), (eA bd .byte D)] := H1
  refine OEnds.pre (fun t k => st1 _ k) ?_
  show OEnds p e below s _ _ _ (T1.setTop (mkF m 5 #[.val (.ref u0)] [(.int cnt), (.int (2 : Int32))]))
  refine OEnds.pre (fun t k => XS.imul H1.here hx rfl (hb hby d6_5) rfl k) ?_
  show OEnds p e below s _ _ _ (T1.setTop (mkF m 6 #[.val (.ref u0)] [(.int ((2 : Int32) * cnt))]))
  exact H1.int hx Bd.notSynchronized Bd.returns (hb hby d6_6) (by decide) (by decide) (fun h L W N => ⟨N, _, ⟨rfl, rfl⟩, W⟩)
theorem d7_0 : decode prog_33_method_15_code 0 = .ok (.aload_n 0, 1) := by decide +kernel
theorem d7_1 : decode prog_33_method_15_code 1 = .ok (.getfield 13, 3) := by decide +kernel
theorem d7_4 : decode prog_33_method_15_code 4 = .ok (.iconst 4, 1) := by decide +kernel
theorem d7_5 : decode prog_33_method_15_code 5 = .ok (.iload_n 2, 1) := by decide +kernel
theorem d7_6 : decode prog_33_method_15_code 6 = .ok (.imul, 1) := by decide +kernel
theorem d7_7 : decode prog_33_method_15_code 7 = .ok (.iload_n 3, 1) := by decide +kernel
theorem d7_8 : decode prog_33_method_15_code 8 = .ok (.iadd, 1) := by decide +kernel
theorem d7_9 : decode prog_33_method_15_code 9 = .ok (.iaload, 1) := by decide +kernel
theorem d7_10 : decode prog_33_method_15_code 10 = .ok (.ifCond .lt 18, 3) := by decide +kernel
theorem d7_28 : decode prog_33_method_15_code 28 = .ok (.aload_n 0, 1) := by decide +kernel
theorem d7_29 : decode prog_33_method_15_code 29 = .ok (.getfield 29, 3) := by decide +kernel
theorem d7_32 : decode prog_33_method_15_code 32 = .ok (.iload_n 1, 1) := by decide +kernel
theorem d7_33 : decode prog_33_method_15_code 33 = .ok (.iload_n 2, 1) := by decide +kernel
theorem d7_34 : decode prog_33_method_15_code 34 = .ok (.iastore, 1) := by decide +kernel
theorem d7_35 : decode prog_33_method_15_code 35 = .ok (.aload_n 0, 1) := by decide +kernel
theorem d7_36 : decode prog_33_method_15_code 36 = .ok (.getfield 32, 3) := by decide +kernel
theorem d7_39 : decode prog_33_method_15_code 39 = .ok (.iload_n 1, 1) := by decide +kernel
theorem d7_40 : decode prog_33_method_15_code 40 = .ok (.iload_n 3, 1) := by decide +kernel
theorem d7_41 : decode prog_33_method_15_code 41 = .ok (.i2b, 1) := by decide +kernel
theorem d7_42 : decode prog_33_method_15_code 42 = .ok (.bastore, 1) := by decide +kernel
theorem d7_43 : decode prog_33_method_15_code 43 = .ok (.aload_n 0, 1) := by decide +kernel
theorem d7_44 : decode prog_33_method_15_code 44 = .ok (.getfield 13, 3) := by decide +kernel
theorem d7_47 : decode prog_33_method_15_code 47 = .ok (.iconst 4, 1) := by decide +kernel
theorem d7_48 : decode prog_33_method_15_code 48 = .ok (.iload_n 2, 1) := by decide +kernel
theorem d7_49 : decode prog_33_method_15_code 49 = .ok (.imul, 1) := by decide +kernel
theorem d7_50 : decode prog_33_method_15_code 50 = .ok (.iload_n 3, 1) := by decide +kernel
theorem d7_51 : decode prog_33_method_15_code 51 = .ok (.iadd, 1) := by decide +kernel
theorem d7_52 : decode prog_33_method_15_code 52 = .ok (.iload_n 1, 1) := by decide +kernel
theorem d7_53 : decode prog_33_method_15_code 53 = .ok (.iastore, 1) := by decide +kernel
theorem d7_54 : decode prog_33_method_15_code 54 = .ok (.return_, 1) := by decide +kernel
theorem pn_7 : plainFor (⟨"com/example/orderly_slopes/orderlyslopes/layout/OrthogonalGraph", "place", "(III)V"⟩ : MethodName) = true := by first | exact plainFor_of_name (by first | (simp [plainName, overriddenIn]; done) | decide +kernel) | decide +kernel
theorem ef_7 (m : MethodId) (x0 : Addr) (x1 : Int32) (x2 : Int32) (x3 : Int32) : entryFrame m #[(.ref x0), (.int x1), (.int x2), (.int x3)] 4 = mkF m 0 #[.val (.ref x0), .val (.int x1), .val (.int x2), .val (.int x3)] [] := by first | (simp [entryFrame, mkF, argsToLocals, Value.category]; done) | rfl
set_option maxRecDepth 65536 in
set_option maxHeartbeats 40000000 in
theorem con7 (l : Launch) (Z : State) (a0 : Array Value) (hw : ∀ d ∈ tables_1, d.before a0 Z = true) (n0 : Nat) (ws : List Jvm.Cond) (u0 : Addr) (u1 : Int32) (u2 : Int32) (u3 : Int32) (bp bo bd : Addr) (cnt : Int32) (P O D : List Value) (i kd : Nat) (hj : ¬ (((4 : Int32) * u2) + u3) < 0) (hi : (((4 : Int32) * u2) + u3).toNatClampNeg = i) (hv : P[i]? = some (.int (-1))) (hk : ¬ u1 < 0) (hkd : u1.toNatClampNeg = kd) (ho : kd < O.length) (hd : kd < D.length) :
    OCon l Z n0 (⟨"com/example/orderly_slopes/orderlyslopes/layout/OrthogonalGraph", "place", "(III)V"⟩ : MethodName) prog_33_method_15_code 4 none ws ({ frames := 0, cells := 0, slots := 0, locals := 0 } : Room) #[(.ref u0), (.int u1), (.int u2), (.int u3)] [(eO u0 "com/example/orderly_slopes/orderlyslopes/layout/OrthogonalGraph" [("com/example/orderly_slopes/orderlyslopes/layout/OrthogonalGraph", "ports", "[I", (.ref bp)), ("com/example/orderly_slopes/orderlyslopes/layout/OrthogonalGraph", "vertexCount", "I", (.int (4 : Int32))), ("com/example/orderly_slopes/orderlyslopes/layout/OrthogonalGraph", "origins", "[I", (.ref bo)), ("com/example/orderly_slopes/orderlyslopes/layout/OrthogonalGraph", "directions", "[B", (.ref bd)), ("com/example/orderly_slopes/orderlyslopes/layout/OrthogonalGraph", "edgeCount", "I", (.int cnt))]), (eA bp .int P), (eA bo .int O), (eA bd .byte D)] (fun v' es' => v' = none ∧ es' = [(eO u0 "com/example/orderly_slopes/orderlyslopes/layout/OrthogonalGraph" [("com/example/orderly_slopes/orderlyslopes/layout/OrthogonalGraph", "ports", "[I", (.ref bp)), ("com/example/orderly_slopes/orderlyslopes/layout/OrthogonalGraph", "vertexCount", "I", (.int (4 : Int32))), ("com/example/orderly_slopes/orderlyslopes/layout/OrthogonalGraph", "origins", "[I", (.ref bo)), ("com/example/orderly_slopes/orderlyslopes/layout/OrthogonalGraph", "directions", "[B", (.ref bd)), ("com/example/orderly_slopes/orderlyslopes/layout/OrthogonalGraph", "edgeCount", "I", (.int cnt))]), (eA bp .int (P.set i (.int u1))), (eA bo .int (O.set kd (.int u2))), (eA bd .byte (D.set kd (.int (nar .byte (nar .byte u3)))))]) := by
  intro h0 hW0
  refine MetFree.of_bodySF pn_7 hisR ?_
  intro p e s m args below meth c s₁ Bd hml0 hP hK
  obtain ⟨rfl, hZ, hh⟩ := hP
  have hx := Bd.exec
  have hby := Bd.bytes
  have hml : c.maxLocals = 4 := hml0
  have hown : s.vm.findClass "com/example/orderly_slopes/orderlyslopes/layout/OrthogonalGraph" = some m.cls := findClass_of_methodNamed Bd.named
  have hnm := (name_of_methodNamed Bd.named Bd.method).1
  have H0 : OHere p l e ({ frames := 0, cells := 0, slots := 0, locals := 0 } : Room) s m #[(.ref u0), (.int u1), (.int u2), (.int u3)] below meth c Z n0 s₁ 0 0 [(eO u0 "com/example/orderly_slopes/orderlyslopes/layout/OrthogonalGraph" [("com/example/orderly_slopes/orderlyslopes/layout/OrthogonalGraph", "ports", "[I", (.ref bp)), ("com/example/orderly_slopes/orderlyslopes/layout/OrthogonalGraph", "vertexCount", "I", (.int (4 : Int32))), ("com/example/orderly_slopes/orderlyslopes/layout/OrthogonalGraph", "origins", "[I", (.ref bo)), ("com/example/orderly_slopes/orderlyslopes/layout/OrthogonalGraph", "directions", "[B", (.ref bd)), ("com/example/orderly_slopes/orderlyslopes/layout/OrthogonalGraph", "edgeCount", "I", (.int cnt))]), (eA bp .int P), (eA bo .int O), (eA bd .byte D)] := ⟨[], Stand.of_body Bd, by rw [show s₁.heap = h0 from by rw [← hh, Bd.state]; rfl]; exact hW0, Fr.nil _⟩
  show OEnds p e below s _ _ (fun v' h' L => Fr n0 L ∧ ∃ es', (fun v' es' => v' = none ∧ es' = [(eO u0 "com/example/orderly_slopes/orderlyslopes/layout/OrthogonalGraph" [("com/example/orderly_slopes/orderlyslopes/layout/OrthogonalGraph", "ports", "[I", (.ref bp)), ("com/example/orderly_slopes/orderlyslopes/layout/OrthogonalGraph", "vertexCount", "I", (.int (4 : Int32))), ("com/example/orderly_slopes/orderlyslopes/layout/OrthogonalGraph", "origins", "[I", (.ref bo)), ("com/example/orderly_slopes/orderlyslopes/layout/OrthogonalGraph", "directions", "[B", (.ref bd)), ("com/example/orderly_slopes/orderlyslopes/layout/OrthogonalGraph", "edgeCount", "I", (.int cnt))]), (eA bp .int (P.set i (.int u1))), (eA bo .int (O.set kd (.int u2))), (eA bd .byte (D.set kd (.int (nar .byte (nar .byte u3)))))]) v' es' ∧ OWorld Z n0 h' es') _
  refine OEnds.pre (fun t k => castTop (ef_7 m u0 u1 u2 u3) k) ?_
  show OEnds p e below s _ _ _ (s₁.setTop (mkF m 0 #[.val (.ref u0), .val (.int u1), .val (.int u2), .val (.int u3)] []))
  refine OEnds.pre (fun t k => XS.aloadN H0.here hx rfl (hb hby d7_0) rfl rfl k) ?_
  show OEnds p e below s _ _ _ (s₁.setTop (mkF m 1 #[.val (.ref u0), .val (.int u1), .val (.int u2), .val (.int u3)] [(.ref u0)]))
  obtain ⟨T1, H1, st1⟩ := OHere.getfield H0 hx hZ (O := "com/example/orderly_slopes/orderlyslopes/layout/OrthogonalGraph") (q := 0) (f := 0) (v := (.ref bp)) (fs := [("com/example/orderly_slopes/orderlyslopes/layout/OrthogonalGraph", "ports", "[I", (.ref bp)), ("com/example/orderly_slopes/orderlyslopes/layout/OrthogonalGraph", "vertexCount", "I", (.int (4 : Int32))), ("com/example/orderly_slopes/orderlyslopes/layout/OrthogonalGraph", "origins", "[I", (.ref bo)), ("com/example/orderly_slopes/orderlyslopes/layout/OrthogonalGraph", "directions", "[B", (.ref bd)), ("com/example/orderly_slopes/orderlyslopes/layout/OrthogonalGraph", "edgeCount", "I", (.int cnt))]) (C := "com/example/orderly_slopes/orderlyslopes/layout/OrthogonalGraph") (pc := 1) (Ls := #[.val (.ref u0), .val (.int u1), .val (.int u2), .val (.int u3)]) (rest := []) hown (hw _ (List.mem_of_getElem? (i := 14) rfl)) Via.refl rfl rfl (hb hby d7_1)
  replace H1 : OHere p l e _ s m _ below meth c Z n0 T1 0 0 [(eO u0 "com/example/orderly_slopes/orderlyslopes/layout/OrthogonalGraph" [("com/example/orderly_slopes/orderlyslopes/layout/OrthogonalGraph", "ports", "[I", (.ref bp)), ("com/example/orderly_slopes/orderlyslopes/layout/OrthogonalGraph", "vertexCount", "I", (.int (4 : Int32))), ("com/example/orderly_slopes/orderlyslopes/layout/OrthogonalGraph", "origins", "[I", (.ref bo)), ("com/example/orderly_slopes/orderlyslopes/layout/OrthogonalGraph", "directions", "[B", (.ref bd)), ("com/example/orderly_slopes/orderlyslopes/layout/OrthogonalGraph", "edgeCount", "I", (.int cnt))]), (eA bp .int P), (eA bo .int O), (eA bd .byte D)] := H1
  refine OEnds.pre (fun t k => st1 _ k) ?_
  show OEnds p e below s _ _ _ (T1.setTop (mkF m 4 #[.val (.ref u0), .val (.int u1), .val (.int u2), .val (.int u3)] [(.ref bp)]))
  refine OEnds.pre (fun t k => XT.iconstV H1.here hx rfl (4 : Int32) (hb hby d7_4) rfl k) ?_
  show OEnds p e below s _ _ _ (T1.setTop (mkF m 5 #[.val (.ref u0), .val (.int u1), .val (.int u2), .val (.int u3)] [(.int (4 : Int32)), (.ref bp)]))
  refine OEnds.pre (fun t k => XS.iloadN H1.here hx rfl (hb hby d7_5) rfl k) ?_
  show OEnds p e below s _ _ _ (T1.setTop (mkF m 6 #[.val (.ref u0), .val (.int u1), .val (.int u2), .val (.int u3)] [(.int u2), (.int (4 : Int32)), (.ref bp)]))
  refine OEnds.pre (fun t k => XS.imul H1.here hx rfl (hb hby d7_6) rfl k) ?_
  show OEnds p e below s _ _ _ (T1.setTop (mkF m 7 #[.val (.ref u0), .val (.int u1), .val (.int u2), .val (.int u3)] [(.int ((4 : Int32) * u2)), (.ref bp)]))
  refine OEnds.pre (fun t k => XS.iloadN H1.here hx rfl (hb hby d7_7) rfl k) ?_
  show OEnds p e below s _ _ _ (T1.setTop (mkF m 8 #[.val (.ref u0), .val (.int u1), .val (.int u2), .val (.int u3)] [(.int u3), (.int ((4 : Int32) * u2)), (.ref bp)]))
  refine OEnds.pre (fun t k => XS.iadd H1.here hx rfl (hb hby d7_8) rfl k) ?_
  show OEnds p e below s _ _ _ (T1.setTop (mkF m 9 #[.val (.ref u0), .val (.int u1), .val (.int u2), .val (.int u3)] [(.int (((4 : Int32) * u2) + u3)), (.ref bp)]))
  refine OEnds.pre (fun t k => OHere.iaload H1 hx hZ (q := 1) (i := i) (vs := P) (v := (.int (-1 : Int32))) rfl hj hi hv (hb hby d7_9) k) ?_
  show OEnds p e below s _ _ _ (T1.setTop (mkF m 10 #[.val (.ref u0), .val (.int u1), .val (.int u2), .val (.int u3)] [(.int (-1 : Int32))]))
  refine OEnds.pre (fun t k => XS.ifYes H1.here hx rfl (pc0 := 10) (pc' := 28) rfl (hb hby d7_10) rfl (XT.i0_lt_t (by decide)) (by decide) (by decide) k) ?_
  show OEnds p e below s _ _ _ (T1.setTop (mkF m 28 #[.val (.ref u0), .val (.int u1), .val (.int u2), .val (.int u3)] []))
  refine OEnds.pre (fun t k => XS.aloadN H1.here hx rfl (hb hby d7_28) rfl rfl k) ?_
  show OEnds p e below s _ _ _ (T1.setTop (mkF m 29 #[.val (.ref u0), .val (.int u1), .val (.int u2), .val (.int u3)] [(.ref u0)]))
  obtain ⟨T2, H2, st2⟩ := OHere.getfield H1 hx hZ (O := "com/example/orderly_slopes/orderlyslopes/layout/OrthogonalGraph") (q := 0) (f := 2) (v := (.ref bo)) (fs := [("com/example/orderly_slopes/orderlyslopes/layout/OrthogonalGraph", "ports", "[I", (.ref bp)), ("com/example/orderly_slopes/orderlyslopes/layout/OrthogonalGraph", "vertexCount", "I", (.int (4 : Int32))), ("com/example/orderly_slopes/orderlyslopes/layout/OrthogonalGraph", "origins", "[I", (.ref bo)), ("com/example/orderly_slopes/orderlyslopes/layout/OrthogonalGraph", "directions", "[B", (.ref bd)), ("com/example/orderly_slopes/orderlyslopes/layout/OrthogonalGraph", "edgeCount", "I", (.int cnt))]) (C := "com/example/orderly_slopes/orderlyslopes/layout/OrthogonalGraph") (pc := 29) (Ls := #[.val (.ref u0), .val (.int u1), .val (.int u2), .val (.int u3)]) (rest := []) hown (hw _ (List.mem_of_getElem? (i := 22) rfl)) Via.refl rfl rfl (hb hby d7_29)
  replace H2 : OHere p l e _ s m _ below meth c Z n0 T2 0 0 [(eO u0 "com/example/orderly_slopes/orderlyslopes/layout/OrthogonalGraph" [("com/example/orderly_slopes/orderlyslopes/layout/OrthogonalGraph", "ports", "[I", (.ref bp)), ("com/example/orderly_slopes/orderlyslopes/layout/OrthogonalGraph", "vertexCount", "I", (.int (4 : Int32))), ("com/example/orderly_slopes/orderlyslopes/layout/OrthogonalGraph", "origins", "[I", (.ref bo)), ("com/example/orderly_slopes/orderlyslopes/layout/OrthogonalGraph", "directions", "[B", (.ref bd)), ("com/example/orderly_slopes/orderlyslopes/layout/OrthogonalGraph", "edgeCount", "I", (.int cnt))]), (eA bp .int P), (eA bo .int O), (eA bd .byte D)] := H2
  refine OEnds.pre (fun t k => st2 _ k) ?_
  show OEnds p e below s _ _ _ (T2.setTop (mkF m 32 #[.val (.ref u0), .val (.int u1), .val (.int u2), .val (.int u3)] [(.ref bo)]))
  refine OEnds.pre (fun t k => XS.iloadN H2.here hx rfl (hb hby d7_32) rfl k) ?_
  show OEnds p e below s _ _ _ (T2.setTop (mkF m 33 #[.val (.ref u0), .val (.int u1), .val (.int u2), .val (.int u3)] [(.int u1), (.ref bo)]))
  refine OEnds.pre (fun t k => XS.iloadN H2.here hx rfl (hb hby d7_33) rfl k) ?_
  show OEnds p e below s _ _ _ (T2.setTop (mkF m 34 #[.val (.ref u0), .val (.int u1), .val (.int u2), .val (.int u3)] [(.int u2), (.int u1), (.ref bo)]))
  obtain ⟨T3, H3, st3⟩ := OHere.iastore H2 hx hZ (q := 2) (i := kd) (vs := O) (x := u2) (j := u1) (pc := 34) (Ls := #[.val (.ref u0), .val (.int u1), .val (.int u2), .val (.int u3)]) (rest := []) rfl hk hkd ho (hb hby d7_34)
  replace H3 : OHere p l e _ s m _ below meth c Z n0 T3 0 0 [(eO u0 "com/example/orderly_slopes/orderlyslopes/layout/OrthogonalGraph" [("com/example/orderly_slopes/orderlyslopes/layout/OrthogonalGraph", "ports", "[I", (.ref bp)), ("com/example/orderly_slopes/orderlyslopes/layout/OrthogonalGraph", "vertexCount", "I", (.int (4 : Int32))), ("com/example/orderly_slopes/orderlyslopes/layout/OrthogonalGraph", "origins", "[I", (.ref bo)), ("com/example/orderly_slopes/orderlyslopes/layout/OrthogonalGraph", "directions", "[B", (.ref bd)), ("com/example/orderly_slopes/orderlyslopes/layout/OrthogonalGraph", "edgeCount", "I", (.int cnt))]), (eA bp .int P), (eA bo .int (O.set kd (.int u2))), (eA bd .byte D)] := H3
  refine OEnds.pre (fun t k => st3 _ k) ?_
  show OEnds p e below s _ _ _ (T3.setTop (mkF m 35 #[.val (.ref u0), .val (.int u1), .val (.int u2), .val (.int u3)] []))
  refine OEnds.pre (fun t k => XS.aloadN H3.here hx rfl (hb hby d7_35) rfl rfl k) ?_
  show OEnds p e below s _ _ _ (T3.setTop (mkF m 36 #[.val (.ref u0), .val (.int u1), .val (.int u2), .val (.int u3)] [(.ref u0)]))
  obtain ⟨T4, H4, st4⟩ := OHere.getfield H3 hx hZ (O := "com/example/orderly_slopes/orderlyslopes/layout/OrthogonalGraph") (q := 0) (f := 3) (v := (.ref bd)) (fs := [("com/example/orderly_slopes/orderlyslopes/layout/OrthogonalGraph", "ports", "[I", (.ref bp)), ("com/example/orderly_slopes/orderlyslopes/layout/OrthogonalGraph", "vertexCount", "I", (.int (4 : Int32))), ("com/example/orderly_slopes/orderlyslopes/layout/OrthogonalGraph", "origins", "[I", (.ref bo)), ("com/example/orderly_slopes/orderlyslopes/layout/OrthogonalGraph", "directions", "[B", (.ref bd)), ("com/example/orderly_slopes/orderlyslopes/layout/OrthogonalGraph", "edgeCount", "I", (.int cnt))]) (C := "com/example/orderly_slopes/orderlyslopes/layout/OrthogonalGraph") (pc := 36) (Ls := #[.val (.ref u0), .val (.int u1), .val (.int u2), .val (.int u3)]) (rest := []) hown (hw _ (List.mem_of_getElem? (i := 25) rfl)) Via.refl rfl rfl (hb hby d7_36)
  replace H4 : OHere p l e _ s m _ below meth c Z n0 T4 0 0 [(eO u0 "com/example/orderly_slopes/orderlyslopes/layout/OrthogonalGraph" [("com/example/orderly_slopes/orderlyslopes/layout/OrthogonalGraph", "ports", "[I", (.ref bp)), ("com/example/orderly_slopes/orderlyslopes/layout/OrthogonalGraph", "vertexCount", "I", (.int (4 : Int32))), ("com/example/orderly_slopes/orderlyslopes/layout/OrthogonalGraph", "origins", "[I", (.ref bo)), ("com/example/orderly_slopes/orderlyslopes/layout/OrthogonalGraph", "directions", "[B", (.ref bd)), ("com/example/orderly_slopes/orderlyslopes/layout/OrthogonalGraph", "edgeCount", "I", (.int cnt))]), (eA bp .int P), (eA bo .int (O.set kd (.int u2))), (eA bd .byte D)] := H4
  refine OEnds.pre (fun t k => st4 _ k) ?_
  show OEnds p e below s _ _ _ (T4.setTop (mkF m 39 #[.val (.ref u0), .val (.int u1), .val (.int u2), .val (.int u3)] [(.ref bd)]))
  refine OEnds.pre (fun t k => XS.iloadN H4.here hx rfl (hb hby d7_39) rfl k) ?_
  show OEnds p e below s _ _ _ (T4.setTop (mkF m 40 #[.val (.ref u0), .val (.int u1), .val (.int u2), .val (.int u3)] [(.int u1), (.ref bd)]))
  refine OEnds.pre (fun t k => XS.iloadN H4.here hx rfl (hb hby d7_40) rfl k) ?_
  show OEnds p e below s _ _ _ (T4.setTop (mkF m 41 #[.val (.ref u0), .val (.int u1), .val (.int u2), .val (.int u3)] [(.int u3), (.int u1), (.ref bd)]))
  refine OEnds.pre (fun t k => XT.i2b H4.here hx rfl (hb hby d7_41) rfl k) ?_
  show OEnds p e below s _ _ _ (T4.setTop (mkF m 42 #[.val (.ref u0), .val (.int u1), .val (.int u2), .val (.int u3)] [(.int (nar .byte u3)), (.int u1), (.ref bd)]))
  obtain ⟨T5, H5, st5⟩ := OHere.bastore H4 hx hZ (q := 3) (i := kd) (vs := D) (x := (nar .byte u3)) (j := u1) (pc := 42) (Ls := #[.val (.ref u0), .val (.int u1), .val (.int u2), .val (.int u3)]) (rest := []) rfl hk hkd hd (hb hby d7_42)
  replace H5 : OHere p l e _ s m _ below meth c Z n0 T5 0 0 [(eO u0 "com/example/orderly_slopes/orderlyslopes/layout/OrthogonalGraph" [("com/example/orderly_slopes/orderlyslopes/layout/OrthogonalGraph", "ports", "[I", (.ref bp)), ("com/example/orderly_slopes/orderlyslopes/layout/OrthogonalGraph", "vertexCount", "I", (.int (4 : Int32))), ("com/example/orderly_slopes/orderlyslopes/layout/OrthogonalGraph", "origins", "[I", (.ref bo)), ("com/example/orderly_slopes/orderlyslopes/layout/OrthogonalGraph", "directions", "[B", (.ref bd)), ("com/example/orderly_slopes/orderlyslopes/layout/OrthogonalGraph", "edgeCount", "I", (.int cnt))]), (eA bp .int P), (eA bo .int (O.set kd (.int u2))), (eA bd .byte (D.set kd (.int (nar .byte (nar .byte u3)))))] := H5
  refine OEnds.pre (fun t k => st5 _ k) ?_
  show OEnds p e below s _ _ _ (T5.setTop (mkF m 43 #[.val (.ref u0), .val (.int u1), .val (.int u2), .val (.int u3)] []))
  refine OEnds.pre (fun t k => XS.aloadN H5.here hx rfl (hb hby d7_43) rfl rfl k) ?_
  show OEnds p e below s _ _ _ (T5.setTop (mkF m 44 #[.val (.ref u0), .val (.int u1), .val (.int u2), .val (.int u3)] [(.ref u0)]))
  obtain ⟨T6, H6, st6⟩ := OHere.getfield H5 hx hZ (O := "com/example/orderly_slopes/orderlyslopes/layout/OrthogonalGraph") (q := 0) (f := 0) (v := (.ref bp)) (fs := [("com/example/orderly_slopes/orderlyslopes/layout/OrthogonalGraph", "ports", "[I", (.ref bp)), ("com/example/orderly_slopes/orderlyslopes/layout/OrthogonalGraph", "vertexCount", "I", (.int (4 : Int32))), ("com/example/orderly_slopes/orderlyslopes/layout/OrthogonalGraph", "origins", "[I", (.ref bo)), ("com/example/orderly_slopes/orderlyslopes/layout/OrthogonalGraph", "directions", "[B", (.ref bd)), ("com/example/orderly_slopes/orderlyslopes/layout/OrthogonalGraph", "edgeCount", "I", (.int cnt))]) (C := "com/example/orderly_slopes/orderlyslopes/layout/OrthogonalGraph") (pc := 44) (Ls := #[.val (.ref u0), .val (.int u1), .val (.int u2), .val (.int u3)]) (rest := []) hown (hw _ (List.mem_of_getElem? (i := 14) rfl)) Via.refl rfl rfl (hb hby d7_44)
  replace H6 : OHere p l e _ s m _ below meth c Z n0 T6 0 0 [(eO u0 "com/example/orderly_slopes/orderlyslopes/layout/OrthogonalGraph" [("com/example/orderly_slopes/orderlyslopes/layout/OrthogonalGraph", "ports", "[I", (.ref bp)), ("com/example/orderly_slopes/orderlyslopes/layout/OrthogonalGraph", "vertexCount", "I", (.int (4 : Int32))), ("com/example/orderly_slopes/orderlyslopes/layout/OrthogonalGraph", "origins", "[I", (.ref bo)), ("com/example/orderly_slopes/orderlyslopes/layout/OrthogonalGraph", "directions", "[B", (.ref bd)), ("com/example/orderly_slopes/orderlyslopes/layout/OrthogonalGraph", "edgeCount", "I", (.int cnt))]), (eA bp .int P), (eA bo .int (O.set kd (.int u2))), (eA bd .byte (D.set kd (.int (nar .byte (nar .byte u3)))))] := H6
  refine OEnds.pre (fun t k => st6 _ k) ?_
  show OEnds p e below s _ _ _ (T6.setTop (mkF m 47 #[.val (.ref u0), .val (.int u1), .val (.int u2), .val (.int u3)] [(.ref bp)]))
  refine OEnds.pre (fun t k => XT.iconstV H6.here hx rfl (4 : Int32) (hb hby d7_47) rfl k) ?_
  show OEnds p e below s _ _ _ (T6.setTop (mkF m 48 #[.val (.ref u0), .val (.int u1), .val (.int u2), .val (.int u3)] [(.int (4 : Int32)), (.ref bp)]))
  refine OEnds.pre (fun t k => XS.iloadN H6.here hx rfl (hb hby d7_48) rfl k) ?_
  show OEnds p e below s _ _ _ (T6.setTop (mkF m 49 #[.val (.ref u0), .val (.int u1), .val (.int u2), .val (.int u3)] [(.int u2), (.int (4 : Int32)), (.ref bp)]))
  refine OEnds.pre (fun t k => XS.imul H6.here hx rfl (hb hby d7_49) rfl k) ?_
  show OEnds p e below s _ _ _ (T6.setTop (mkF m 50 #[.val (.ref u0), .val (.int u1), .val (.int u2), .val (.int u3)] [(.int ((4 : Int32) * u2)), (.ref bp)]))
  refine OEnds.pre (fun t k => XS.iloadN H6.here hx rfl (hb hby d7_50) rfl k) ?_
  show OEnds p e below s _ _ _ (T6.setTop (mkF m 51 #[.val (.ref u0), .val (.int u1), .val (.int u2), .val (.int u3)] [(.int u3), (.int ((4 : Int32) * u2)), (.ref bp)]))
  refine OEnds.pre (fun t k => XS.iadd H6.here hx rfl (hb hby d7_51) rfl k) ?_
  show OEnds p e below s _ _ _ (T6.setTop (mkF m 52 #[.val (.ref u0), .val (.int u1), .val (.int u2), .val (.int u3)] [(.int (((4 : Int32) * u2) + u3)), (.ref bp)]))
  refine OEnds.pre (fun t k => XS.iloadN H6.here hx rfl (hb hby d7_52) rfl k) ?_
  show OEnds p e below s _ _ _ (T6.setTop (mkF m 53 #[.val (.ref u0), .val (.int u1), .val (.int u2), .val (.int u3)] [(.int u1), (.int (((4 : Int32) * u2) + u3)), (.ref bp)]))
  obtain ⟨T7, H7, st7⟩ := OHere.iastore H6 hx hZ (q := 1) (i := i) (vs := P) (x := u1) (j := (((4 : Int32) * u2) + u3)) (pc := 53) (Ls := #[.val (.ref u0), .val (.int u1), .val (.int u2), .val (.int u3)]) (rest := []) rfl hj hi (List.getElem?_eq_some_iff.mp hv).1 (hb hby d7_53)
  replace H7 : OHere p l e _ s m _ below meth c Z n0 T7 0 0 [(eO u0 "com/example/orderly_slopes/orderlyslopes/layout/OrthogonalGraph" [("com/example/orderly_slopes/orderlyslopes/layout/OrthogonalGraph", "ports", "[I", (.ref bp)), ("com/example/orderly_slopes/orderlyslopes/layout/OrthogonalGraph", "vertexCount", "I", (.int (4 : Int32))), ("com/example/orderly_slopes/orderlyslopes/layout/OrthogonalGraph", "origins", "[I", (.ref bo)), ("com/example/orderly_slopes/orderlyslopes/layout/OrthogonalGraph", "directions", "[B", (.ref bd)), ("com/example/orderly_slopes/orderlyslopes/layout/OrthogonalGraph", "edgeCount", "I", (.int cnt))]), (eA bp .int (P.set i (.int u1))), (eA bo .int (O.set kd (.int u2))), (eA bd .byte (D.set kd (.int (nar .byte (nar .byte u3)))))] := H7
  refine OEnds.pre (fun t k => st7 _ k) ?_
  show OEnds p e below s _ _ _ (T7.setTop (mkF m 54 #[.val (.ref u0), .val (.int u1), .val (.int u2), .val (.int u3)] []))
  exact H7.ret hx Bd.notSynchronized Bd.returns (hb hby d7_54) (by decide) (by decide) (fun h L W N => ⟨N, _, ⟨rfl, rfl⟩, W⟩)
theorem d5_0 : decode prog_33_method_10_code 0 = .ok (.aload_n 0, 1) := by decide +kernel
theorem d5_1 : decode prog_33_method_10_code 1 = .ok (.invokevirtual 46, 3) := by decide +kernel
theorem d5_4 : decode prog_33_method_10_code 4 = .ok (.aload_n 0, 1) := by decide +kernel
theorem d5_5 : decode prog_33_method_10_code 5 = .ok (.getfield 29, 3) := by decide +kernel
theorem d5_8 : decode prog_33_method_10_code 8 = .ok (.arraylength, 1) := by decide +kernel
theorem d5_9 : decode prog_33_method_10_code 9 = .ok (.if_icmp .ne 37, 3) := by decide +kernel
theorem d5_46 : decode prog_33_method_10_code 46 = .ok (.aload_n 0, 1) := by decide +kernel
theorem d5_47 : decode prog_33_method_10_code 47 = .ok (.invokevirtual 46, 3) := by decide +kernel
theorem d5_50 : decode prog_33_method_10_code 50 = .ok (.istore 4, 2) := by decide +kernel
theorem d5_52 : decode prog_33_method_10_code 52 = .ok (.aload_n 0, 1) := by decide +kernel
theorem d5_53 : decode prog_33_method_10_code 53 = .ok (.dup, 1) := by decide +kernel
theorem d5_54 : decode prog_33_method_10_code 54 = .ok (.getfield 36, 3) := by decide +kernel
theorem d5_57 : decode prog_33_method_10_code 57 = .ok (.iconst 1, 1) := by decide +kernel
theorem d5_58 : decode prog_33_method_10_code 58 = .ok (.iadd, 1) := by decide +kernel
theorem d5_59 : decode prog_33_method_10_code 59 = .ok (.putfield 36, 3) := by decide +kernel
theorem d5_62 : decode prog_33_method_10_code 62 = .ok (.aload_n 0, 1) := by decide +kernel
theorem d5_63 : decode prog_33_method_10_code 63 = .ok (.iload 4, 2) := by decide +kernel
theorem d5_65 : decode prog_33_method_10_code 65 = .ok (.iload_n 1, 1) := by decide +kernel
theorem d5_66 : decode prog_33_method_10_code 66 = .ok (.iload_n 3, 1) := by decide +kernel
theorem d5_67 : decode prog_33_method_10_code 67 = .ok (.invokevirtual 53, 3) := by decide +kernel
theorem d5_70 : decode prog_33_method_10_code 70 = .ok (.aload_n 0, 1) := by decide +kernel
theorem d5_71 : decode prog_33_method_10_code 71 = .ok (.iload 4, 2) := by decide +kernel
theorem d5_73 : decode prog_33_method_10_code 73 = .ok (.iconst 1, 1) := by decide +kernel
theorem d5_74 : decode prog_33_method_10_code 74 = .ok (.ixor, 1) := by decide +kernel
theorem d5_75 : decode prog_33_method_10_code 75 = .ok (.iload_n 2, 1) := by decide +kernel
theorem d5_76 : decode prog_33_method_10_code 76 = .ok (.iload_n 3, 1) := by decide +kernel
theorem d5_77 : decode prog_33_method_10_code 77 = .ok (.iconst 2, 1) := by decide +kernel
theorem d5_78 : decode prog_33_method_10_code 78 = .ok (.ixor, 1) := by decide +kernel
theorem d5_79 : decode prog_33_method_10_code 79 = .ok (.invokevirtual 53, 3) := by decide +kernel
theorem d5_82 : decode prog_33_method_10_code 82 = .ok (.iload 4, 2) := by decide +kernel
theorem d5_84 : decode prog_33_method_10_code 84 = .ok (.ireturn, 1) := by decide +kernel
theorem pn_5 : plainFor (⟨"com/example/orderly_slopes/orderlyslopes/layout/OrthogonalGraph", "addEdge", "(III)I"⟩ : MethodName) = true := by first | exact plainFor_of_name (by first | (simp [plainName, overriddenIn]; done) | decide +kernel) | decide +kernel
theorem ef_5 (m : MethodId) (x0 : Addr) (x1 : Int32) (x2 : Int32) (x3 : Int32) : entryFrame m #[(.ref x0), (.int x1), (.int x2), (.int x3)] 5 = mkF m 0 #[.val (.ref x0), .val (.int x1), .val (.int x2), .val (.int x3), .unset] [] := by first | (simp [entryFrame, mkF, argsToLocals, Value.category]; done) | rfl
set_option maxRecDepth 65536 in
set_option maxHeartbeats 40000000 in
theorem con5_0 (l : Launch) (Z : State) (a0 : Array Value) (hw : ∀ d ∈ tables_1, d.before a0 Z = true) (n0 : Nat) (ws : List Jvm.Cond) (u0 : Addr) (u3 : Int32) (bp bo bd : Addr) (P : List Value) (hd : rng4 u3) (hA : blk 0 P) (hB : blk 1 P) :
    OCon l Z n0 (⟨"com/example/orderly_slopes/orderlyslopes/layout/OrthogonalGraph", "addEdge", "(III)I"⟩ : MethodName) prog_33_method_10_code 5 (some .int) ws ({ frames := 1, cells := 0, slots := 0, locals := 15 } : Room) #[(.ref u0), (.int (0 : Int32)), (.int (1 : Int32)), (.int u3)] [(eO u0 "com/example/orderly_slopes/orderlyslopes/layout/OrthogonalGraph" [("com/example/orderly_slopes/orderlyslopes/layout/OrthogonalGraph", "ports", "[I", (.ref bp)), ("com/example/orderly_slopes/orderlyslopes/layout/OrthogonalGraph", "vertexCount", "I", (.int (4 : Int32))), ("com/example/orderly_slopes/orderlyslopes/layout/OrthogonalGraph", "origins", "[I", (.ref bo)), ("com/example/orderly_slopes/orderlyslopes/layout/OrthogonalGraph", "directions", "[B", (.ref bd)), ("com/example/orderly_slopes/orderlyslopes/layout/OrthogonalGraph", "edgeCount", "I", (.int (0 : Int32)))]), (eA bp .int P), (eA bo .int [(.int 0), (.int 0), (.int 0), (.int 0)]), (eA bd .byte [(.int 0), (.int 0), (.int 0), (.int 0)])] (fun v' es' => v' = some (.int (0 : Int32)) ∧ es' = [(eO u0 "com/example/orderly_slopes/orderlyslopes/layout/OrthogonalGraph" [("com/example/orderly_slopes/orderlyslopes/layout/OrthogonalGraph", "ports", "[I", (.ref bp)), ("com/example/orderly_slopes/orderlyslopes/layout/OrthogonalGraph", "vertexCount", "I", (.int (4 : Int32))), ("com/example/orderly_slopes/orderlyslopes/layout/OrthogonalGraph", "origins", "[I", (.ref bo)), ("com/example/orderly_slopes/orderlyslopes/layout/OrthogonalGraph", "directions", "[B", (.ref bd)), ("com/example/orderly_slopes/orderlyslopes/layout/OrthogonalGraph", "edgeCount", "I", (.int (1 : Int32)))]), (eA bp .int ((P.set (pIx 0 u3) (.int (0 : Int32))).set (pIx 1 (u3 ^^^ (2 : Int32))) (.int (1 : Int32)))), (eA bo .int [(.int (0 : Int32)), (.int (1 : Int32)), (.int 0), (.int 0)]), (eA bd .byte [(.int (nar .byte (nar .byte u3))), (.int (nar .byte (nar .byte (u3 ^^^ (2 : Int32))))), (.int 0), (.int 0)])]) := by
  intro h0 hW0
  refine MetFree.of_bodySF pn_5 hisR ?_
  intro p e s m args below meth c s₁ Bd hml0 hP hK
  obtain ⟨rfl, hZ, hh⟩ := hP
  have hx := Bd.exec
  have hby := Bd.bytes
  have hml : c.maxLocals = 5 := hml0
  have hown : s.vm.findClass "com/example/orderly_slopes/orderlyslopes/layout/OrthogonalGraph" = some m.cls := findClass_of_methodNamed Bd.named
  have hnm := (name_of_methodNamed Bd.named Bd.method).1
  have H0 : OHere p l e ({ frames := 1, cells := 0, slots := 0, locals := 15 } : Room) s m #[(.ref u0), (.int (0 : Int32)), (.int (1 : Int32)), (.int u3)] below meth c Z n0 s₁ 0 0 [(eO u0 "com/example/orderly_slopes/orderlyslopes/layout/OrthogonalGraph" [("com/example/orderly_slopes/orderlyslopes/layout/OrthogonalGraph", "ports", "[I", (.ref bp)), ("com/example/orderly_slopes/orderlyslopes/layout/OrthogonalGraph", "vertexCount", "I", (.int (4 : Int32))), ("com/example/orderly_slopes/orderlyslopes/layout/OrthogonalGraph", "origins", "[I", (.ref bo)), ("com/example/orderly_slopes/orderlyslopes/layout/OrthogonalGraph", "directions", "[B", (.ref bd)), ("com/example/orderly_slopes/orderlyslopes/layout/OrthogonalGraph", "edgeCount", "I", (.int (0 : Int32)))]), (eA bp .int P), (eA bo .int [(.int 0), (.int 0), (.int 0), (.int 0)]), (eA bd .byte [(.int 0), (.int 0), (.int 0), (.int 0)])] := ⟨[], Stand.of_body Bd, by rw [show s₁.heap = h0 from by rw [← hh, Bd.state]; rfl]; exact hW0, Fr.nil _⟩
  show OEnds p e below s _ _ (fun v' h' L => Fr n0 L ∧ ∃ es', (fun v' es' => v' = some (.int (0 : Int32)) ∧ es' = [(eO u0 "com/example/orderly_slopes/orderlyslopes/layout/OrthogonalGraph" [("com/example/orderly_slopes/orderlyslopes/layout/OrthogonalGraph", "ports", "[I", (.ref bp)), ("com/example/orderly_slopes/orderlyslopes/layout/OrthogonalGraph", "vertexCount", "I", (.int (4 : Int32))), ("com/example/orderly_slopes/orderlyslopes/layout/OrthogonalGraph", "origins", "[I", (.ref bo)), ("com/example/orderly_slopes/orderlyslopes/layout/OrthogonalGraph", "directions", "[B", (.ref bd)), ("com/example/orderly_slopes/orderlyslopes/layout/OrthogonalGraph", "edgeCount", "I", (.int (1 : Int32)))]), (eA bp .int ((P.set (pIx 0 u3) (.int (0 : Int32))).set (pIx 1 (u3 ^^^ (2 : Int32))) (.int (1 : Int32)))), (eA bo .int [(.int (0 : Int32)), (.int (1 : Int32)), (.int 0), (.int 0)]), (eA bd .byte [(.int (nar .byte (nar .byte u3))), (.int (nar .byte (nar .byte (u3 ^^^ (2 : Int32))))), (.int 0), (.int 0)])]) v' es' ∧ OWorld Z n0 h' es') _
  refine OEnds.pre (fun t k => castTop (ef_5 m u0 (0 : Int32) (1 : Int32) u3) k) ?_
  show OEnds p e below s _ _ _ (s₁.setTop (mkF m 0 #[.val (.ref u0), .val (.int (0 : Int32)), .val (.int (1 : Int32)), .val (.int u3), .unset] []))
  refine OEnds.pre (fun t k => XS.aloadN H0.here hx rfl (hb hby d5_0) rfl rfl k) ?_
  show OEnds p e below s _ _ _ (s₁.setTop (mkF m 1 #[.val (.ref u0), .val (.int (0 : Int32)), .val (.int (1 : Int32)), .val (.int u3), .unset] [(.ref u0)]))
  obtain ⟨T1, _, _, ⟨rfl, rfl⟩, H1, st1⟩ := OHere.virtual H0 hx hZ (y := (⟨"com/example/orderly_slopes/orderlyslopes/layout/OrthogonalGraph", "dartCount", "()I"⟩ : MethodName)) (z := (⟨"com/example/orderly_slopes/orderlyslopes/layout/OrthogonalGraph", "dartCount", "()I"⟩ : MethodName)) (P := _) (W := 0) (a := u0) (q := 0) (fs := [("com/example/orderly_slopes/orderlyslopes/layout/OrthogonalGraph", "ports", "[I", (.ref bp)), ("com/example/orderly_slopes/orderlyslopes/layout/OrthogonalGraph", "vertexCount", "I", (.int (4 : Int32))), ("com/example/orderly_slopes/orderlyslopes/layout/OrthogonalGraph", "origins", "[I", (.ref bo)), ("com/example/orderly_slopes/orderlyslopes/layout/OrthogonalGraph", "directions", "[B", (.ref bd)), ("com/example/orderly_slopes/orderlyslopes/layout/OrthogonalGraph", "edgeCount", "I", (.int (0 : Int32)))]) hown (hw _ (List.mem_of_getElem? (i := 32) rfl)) (hw _ (List.mem_of_getElem? (i := 33) rfl)) (nf_sel (hw _ (List.mem_of_getElem? (i := 30) rfl)) rfl) (hw _ (List.mem_of_getElem? (i := 35) rfl)) (hw _ (List.mem_of_getElem? (i := 34) rfl)) (hw _ (List.mem_of_getElem? (i := 2) rfl)) (hw _ (List.mem_of_getElem? (i := 36) rfl)) (by decide) rfl (con6 l Z a0 hw n0 [] u0 bp bo bd (0 : Int32) P [(.int 0), (.int 0), (.int 0), (.int 0)] [(.int 0), (.int 0), (.int 0), (.int 0)]) (by decide) (by decide) (pc := 1) (Ls := #[.val (.ref u0), .val (.int (0 : Int32)), .val (.int (1 : Int32)), .val (.int u3), .unset]) (argsL := []) (rest := []) (by rw [hml]; rfl) (lenOf pd_ocI rfl) rfl (Nat.le_of_eq rfl) (hb hby d5_1) (by decide) (by decide)
  replace H1 : OHere p l e _ s m _ below meth c Z n0 T1 0 0 [(eO u0 "com/example/orderly_slopes/orderlyslopes/layout/OrthogonalGraph" [("com/example/orderly_slopes/orderlyslopes/layout/OrthogonalGraph", "ports", "[I", (.ref bp)), ("com/example/orderly_slopes/orderlyslopes/layout/OrthogonalGraph", "vertexCount", "I", (.int (4 : Int32))), ("com/example/orderly_slopes/orderlyslopes/layout/OrthogonalGraph", "origins", "[I", (.ref bo)), ("com/example/orderly_slopes/orderlyslopes/layout/OrthogonalGraph", "directions", "[B", (.ref bd)), ("com/example/orderly_slopes/orderlyslopes/layout/OrthogonalGraph", "edgeCount", "I", (.int (0 : Int32)))]), (eA bp .int P), (eA bo .int [(.int 0), (.int 0), (.int 0), (.int 0)]), (eA bd .byte [(.int 0), (.int 0), (.int 0), (.int 0)])] := H1
  refine OEnds.pre (fun t k => st1 _ k) ?_
  show OEnds p e below s _ _ _ (T1.setTop (mkF m 4 #[.val (.ref u0), .val (.int (0 : Int32)), .val (.int (1 : Int32)), .val (.int u3), .unset] [(.int (0 : Int32))]))
  refine OEnds.pre (fun t k => XS.aloadN H1.here hx rfl (hb hby d5_4) rfl rfl k) ?_
  show OEnds p e below s _ _ _ (T1.setTop (mkF m 5 #[.val (.ref u0), .val (.int (0 : Int32)), .val (.int (1 : Int32)), .val (.int u3), .unset] [(.ref u0), (.int (0 : Int32))]))
  obtain ⟨T2, H2, st2⟩ := OHere.getfield H1 hx hZ (O := "com/example/orderly_slopes/orderlyslopes/layout/OrthogonalGraph") (q := 0) (f := 2) (v := (.ref bo)) (fs := [("com/example/orderly_slopes/orderlyslopes/layout/OrthogonalGraph", "ports", "[I", (.ref bp)), ("com/example/orderly_slopes/orderlyslopes/layout/OrthogonalGraph", "vertexCount", "I", (.int (4 : Int32))), ("com/example/orderly_slopes/orderlyslopes/layout/OrthogonalGraph", "origins", "[I", (.ref bo)), ("com/example/orderly_slopes/orderlyslopes/layout/OrthogonalGraph", "directions", "[B", (.ref bd)), ("com/example/orderly_slopes/orderlyslopes/layout/OrthogonalGraph", "edgeCount", "I", (.int (0 : Int32)))]) (C := "com/example/orderly_slopes/orderlyslopes/layout/OrthogonalGraph") (pc := 5) (Ls := #[.val (.ref u0), .val (.int (0 : Int32)), .val (.int (1 : Int32)), .val (.int u3), .unset]) (rest := [(.int (0 : Int32))]) hown (hw _ (List.mem_of_getElem? (i := 22) rfl)) Via.refl rfl rfl (hb hby d5_5)
  replace H2 : OHere p l e _ s m _ below meth c Z n0 T2 0 0 [(eO u0 "com/example/orderly_slopes/orderlyslopes/layout/OrthogonalGraph" [("com/example/orderly_slopes/orderlyslopes/layout/OrthogonalGraph", "ports", "[I", (.ref bp)), ("com/example/orderly_slopes/orderlyslopes/layout/OrthogonalGraph", "vertexCount", "I", (.int (4 : Int32))), ("com/example/orderly_slopes/orderlyslopes/layout/OrthogonalGraph", "origins", "[I", (.ref bo)), ("com/example/orderly_slopes/orderlyslopes/layout/OrthogonalGraph", "directions", "[B", (.ref bd)), ("com/example/orderly_slopes/orderlyslopes/layout/OrthogonalGraph", "edgeCount", "I", (.int (0 : Int32)))]), (eA bp .int P), (eA bo .int [(.int 0), (.int 0), (.int 0), (.int 0)]), (eA bd .byte [(.int 0), (.int 0), (.int 0), (.int 0)])] := H2
  refine OEnds.pre (fun t k => st2 _ k) ?_
  show OEnds p e below s _ _ _ (T2.setTop (mkF m 8 #[.val (.ref u0), .val (.int (0 : Int32)), .val (.int (1 : Int32)), .val (.int u3), .unset] [(.ref bo), (.int (0 : Int32))]))
  refine OEnds.pre (fun t k => OHere.len H2 hx hZ (q := 2) (vs := [(.int 0), (.int 0), (.int 0), (.int 0)]) (z := (4 : Int32)) rfl rfl (hb hby d5_8) k) ?_
  show OEnds p e below s _ _ _ (T2.setTop (mkF m 9 #[.val (.ref u0), .val (.int (0 : Int32)), .val (.int (1 : Int32)), .val (.int u3), .unset] [(.int (4 : Int32)), (.int (0 : Int32))]))
  refine OEnds.pre (fun t k => XS.icmpYes H2.here hx rfl (pc0 := 9) (pc' := 46) rfl (hb hby d5_9) rfl (XT.ii_ne_t (by decide)) (by decide) (by decide) k) ?_
  show OEnds p e below s _ _ _ (T2.setTop (mkF m 46 #[.val (.ref u0), .val (.int (0 : Int32)), .val (.int (1 : Int32)), .val (.int u3), .unset] []))
  refine OEnds.pre (fun t k => XS.aloadN H2.here hx rfl (hb hby d5_46) rfl rfl k) ?_
  show OEnds p e below s _ _ _ (T2.setTop (mkF m 47 #[.val (.ref u0), .val (.int (0 : Int32)), .val (.int (1 : Int32)), .val (.int u3), .unset] [(.ref u0)]))
  obtain ⟨T3, _, _, ⟨rfl, rfl⟩, H3, st3⟩ := OHere.virtual H2 hx hZ (y := (⟨"com/example/orderly_slopes/orderlyslopes/layout/OrthogonalGraph", "dartCount", "()I"⟩ : MethodName)) (z := (⟨"com/example/orderly_slopes/orderlyslopes/layout/OrthogonalGraph", "dartCount", "()I"⟩ : MethodName)) (P := _) (W := 0) (a := u0) (q := 0) (fs := [("com/example/orderly_slopes/orderlyslopes/layout/OrthogonalGraph", "ports", "[I", (.ref bp)), ("com/example/orderly_slopes/orderlyslopes/layout/OrthogonalGraph", "vertexCount", "I", (.int (4 : Int32))), ("com/example/orderly_slopes/orderlyslopes/layout/OrthogonalGraph", "origins", "[I", (.ref bo)), ("com/example/orderly_slopes/orderlyslopes/layout/OrthogonalGraph", "directions", "[B", (.ref bd)), ("com/example/orderly_slopes/orderlyslopes/layout/OrthogonalGraph", "edgeCount", "I", (.int (0 : Int32)))]) hown (hw _ (List.mem_of_getElem? (i := 32) rfl)) (hw _ (List.mem_of_getElem? (i := 33) rfl)) (nf_sel (hw _ (List.mem_of_getElem? (i := 30) rfl)) rfl) (hw _ (List.mem_of_getElem? (i := 35) rfl)) (hw _ (List.mem_of_getElem? (i := 34) rfl)) (hw _ (List.mem_of_getElem? (i := 2) rfl)) (hw _ (List.mem_of_getElem? (i := 36) rfl)) (by decide) rfl (con6 l Z a0 hw n0 [] u0 bp bo bd (0 : Int32) P [(.int 0), (.int 0), (.int 0), (.int 0)] [(.int 0), (.int 0), (.int 0), (.int 0)]) (by decide) (by decide) (pc := 47) (Ls := #[.val (.ref u0), .val (.int (0 : Int32)), .val (.int (1 : Int32)), .val (.int u3), .unset]) (argsL := []) (rest := []) (by rw [hml]; rfl) (lenOf pd_ocI rfl) rfl (Nat.le_of_eq rfl) (hb hby d5_47) (by decide) (by decide)
  replace H3 : OHere p l e _ s m _ below meth c Z n0 T3 0 0 [(eO u0 "com/example/orderly_slopes/orderlyslopes/layout/OrthogonalGraph" [("com/example/orderly_slopes/orderlyslopes/layout/OrthogonalGraph", "ports", "[I", (.ref bp)), ("com/example/orderly_slopes/orderlyslopes/layout/OrthogonalGraph", "vertexCount", "I", (.int (4 : Int32))), ("com/example/orderly_slopes/orderlyslopes/layout/OrthogonalGraph", "origins", "[I", (.ref bo)), ("com/example/orderly_slopes/orderlyslopes/layout/OrthogonalGraph", "directions", "[B", (.ref bd)), ("com/example/orderly_slopes/orderlyslopes/layout/OrthogonalGraph", "edgeCount", "I", (.int (0 : Int32)))]), (eA bp .int P), (eA bo .int [(.int 0), (.int 0), (.int 0), (.int 0)]), (eA bd .byte [(.int 0), (.int 0), (.int 0), (.int 0)])] := H3
  refine OEnds.pre (fun t k => st3 _ k) ?_
  show OEnds p e below s _ _ _ (T3.setTop (mkF m 50 #[.val (.ref u0), .val (.int (0 : Int32)), .val (.int (1 : Int32)), .val (.int u3), .unset] [(.int (0 : Int32))]))
  refine OEnds.pre (fun t k => XS.istore H3.here hx rfl (hb hby d5_50) rfl (l' := #[.val (.ref u0), .val (.int (0 : Int32)), .val (.int (1 : Int32)), .val (.int u3), .val (.int (0 : Int32))]) rfl k) ?_
  show OEnds p e below s _ _ _ (T3.setTop (mkF m 52 #[.val (.ref u0), .val (.int (0 : Int32)), .val (.int (1 : Int32)), .val (.int u3), .val (.int (0 : Int32))] []))
  refine OEnds.pre (fun t k => XS.aloadN H3.here hx rfl (hb hby d5_52) rfl rfl k) ?_
  show OEnds p e below s _ _ _ (T3.setTop (mkF m 53 #[.val (.ref u0), .val (.int (0 : Int32)), .val (.int (1 : Int32)), .val (.int u3), .val (.int (0 : Int32))] [(.ref u0)]))
  refine OEnds.pre (fun t k => XS.dup H3.here hx rfl (hb hby d5_53) rfl rfl k) ?_
  show OEnds p e below s _ _ _ (T3.setTop (mkF m 54 #[.val (.ref u0), .val (.int (0 : Int32)), .val (.int (1 : Int32)), .val (.int u3), .val (.int (0 : Int32))] [(.ref u0), (.ref u0)]))
  obtain ⟨T4, H4, st4⟩ := OHere.getfield H3 hx hZ (O := "com/example/orderly_slopes/orderlyslopes/layout/OrthogonalGraph") (q := 0) (f := 4) (v := (.int (0 : Int32))) (fs := [("com/example/orderly_slopes/orderlyslopes/layout/OrthogonalGraph", "ports", "[I", (.ref bp)), ("com/example/orderly_slopes/orderlyslopes/layout/OrthogonalGraph", "vertexCount", "I", (.int (4 : Int32))), ("com/example/orderly_slopes/orderlyslopes/layout/OrthogonalGraph", "origins", "[I", (.ref bo)), ("com/example/orderly_slopes/orderlyslopes/layout/OrthogonalGraph", "directions", "[B", (.ref bd)), ("com/example/orderly_slopes/orderlyslopes/layout/OrthogonalGraph", "edgeCount", "I", (.int (0 : Int32)))]) (C := "com/example/orderly_slopes/orderlyslopes/layout/OrthogonalGraph") (pc := 54) (Ls := #[.val (.ref u0), .val (.int (0 : Int32)), .val (.int (1 : Int32)), .val (.int u3), .val (.int (0 : Int32))]) (rest := [(.ref u0)]) hown (hw _ (List.mem_of_getElem? (i := 37) rfl)) Via.refl rfl rfl (hb hby d5_54)
  replace H4 : OHere p l e _ s m _ below meth c Z n0 T4 0 0 [(eO u0 "com/example/orderly_slopes/orderlyslopes/layout/OrthogonalGraph" [("com/example/orderly_slopes/orderlyslopes/layout/OrthogonalGraph", "ports", "[I", (.ref bp)), ("com/example/orderly_slopes/orderlyslopes/layout/OrthogonalGraph", "vertexCount", "I", (.int (4 : Int32))), ("com/example/orderly_slopes/orderlyslopes/layout/OrthogonalGraph", "origins", "[I", (.ref bo)), ("com/example/orderly_slopes/orderlyslopes/layout/OrthogonalGraph", "directions", "[B", (.ref bd)), ("com/example/orderly_slopes/orderlyslopes/layout/OrthogonalGraph", "edgeCount", "I", (.int (0 : Int32)))]), (eA bp .int P), (eA bo .int [(.int 0), (.int 0), (.int 0), (.int 0)]), (eA bd .byte [(.int 0), (.int 0), (.int 0), (.int 0)])] := H4
  refine OEnds.pre (fun t k => st4 _ k) ?_
  show OEnds p e below s _ _ _ (T4.setTop (mkF m 57 #[.val (.ref u0), .val (.int (0 : Int32)), .val (.int (1 : Int32)), .val (.int u3), .val (.int (0 : Int32))] [(.int (0 : Int32)), (.ref u0)]))
  refine OEnds.pre (fun t k => XT.iconstV H4.here hx rfl (1 : Int32) (hb hby d5_57) rfl k) ?_
  show OEnds p e below s _ _ _ (T4.setTop (mkF m 58 #[.val (.ref u0), .val (.int (0 : Int32)), .val (.int (1 : Int32)), .val (.int u3), .val (.int (0 : Int32))] [(.int (1 : Int32)), (.int (0 : Int32)), (.ref u0)]))
  refine OEnds.pre (fun t k => XS.iadd H4.here hx rfl (hb hby d5_58) rfl k) ?_
  show OEnds p e below s _ _ _ (T4.setTop (mkF m 59 #[.val (.ref u0), .val (.int (0 : Int32)), .val (.int (1 : Int32)), .val (.int u3), .val (.int (0 : Int32))] [(.int (1 : Int32)), (.ref u0)]))
  obtain ⟨T5, H5, st5⟩ := OHere.putfield H4 hx hZ (O := "com/example/orderly_slopes/orderlyslopes/layout/OrthogonalGraph") (q := 0) (f := 4) (v := (.int (1 : Int32))) (C := "com/example/orderly_slopes/orderlyslopes/layout/OrthogonalGraph") (ty := .int) (pc := 59) (Ls := #[.val (.ref u0), .val (.int (0 : Int32)), .val (.int (1 : Int32)), .val (.int u3), .val (.int (0 : Int32))]) (rest := []) hown (hw _ (List.mem_of_getElem? (i := 37) rfl)) Via.refl (fs := [("com/example/orderly_slopes/orderlyslopes/layout/OrthogonalGraph", "ports", "[I", (.ref bp)), ("com/example/orderly_slopes/orderlyslopes/layout/OrthogonalGraph", "vertexCount", "I", (.int (4 : Int32))), ("com/example/orderly_slopes/orderlyslopes/layout/OrthogonalGraph", "origins", "[I", (.ref bo)), ("com/example/orderly_slopes/orderlyslopes/layout/OrthogonalGraph", "directions", "[B", (.ref bd)), ("com/example/orderly_slopes/orderlyslopes/layout/OrthogonalGraph", "edgeCount", "I", (.int (0 : Int32)))]) rfl rfl (Or.inl (hw _ (List.mem_of_getElem? (i := 38) rfl))) (hw _ (List.mem_of_getElem? (i := 1) rfl)) (by decide) rfl rfl (hb hby d5_59)
  replace H5 : OHere p l e _ s m _ below meth c Z n0 T5 0 0 [(eO u0 "com/example/orderly_slopes/orderlyslopes/layout/OrthogonalGraph" [("com/example/orderly_slopes/orderlyslopes/layout/OrthogonalGraph", "ports", "[I", (.ref bp)), ("com/example/orderly_slopes/orderlyslopes/layout/OrthogonalGraph", "vertexCount", "I", (.int (4 : Int32))), ("com/example/orderly_slopes/orderlyslopes/layout/OrthogonalGraph", "origins", "[I", (.ref bo)), ("com/example/orderly_slopes/orderlyslopes/layout/OrthogonalGraph", "directions", "[B", (.ref bd)), ("com/example/orderly_slopes/orderlyslopes/layout/OrthogonalGraph", "edgeCount", "I", (.int (1 : Int32)))]), (eA bp .int P), (eA bo .int [(.int 0), (.int 0), (.int 0), (.int 0)]), (eA bd .byte [(.int 0), (.int 0), (.int 0), (.int 0)])] := H5
  refine OEnds.pre (fun t k => st5 _ k) ?_
  show OEnds p e below s _ _ _ (T5.setTop (mkF m 62 #[.val (.ref u0), .val (.int (0 : Int32)), .val (.int (1 : Int32)), .val (.int u3), .val (.int (0 : Int32))] []))
  refine OEnds.pre (fun t k => XS.aloadN H5.here hx rfl (hb hby d5_62) rfl rfl k) ?_
  show OEnds p e below s _ _ _ (T5.setTop (mkF m 63 #[.val (.ref u0), .val (.int (0 : Int32)), .val (.int (1 : Int32)), .val (.int u3), .val (.int (0 : Int32))] [(.ref u0)]))
  refine OEnds.pre (fun t k => XS.iload H5.here hx rfl (hb hby d5_63) rfl k) ?_
  show OEnds p e below s _ _ _ (T5.setTop (mkF m 65 #[.val (.ref u0), .val (.int (0 : Int32)), .val (.int (1 : Int32)), .val (.int u3), .val (.int (0 : Int32))] [(.int (0 : Int32)), (.ref u0)]))
  refine OEnds.pre (fun t k => XS.iloadN H5.here hx rfl (hb hby d5_65) rfl k) ?_
  show OEnds p e below s _ _ _ (T5.setTop (mkF m 66 #[.val (.ref u0), .val (.int (0 : Int32)), .val (.int (1 : Int32)), .val (.int u3), .val (.int (0 : Int32))] [(.int (0 : Int32)), (.int (0 : Int32)), (.ref u0)]))
  refine OEnds.pre (fun t k => XS.iloadN H5.here hx rfl (hb hby d5_66) rfl k) ?_
  show OEnds p e below s _ _ _ (T5.setTop (mkF m 67 #[.val (.ref u0), .val (.int (0 : Int32)), .val (.int (1 : Int32)), .val (.int u3), .val (.int (0 : Int32))] [(.int u3), (.int (0 : Int32)), (.int (0 : Int32)), (.ref u0)]))
  obtain ⟨T6, _, _, ⟨rfl, rfl⟩, H6, st6⟩ := OHere.priv H5 hx hZ (y := (⟨"com/example/orderly_slopes/orderlyslopes/layout/OrthogonalGraph", "place", "(III)V"⟩ : MethodName)) (P := _) (W := 0) (a := u0) (q := 0) (fs := [("com/example/orderly_slopes/orderlyslopes/layout/OrthogonalGraph", "ports", "[I", (.ref bp)), ("com/example/orderly_slopes/orderlyslopes/layout/OrthogonalGraph", "vertexCount", "I", (.int (4 : Int32))), ("com/example/orderly_slopes/orderlyslopes/layout/OrthogonalGraph", "origins", "[I", (.ref bo)), ("com/example/orderly_slopes/orderlyslopes/layout/OrthogonalGraph", "directions", "[B", (.ref bd)), ("com/example/orderly_slopes/orderlyslopes/layout/OrthogonalGraph", "edgeCount", "I", (.int (1 : Int32)))]) (C := "com/example/orderly_slopes/orderlyslopes/layout/OrthogonalGraph") hown (hw _ (List.mem_of_getElem? (i := 39) rfl)) (hw _ (List.mem_of_getElem? (i := 40) rfl)) (nf_sel (hw _ (List.mem_of_getElem? (i := 30) rfl)) rfl) (hw _ (List.mem_of_getElem? (i := 41) rfl)) (hw _ (List.mem_of_getElem? (i := 2) rfl)) (hw _ (List.mem_of_getElem? (i := 42) rfl)) (by decide) rfl (con7 l Z a0 hw n0 [] u0 (0 : Int32) (0 : Int32) u3 bp bo bd (1 : Int32) P [(.int 0), (.int 0), (.int 0), (.int 0)] [(.int 0), (.int 0), (.int 0), (.int 0)] (pIx 0 u3) 0 (ix_ok (w := (4 : Int32) * (0 : Int32)) hd 0 (by decide) (by decide)).1 (ix_ok (w := (4 : Int32) * (0 : Int32)) hd 0 (by decide) (by decide)).2 (blk_at hd hA) (by decide) (by decide) (by simp) (by simp)) (by decide) (by decide) (pc := 67) (Ls := #[.val (.ref u0), .val (.int (0 : Int32)), .val (.int (1 : Int32)), .val (.int u3), .val (.int (0 : Int32))]) (argsL := [(.int (0 : Int32)), (.int (0 : Int32)), (.int u3)]) (rest := []) (by rw [hml]; rfl) (lenOf pd_oIIIcV rfl) rfl (Nat.le_of_eq rfl) (hb hby d5_67) (by decide) (by decide)
  replace H6 : OHere p l e _ s m _ below meth c Z n0 T6 0 0 [(eO u0 "com/example/orderly_slopes/orderlyslopes/layout/OrthogonalGraph" [("com/example/orderly_slopes/orderlyslopes/layout/OrthogonalGraph", "ports", "[I", (.ref bp)), ("com/example/orderly_slopes/orderlyslopes/layout/OrthogonalGraph", "vertexCount", "I", (.int (4 : Int32))), ("com/example/orderly_slopes/orderlyslopes/layout/OrthogonalGraph", "origins", "[I", (.ref bo)), ("com/example/orderly_slopes/orderlyslopes/layout/OrthogonalGraph", "directions", "[B", (.ref bd)), ("com/example/orderly_slopes/orderlyslopes/layout/OrthogonalGraph", "edgeCount", "I", (.int (1 : Int32)))]), (eA bp .int (P.set (pIx 0 u3) (.int (0 : Int32)))), (eA bo .int [(.int (0 : Int32)), (.int 0), (.int 0), (.int 0)]), (eA bd .byte [(.int (nar .byte (nar .byte u3))), (.int 0), (.int 0), (.int 0)])] := H6
  refine OEnds.pre (fun t k => st6 _ k) ?_
  show OEnds p e below s _ _ _ (T6.setTop (mkF m 70 #[.val (.ref u0), .val (.int (0 : Int32)), .val (.int (1 : Int32)), .val (.int u3), .val (.int (0 : Int32))] []))
  refine OEnds.pre (fun t k => XS.aloadN H6.here hx rfl (hb hby d5_70) rfl rfl k) ?_
  show OEnds p e below s _ _ _ (T6.setTop (mkF m 71 #[.val (.ref u0), .val (.int (0 : Int32)), .val (.int (1 : Int32)), .val (.int u3), .val (.int (0 : Int32))] [(.ref u0)]))
  refine OEnds.pre (fun t k => XS.iload H6.here hx rfl (hb hby d5_71) rfl k) ?_
  show OEnds p e below s _ _ _ (T6.setTop (mkF m 73 #[.val (.ref u0), .val (.int (0 : Int32)), .val (.int (1 : Int32)), .val (.int u3), .val (.int (0 : Int32))] [(.int (0 : Int32)), (.ref u0)]))
  refine OEnds.pre (fun t k => XT.iconstV H6.here hx rfl (1 : Int32) (hb hby d5_73) rfl k) ?_
  show OEnds p e below s _ _ _ (T6.setTop (mkF m 74 #[.val (.ref u0), .val (.int (0 : Int32)), .val (.int (1 : Int32)), .val (.int u3), .val (.int (0 : Int32))] [(.int (1 : Int32)), (.int (0 : Int32)), (.ref u0)]))
  refine OEnds.pre (fun t k => XT.ixor H6.here hx rfl (hb hby d5_74) rfl k) ?_
  show OEnds p e below s _ _ _ (T6.setTop (mkF m 75 #[.val (.ref u0), .val (.int (0 : Int32)), .val (.int (1 : Int32)), .val (.int u3), .val (.int (0 : Int32))] [(.int (1 : Int32)), (.ref u0)]))
  refine OEnds.pre (fun t k => XS.iloadN H6.here hx rfl (hb hby d5_75) rfl k) ?_
  show OEnds p e below s _ _ _ (T6.setTop (mkF m 76 #[.val (.ref u0), .val (.int (0 : Int32)), .val (.int (1 : Int32)), .val (.int u3), .val (.int (0 : Int32))] [(.int (1 : Int32)), (.int (1 : Int32)), (.ref u0)]))
  refine OEnds.pre (fun t k => XS.iloadN H6.here hx rfl (hb hby d5_76) rfl k) ?_
  show OEnds p e below s _ _ _ (T6.setTop (mkF m 77 #[.val (.ref u0), .val (.int (0 : Int32)), .val (.int (1 : Int32)), .val (.int u3), .val (.int (0 : Int32))] [(.int u3), (.int (1 : Int32)), (.int (1 : Int32)), (.ref u0)]))
  refine OEnds.pre (fun t k => XT.iconstV H6.here hx rfl (2 : Int32) (hb hby d5_77) rfl k) ?_
  show OEnds p e below s _ _ _ (T6.setTop (mkF m 78 #[.val (.ref u0), .val (.int (0 : Int32)), .val (.int (1 : Int32)), .val (.int u3), .val (.int (0 : Int32))] [(.int (2 : Int32)), (.int u3), (.int (1 : Int32)), (.int (1 : Int32)), (.ref u0)]))
  refine OEnds.pre (fun t k => XT.ixor H6.here hx rfl (hb hby d5_78) rfl k) ?_
  show OEnds p e below s _ _ _ (T6.setTop (mkF m 79 #[.val (.ref u0), .val (.int (0 : Int32)), .val (.int (1 : Int32)), .val (.int u3), .val (.int (0 : Int32))] [(.int (u3 ^^^ (2 : Int32))), (.int (1 : Int32)), (.int (1 : Int32)), (.ref u0)]))
  obtain ⟨T7, _, _, ⟨rfl, rfl⟩, H7, st7⟩ := OHere.priv H6 hx hZ (y := (⟨"com/example/orderly_slopes/orderlyslopes/layout/OrthogonalGraph", "place", "(III)V"⟩ : MethodName)) (P := _) (W := 0) (a := u0) (q := 0) (fs := [("com/example/orderly_slopes/orderlyslopes/layout/OrthogonalGraph", "ports", "[I", (.ref bp)), ("com/example/orderly_slopes/orderlyslopes/layout/OrthogonalGraph", "vertexCount", "I", (.int (4 : Int32))), ("com/example/orderly_slopes/orderlyslopes/layout/OrthogonalGraph", "origins", "[I", (.ref bo)), ("com/example/orderly_slopes/orderlyslopes/layout/OrthogonalGraph", "directions", "[B", (.ref bd)), ("com/example/orderly_slopes/orderlyslopes/layout/OrthogonalGraph", "edgeCount", "I", (.int (1 : Int32)))]) (C := "com/example/orderly_slopes/orderlyslopes/layout/OrthogonalGraph") hown (hw _ (List.mem_of_getElem? (i := 39) rfl)) (hw _ (List.mem_of_getElem? (i := 40) rfl)) (nf_sel (hw _ (List.mem_of_getElem? (i := 30) rfl)) rfl) (hw _ (List.mem_of_getElem? (i := 41) rfl)) (hw _ (List.mem_of_getElem? (i := 2) rfl)) (hw _ (List.mem_of_getElem? (i := 42) rfl)) (by decide) rfl (con7 l Z a0 hw n0 [] u0 (1 : Int32) (1 : Int32) (u3 ^^^ (2 : Int32)) bp bo bd (1 : Int32) (P.set (pIx 0 u3) (.int (0 : Int32))) [(.int (0 : Int32)), (.int 0), (.int 0), (.int 0)] [(.int (nar .byte (nar .byte u3))), (.int 0), (.int 0), (.int 0)] (pIx 1 (u3 ^^^ (2 : Int32))) 1 (ix_ok (w := (4 : Int32) * (1 : Int32)) (rng4_xor hd) 1 (by decide) (by decide)).1 (ix_ok (w := (4 : Int32) * (1 : Int32)) (rng4_xor hd) 1 (by decide) (by decide)).2 (blk_at (rng4_xor hd) (blk_set hB (pIx_off hd (by decide)))) (by decide) (by decide) (by simp) (by simp)) (by decide) (by decide) (pc := 79) (Ls := #[.val (.ref u0), .val (.int (0 : Int32)), .val (.int (1 : Int32)), .val (.int u3), .val (.int (0 : Int32))]) (argsL := [(.int (1 : Int32)), (.int (1 : Int32)), (.int (u3 ^^^ (2 : Int32)))]) (rest := []) (by rw [hml]; rfl) (lenOf pd_oIIIcV rfl) rfl (Nat.le_of_eq rfl) (hb hby d5_79) (by decide) (by decide)
  replace H7 : OHere p l e _ s m _ below meth c Z n0 T7 0 0 [(eO u0 "com/example/orderly_slopes/orderlyslopes/layout/OrthogonalGraph" [("com/example/orderly_slopes/orderlyslopes/layout/OrthogonalGraph", "ports", "[I", (.ref bp)), ("com/example/orderly_slopes/orderlyslopes/layout/OrthogonalGraph", "vertexCount", "I", (.int (4 : Int32))), ("com/example/orderly_slopes/orderlyslopes/layout/OrthogonalGraph", "origins", "[I", (.ref bo)), ("com/example/orderly_slopes/orderlyslopes/layout/OrthogonalGraph", "directions", "[B", (.ref bd)), ("com/example/orderly_slopes/orderlyslopes/layout/OrthogonalGraph", "edgeCount", "I", (.int (1 : Int32)))]), (eA bp .int ((P.set (pIx 0 u3) (.int (0 : Int32))).set (pIx 1 (u3 ^^^ (2 : Int32))) (.int (1 : Int32)))), (eA bo .int [(.int (0 : Int32)), (.int (1 : Int32)), (.int 0), (.int 0)]), (eA bd .byte [(.int (nar .byte (nar .byte u3))), (.int (nar .byte (nar .byte (u3 ^^^ (2 : Int32))))), (.int 0), (.int 0)])] := H7
  refine OEnds.pre (fun t k => st7 _ k) ?_
  show OEnds p e below s _ _ _ (T7.setTop (mkF m 82 #[.val (.ref u0), .val (.int (0 : Int32)), .val (.int (1 : Int32)), .val (.int u3), .val (.int (0 : Int32))] []))
  refine OEnds.pre (fun t k => XS.iload H7.here hx rfl (hb hby d5_82) rfl k) ?_
  show OEnds p e below s _ _ _ (T7.setTop (mkF m 84 #[.val (.ref u0), .val (.int (0 : Int32)), .val (.int (1 : Int32)), .val (.int u3), .val (.int (0 : Int32))] [(.int (0 : Int32))]))
  exact H7.int hx Bd.notSynchronized Bd.returns (hb hby d5_84) (by decide) (by decide) (fun h L W N => ⟨N, _, ⟨rfl, rfl⟩, W⟩)
set_option maxRecDepth 65536 in
set_option maxHeartbeats 40000000 in
theorem con5_1 (l : Launch) (Z : State) (a0 : Array Value) (hw : ∀ d ∈ tables_1, d.before a0 Z = true) (n0 : Nat) (ws : List Jvm.Cond) (u0 : Addr) (u3 : Int32) (bp bo bd : Addr) (P : List Value) (x0 : Int32) (x1 : Int32) (hd : rng4 u3) (hA : blk 2 P) (hB : blk 3 P) :
    OCon l Z n0 (⟨"com/example/orderly_slopes/orderlyslopes/layout/OrthogonalGraph", "addEdge", "(III)I"⟩ : MethodName) prog_33_method_10_code 5 (some .int) ws ({ frames := 1, cells := 0, slots := 0, locals := 15 } : Room) #[(.ref u0), (.int (2 : Int32)), (.int (3 : Int32)), (.int u3)] [(eO u0 "com/example/orderly_slopes/orderlyslopes/layout/OrthogonalGraph" [("com/example/orderly_slopes/orderlyslopes/layout/OrthogonalGraph", "ports", "[I", (.ref bp)), ("com/example/orderly_slopes/orderlyslopes/layout/OrthogonalGraph", "vertexCount", "I", (.int (4 : Int32))), ("com/example/orderly_slopes/orderlyslopes/layout/OrthogonalGraph", "origins", "[I", (.ref bo)), ("com/example/orderly_slopes/orderlyslopes/layout/OrthogonalGraph", "directions", "[B", (.ref bd)), ("com/example/orderly_slopes/orderlyslopes/layout/OrthogonalGraph", "edgeCount", "I", (.int (1 : Int32)))]), (eA bp .int P), (eA bo .int [(.int (0 : Int32)), (.int (1 : Int32)), (.int 0), (.int 0)]), (eA bd .byte [(.int x0), (.int x1), (.int 0), (.int 0)])] (fun v' es' => v' = some (.int (2 : Int32)) ∧ es' = [(eO u0 "com/example/orderly_slopes/orderlyslopes/layout/OrthogonalGraph" [("com/example/orderly_slopes/orderlyslopes/layout/OrthogonalGraph", "ports", "[I", (.ref bp)), ("com/example/orderly_slopes/orderlyslopes/layout/OrthogonalGraph", "vertexCount", "I", (.int (4 : Int32))), ("com/example/orderly_slopes/orderlyslopes/layout/OrthogonalGraph", "origins", "[I", (.ref bo)), ("com/example/orderly_slopes/orderlyslopes/layout/OrthogonalGraph", "directions", "[B", (.ref bd)), ("com/example/orderly_slopes/orderlyslopes/layout/OrthogonalGraph", "edgeCount", "I", (.int (2 : Int32)))]), (eA bp .int ((P.set (pIx 2 u3) (.int (2 : Int32))).set (pIx 3 (u3 ^^^ (2 : Int32))) (.int (3 : Int32)))), (eA bo .int [(.int (0 : Int32)), (.int (1 : Int32)), (.int (2 : Int32)), (.int (3 : Int32))]), (eA bd .byte [(.int x0), (.int x1), (.int (nar .byte (nar .byte u3))), (.int (nar .byte (nar .byte (u3 ^^^ (2 : Int32)))))])]) := by
  intro h0 hW0
  refine MetFree.of_bodySF pn_5 hisR ?_
  intro p e s m args below meth c s₁ Bd hml0 hP hK
  obtain ⟨rfl, hZ, hh⟩ := hP
  have hx := Bd.exec
  have hby := Bd.bytes
  have hml : c.maxLocals = 5 := hml0
  have hown : s.vm.findClass "com/example/orderly_slopes/orderlyslopes/layout/OrthogonalGraph" = some m.cls := findClass_of_methodNamed Bd.named
  have hnm := (name_of_methodNamed Bd.named Bd.method).1
  have H0 : OHere p l e ({ frames := 1, cells := 0, slots := 0, locals := 15 } : Room) s m #[(.ref u0), (.int (2 : Int32)), (.int (3 : Int32)), (.int u3)] below meth c Z n0 s₁ 0 0 [(eO u0 "com/example/orderly_slopes/orderlyslopes/layout/OrthogonalGraph" [("com/example/orderly_slopes/orderlyslopes/layout/OrthogonalGraph", "ports", "[I", (.ref bp)), ("com/example/orderly_slopes/orderlyslopes/layout/OrthogonalGraph", "vertexCount", "I", (.int (4 : Int32))), ("com/example/orderly_slopes/orderlyslopes/layout/OrthogonalGraph", "origins", "[I", (.ref bo)), ("com/example/orderly_slopes/orderlyslopes/layout/OrthogonalGraph", "directions", "[B", (.ref bd)), ("com/example/orderly_slopes/orderlyslopes/layout/OrthogonalGraph", "edgeCount", "I", (.int (1 : Int32)))]), (eA bp .int P), (eA bo .int [(.int (0 : Int32)), (.int (1 : Int32)), (.int 0), (.int 0)]), (eA bd .byte [(.int x0), (.int x1), (.int 0), (.int 0)])] := ⟨[], Stand.of_body Bd, by rw [show s₁.heap = h0 from by rw [← hh, Bd.state]; rfl]; exact hW0, Fr.nil _⟩
  show OEnds p e below s _ _ (fun v' h' L => Fr n0 L ∧ ∃ es', (fun v' es' => v' = some (.int (2 : Int32)) ∧ es' = [(eO u0 "com/example/orderly_slopes/orderlyslopes/layout/OrthogonalGraph" [("com/example/orderly_slopes/orderlyslopes/layout/OrthogonalGraph", "ports", "[I", (.ref bp)), ("com/example/orderly_slopes/orderlyslopes/layout/OrthogonalGraph", "vertexCount", "I", (.int (4 : Int32))), ("com/example/orderly_slopes/orderlyslopes/layout/OrthogonalGraph", "origins", "[I", (.ref bo)), ("com/example/orderly_slopes/orderlyslopes/layout/OrthogonalGraph", "directions", "[B", (.ref bd)), ("com/example/orderly_slopes/orderlyslopes/layout/OrthogonalGraph", "edgeCount", "I", (.int (2 : Int32)))]), (eA bp .int ((P.set (pIx 2 u3) (.int (2 : Int32))).set (pIx 3 (u3 ^^^ (2 : Int32))) (.int (3 : Int32)))), (eA bo .int [(.int (0 : Int32)), (.int (1 : Int32)), (.int (2 : Int32)), (.int (3 : Int32))]), (eA bd .byte [(.int x0), (.int x1), (.int (nar .byte (nar .byte u3))), (.int (nar .byte (nar .byte (u3 ^^^ (2 : Int32)))))])]) v' es' ∧ OWorld Z n0 h' es') _
  refine OEnds.pre (fun t k => castTop (ef_5 m u0 (2 : Int32) (3 : Int32) u3) k) ?_
  show OEnds p e below s _ _ _ (s₁.setTop (mkF m 0 #[.val (.ref u0), .val (.int (2 : Int32)), .val (.int (3 : Int32)), .val (.int u3), .unset] []))
  refine OEnds.pre (fun t k => XS.aloadN H0.here hx rfl (hb hby d5_0) rfl rfl k) ?_
  show OEnds p e below s _ _ _ (s₁.setTop (mkF m 1 #[.val (.ref u0), .val (.int (2 : Int32)), .val (.int (3 : Int32)), .val (.int u3), .unset] [(.ref u0)]))
  obtain ⟨T1, _, _, ⟨rfl, rfl⟩, H1, st1⟩ := OHere.virtual H0 hx hZ (y := (⟨"com/example/orderly_slopes/orderlyslopes/layout/OrthogonalGraph", "dartCount", "()I"⟩ : MethodName)) (z := (⟨"com/example/orderly_slopes/orderlyslopes/layout/OrthogonalGraph", "dartCount", "()I"⟩ : MethodName)) (P := _) (W := 0) (a := u0) (q := 0) (fs := [("com/example/orderly_slopes/orderlyslopes/layout/OrthogonalGraph", "ports", "[I", (.ref bp)), ("com/example/orderly_slopes/orderlyslopes/layout/OrthogonalGraph", "vertexCount", "I", (.int (4 : Int32))), ("com/example/orderly_slopes/orderlyslopes/layout/OrthogonalGraph", "origins", "[I", (.ref bo)), ("com/example/orderly_slopes/orderlyslopes/layout/OrthogonalGraph", "directions", "[B", (.ref bd)), ("com/example/orderly_slopes/orderlyslopes/layout/OrthogonalGraph", "edgeCount", "I", (.int (1 : Int32)))]) hown (hw _ (List.mem_of_getElem? (i := 32) rfl)) (hw _ (List.mem_of_getElem? (i := 33) rfl)) (nf_sel (hw _ (List.mem_of_getElem? (i := 30) rfl)) rfl) (hw _ (List.mem_of_getElem? (i := 35) rfl)) (hw _ (List.mem_of_getElem? (i := 34) rfl)) (hw _ (List.mem_of_getElem? (i := 2) rfl)) (hw _ (List.mem_of_getElem? (i := 36) rfl)) (by decide) rfl (con6 l Z a0 hw n0 [] u0 bp bo bd (1 : Int32) P [(.int (0 : Int32)), (.int (1 : Int32)), (.int 0), (.int 0)] [(.int x0), (.int x1), (.int 0), (.int 0)]) (by decide) (by decide) (pc := 1) (Ls := #[.val (.ref u0), .val (.int (2 : Int32)), .val (.int (3 : Int32)), .val (.int u3), .unset]) (argsL := []) (rest := []) (by rw [hml]; rfl) (lenOf pd_ocI rfl) rfl (Nat.le_of_eq rfl) (hb hby d5_1) (by decide) (by decide)
  replace H1 : OHere p l e _ s m _ below meth c Z n0 T1 0 0 [(eO u0 "com/example/orderly_slopes/orderlyslopes/layout/OrthogonalGraph" [("com/example/orderly_slopes/orderlyslopes/layout/OrthogonalGraph", "ports", "[I", (.ref bp)), ("com/example/orderly_slopes/orderlyslopes/layout/OrthogonalGraph", "vertexCount", "I", (.int (4 : Int32))), ("com/example/orderly_slopes/orderlyslopes/layout/OrthogonalGraph", "origins", "[I", (.ref bo)), ("com/example/orderly_slopes/orderlyslopes/layout/OrthogonalGraph", "directions", "[B", (.ref bd)), ("com/example/orderly_slopes/orderlyslopes/layout/OrthogonalGraph", "edgeCount", "I", (.int (1 : Int32)))]), (eA bp .int P), (eA bo .int [(.int (0 : Int32)), (.int (1 : Int32)), (.int 0), (.int 0)]), (eA bd .byte [(.int x0), (.int x1), (.int 0), (.int 0)])] := H1
  refine OEnds.pre (fun t k => st1 _ k) ?_
  show OEnds p e below s _ _ _ (T1.setTop (mkF m 4 #[.val (.ref u0), .val (.int (2 : Int32)), .val (.int (3 : Int32)), .val (.int u3), .unset] [(.int (2 : Int32))]))
  refine OEnds.pre (fun t k => XS.aloadN H1.here hx rfl (hb hby d5_4) rfl rfl k) ?_
  show OEnds p e below s _ _ _ (T1.setTop (mkF m 5 #[.val (.ref u0), .val (.int (2 : Int32)), .val (.int (3 : Int32)), .val (.int u3), .unset] [(.ref u0), (.int (2 : Int32))]))
  obtain ⟨T2, H2, st2⟩ := OHere.getfield H1 hx hZ (O := "com/example/orderly_slopes/orderlyslopes/layout/OrthogonalGraph") (q := 0) (f := 2) (v := (.ref bo)) (fs := [("com/example/orderly_slopes/orderlyslopes/layout/OrthogonalGraph", "ports", "[I", (.ref bp)), ("com/example/orderly_slopes/orderlyslopes/layout/OrthogonalGraph", "vertexCount", "I", (.int (4 : Int32))), ("com/example/orderly_slopes/orderlyslopes/layout/OrthogonalGraph", "origins", "[I", (.ref bo)), ("com/example/orderly_slopes/orderlyslopes/layout/OrthogonalGraph", "directions", "[B", (.ref bd)), ("com/example/orderly_slopes/orderlyslopes/layout/OrthogonalGraph", "edgeCount", "I", (.int (1 : Int32)))]) (C := "com/example/orderly_slopes/orderlyslopes/layout/OrthogonalGraph") (pc := 5) (Ls := #[.val (.ref u0), .val (.int (2 : Int32)), .val (.int (3 : Int32)), .val (.int u3), .unset]) (rest := [(.int (2 : Int32))]) hown (hw _ (List.mem_of_getElem? (i := 22) rfl)) Via.refl rfl rfl (hb hby d5_5)
  replace H2 : OHere p l e _ s m _ below meth c Z n0 T2 0 0 [(eO u0 "com/example/orderly_slopes/orderlyslopes/layout/OrthogonalGraph" [("com/example/orderly_slopes/orderlyslopes/layout/OrthogonalGraph", "ports", "[I", (.ref bp)), ("com/example/orderly_slopes/orderlyslopes/layout/OrthogonalGraph", "vertexCount", "I", (.int (4 : Int32))), ("com/example/orderly_slopes/orderlyslopes/layout/OrthogonalGraph", "origins", "[I", (.ref bo)), ("com/example/orderly_slopes/orderlyslopes/layout/OrthogonalGraph", "directions", "[B", (.ref bd)), ("com/example/orderly_slopes/orderlyslopes/layout/OrthogonalGraph", "edgeCount", "I", (.int (1 : Int32)))]), (eA bp .int P), (eA bo .int [(.int (0 : Int32)), (.int (1 : Int32)), (.int 0), (.int 0)]), (eA bd .byte [(.int x0), (.int x1), (.int 0), (.int 0)])] := H2
  refine OEnds.pre (fun t k => st2 _ k) ?_
  show OEnds p e below s _ _ _ (T2.setTop (mkF m 8 #[.val (.ref u0), .val (.int (2 : Int32)), .val (.int (3 : Int32)), .val (.int u3), .unset] [(.ref bo), (.int (2 : Int32))]))
  refine OEnds.pre (fun t k => OHere.len H2 hx hZ (q := 2) (vs := [(.int (0 : Int32)), (.int (1 : Int32)), (.int 0), (.int 0)]) (z := (4 : Int32)) rfl rfl (hb hby d5_8) k) ?_
  show OEnds p e below s _ _ _ (T2.setTop (mkF m 9 #[.val (.ref u0), .val (.int (2 : Int32)), .val (.int (3 : Int32)), .val (.int u3), .unset] [(.int (4 : Int32)), (.int (2 : Int32))]))
  refine OEnds.pre (fun t k => XS.icmpYes H2.here hx rfl (pc0 := 9) (pc' := 46) rfl (hb hby d5_9) rfl (XT.ii_ne_t (by decide)) (by decide) (by decide) k) ?_
  show OEnds p e below s _ _ _ (T2.setTop (mkF m 46 #[.val (.ref u0), .val (.int (2 : Int32)), .val (.int (3 : Int32)), .val (.int u3), .unset] []))
  refine OEnds.pre (fun t k => XS.aloadN H2.here hx rfl (hb hby d5_46) rfl rfl k) ?_
  show OEnds p e below s _ _ _ (T2.setTop (mkF m 47 #[.val (.ref u0), .val (.int (2 : Int32)), .val (.int (3 : Int32)), .val (.int u3), .unset] [(.ref u0)]))
  obtain ⟨T3, _, _, ⟨rfl, rfl⟩, H3, st3⟩ := OHere.virtual H2 hx hZ (y := (⟨"com/example/orderly_slopes/orderlyslopes/layout/OrthogonalGraph", "dartCount", "()I"⟩ : MethodName)) (z := (⟨"com/example/orderly_slopes/orderlyslopes/layout/OrthogonalGraph", "dartCount", "()I"⟩ : MethodName)) (P := _) (W := 0) (a := u0) (q := 0) (fs := [("com/example/orderly_slopes/orderlyslopes/layout/OrthogonalGraph", "ports", "[I", (.ref bp)), ("com/example/orderly_slopes/orderlyslopes/layout/OrthogonalGraph", "vertexCount", "I", (.int (4 : Int32))), ("com/example/orderly_slopes/orderlyslopes/layout/OrthogonalGraph", "origins", "[I", (.ref bo)), ("com/example/orderly_slopes/orderlyslopes/layout/OrthogonalGraph", "directions", "[B", (.ref bd)), ("com/example/orderly_slopes/orderlyslopes/layout/OrthogonalGraph", "edgeCount", "I", (.int (1 : Int32)))]) hown (hw _ (List.mem_of_getElem? (i := 32) rfl)) (hw _ (List.mem_of_getElem? (i := 33) rfl)) (nf_sel (hw _ (List.mem_of_getElem? (i := 30) rfl)) rfl) (hw _ (List.mem_of_getElem? (i := 35) rfl)) (hw _ (List.mem_of_getElem? (i := 34) rfl)) (hw _ (List.mem_of_getElem? (i := 2) rfl)) (hw _ (List.mem_of_getElem? (i := 36) rfl)) (by decide) rfl (con6 l Z a0 hw n0 [] u0 bp bo bd (1 : Int32) P [(.int (0 : Int32)), (.int (1 : Int32)), (.int 0), (.int 0)] [(.int x0), (.int x1), (.int 0), (.int 0)]) (by decide) (by decide) (pc := 47) (Ls := #[.val (.ref u0), .val (.int (2 : Int32)), .val (.int (3 : Int32)), .val (.int u3), .unset]) (argsL := []) (rest := []) (by rw [hml]; rfl) (lenOf pd_ocI rfl) rfl (Nat.le_of_eq rfl) (hb hby d5_47) (by decide) (by decide)
  replace H3 : OHere p l e _ s m _ below meth c Z n0 T3 0 0 [(eO u0 "com/example/orderly_slopes/orderlyslopes/layout/OrthogonalGraph" [("com/example/orderly_slopes/orderlyslopes/layout/OrthogonalGraph", "ports", "[I", (.ref bp)), ("com/example/orderly_slopes/orderlyslopes/layout/OrthogonalGraph", "vertexCount", "I", (.int (4 : Int32))), ("com/example/orderly_slopes/orderlyslopes/layout/OrthogonalGraph", "origins", "[I", (.ref bo)), ("com/example/orderly_slopes/orderlyslopes/layout/OrthogonalGraph", "directions", "[B", (.ref bd)), ("com/example/orderly_slopes/orderlyslopes/layout/OrthogonalGraph", "edgeCount", "I", (.int (1 : Int32)))]), (eA bp .int P), (eA bo .int [(.int (0 : Int32)), (.int (1 : Int32)), (.int 0), (.int 0)]), (eA bd .byte [(.int x0), (.int x1), (.int 0), (.int 0)])] := H3
  refine OEnds.pre (fun t k => st3 _ k) ?_
  show OEnds p e below s _ _ _ (T3.setTop (mkF m 50 #[.val (.ref u0), .val (.int (2 : Int32)), .val (.int (3 : Int32)), .val (.int u3), .unset] [(.int (2 : Int32))]))
  refine OEnds.pre (fun t k => XS.istore H3.here hx rfl (hb hby d5_50) rfl (l' := #[.val (.ref u0), .val (.int (2 : Int32)), .val (.int (3 : Int32)), .val (.int u3), .val (.int (2 : Int32))]) rfl k) ?_
  show OEnds p e below s _ _ _ (T3.setTop (mkF m 52 #[.val (.ref u0), .val (.int (2 : Int32)), .val (.int (3 : Int32)), .val (.int u3), .val (.int (2 : Int32))] []))
  refine OEnds.pre (fun t k => XS.aloadN H3.here hx rfl (hb hby d5_52) rfl rfl k) ?_
  show OEnds p e below s _ _ _ (T3.setTop (mkF m 53 #[.val (.ref u0), .val (.int (2 : Int32)), .val (.int (3 : Int32)), .val (.int u3), .val (.int (2 : Int32))] [(.ref u0)]))
  refine OEnds.pre (fun t k => XS.dup H3.here hx rfl (hb hby d5_53) rfl rfl k) ?_
  show OEnds p e below s _ _ _ (T3.setTop (mkF m 54 #[.val (.ref u0), .val (.int (2 : Int32)), .val (.int (3 : Int32)), .val (.int u3), .val (.int (2 : Int32))] [(.ref u0), (.ref u0)]))
  obtain ⟨T4, H4, st4⟩ := OHere.getfield H3 hx hZ (O := "com/example/orderly_slopes/orderlyslopes/layout/OrthogonalGraph") (q := 0) (f := 4) (v := (.int (1 : Int32))) (fs := [("com/example/orderly_slopes/orderlyslopes/layout/OrthogonalGraph", "ports", "[I", (.ref bp)), ("com/example/orderly_slopes/orderlyslopes/layout/OrthogonalGraph", "vertexCount", "I", (.int (4 : Int32))), ("com/example/orderly_slopes/orderlyslopes/layout/OrthogonalGraph", "origins", "[I", (.ref bo)), ("com/example/orderly_slopes/orderlyslopes/layout/OrthogonalGraph", "directions", "[B", (.ref bd)), ("com/example/orderly_slopes/orderlyslopes/layout/OrthogonalGraph", "edgeCount", "I", (.int (1 : Int32)))]) (C := "com/example/orderly_slopes/orderlyslopes/layout/OrthogonalGraph") (pc := 54) (Ls := #[.val (.ref u0), .val (.int (2 : Int32)), .val (.int (3 : Int32)), .val (.int u3), .val (.int (2 : Int32))]) (rest := [(.ref u0)]) hown (hw _ (List.mem_of_getElem? (i := 37) rfl)) Via.refl rfl rfl (hb hby d5_54)
  replace H4 : OHere p l e _ s m _ below meth c Z n0 T4 0 0 [(eO u0 "com/example/orderly_slopes/orderlyslopes/layout/OrthogonalGraph" [("com/example/orderly_slopes/orderlyslopes/layout/OrthogonalGraph", "ports", "[I", (.ref bp)), ("com/example/orderly_slopes/orderlyslopes/layout/OrthogonalGraph", "vertexCount", "I", (.int (4 : Int32))), ("com/example/orderly_slopes/orderlyslopes/layout/OrthogonalGraph", "origins", "[I", (.ref bo)), ("com/example/orderly_slopes/orderlyslopes/layout/OrthogonalGraph", "directions", "[B", (.ref bd)), ("com/example/orderly_slopes/orderlyslopes/layout/OrthogonalGraph", "edgeCount", "I", (.int (1 : Int32)))]), (eA bp .int P), (eA bo .int [(.int (0 : Int32)), (.int (1 : Int32)), (.int 0), (.int 0)]), (eA bd .byte [(.int x0), (.int x1), (.int 0), (.int 0)])] := H4
  refine OEnds.pre (fun t k => st4 _ k) ?_
  show OEnds p e below s _ _ _ (T4.setTop (mkF m 57 #[.val (.ref u0), .val (.int (2 : Int32)), .val (.int (3 : Int32)), .val (.int u3), .val (.int (2 : Int32))] [(.int (1 : Int32)), (.ref u0)]))
  refine OEnds.pre (fun t k => XT.iconstV H4.here hx rfl (1 : Int32) (hb hby d5_57) rfl k) ?_
  show OEnds p e below s _ _ _ (T4.setTop (mkF m 58 #[.val (.ref u0), .val (.int (2 : Int32)), .val (.int (3 : Int32)), .val (.int u3), .val (.int (2 : Int32))] [(.int (1 : Int32)), (.int (1 : Int32)), (.ref u0)]))
  refine OEnds.pre (fun t k => XS.iadd H4.here hx rfl (hb hby d5_58) rfl k) ?_
  show OEnds p e below s _ _ _ (T4.setTop (mkF m 59 #[.val (.ref u0), .val (.int (2 : Int32)), .val (.int (3 : Int32)), .val (.int u3), .val (.int (2 : Int32))] [(.int (2 : Int32)), (.ref u0)]))
  obtain ⟨T5, H5, st5⟩ := OHere.putfield H4 hx hZ (O := "com/example/orderly_slopes/orderlyslopes/layout/OrthogonalGraph") (q := 0) (f := 4) (v := (.int (2 : Int32))) (C := "com/example/orderly_slopes/orderlyslopes/layout/OrthogonalGraph") (ty := .int) (pc := 59) (Ls := #[.val (.ref u0), .val (.int (2 : Int32)), .val (.int (3 : Int32)), .val (.int u3), .val (.int (2 : Int32))]) (rest := []) hown (hw _ (List.mem_of_getElem? (i := 37) rfl)) Via.refl (fs := [("com/example/orderly_slopes/orderlyslopes/layout/OrthogonalGraph", "ports", "[I", (.ref bp)), ("com/example/orderly_slopes/orderlyslopes/layout/OrthogonalGraph", "vertexCount", "I", (.int (4 : Int32))), ("com/example/orderly_slopes/orderlyslopes/layout/OrthogonalGraph", "origins", "[I", (.ref bo)), ("com/example/orderly_slopes/orderlyslopes/layout/OrthogonalGraph", "directions", "[B", (.ref bd)), ("com/example/orderly_slopes/orderlyslopes/layout/OrthogonalGraph", "edgeCount", "I", (.int (1 : Int32)))]) rfl rfl (Or.inl (hw _ (List.mem_of_getElem? (i := 38) rfl))) (hw _ (List.mem_of_getElem? (i := 1) rfl)) (by decide) rfl rfl (hb hby d5_59)
  replace H5 : OHere p l e _ s m _ below meth c Z n0 T5 0 0 [(eO u0 "com/example/orderly_slopes/orderlyslopes/layout/OrthogonalGraph" [("com/example/orderly_slopes/orderlyslopes/layout/OrthogonalGraph", "ports", "[I", (.ref bp)), ("com/example/orderly_slopes/orderlyslopes/layout/OrthogonalGraph", "vertexCount", "I", (.int (4 : Int32))), ("com/example/orderly_slopes/orderlyslopes/layout/OrthogonalGraph", "origins", "[I", (.ref bo)), ("com/example/orderly_slopes/orderlyslopes/layout/OrthogonalGraph", "directions", "[B", (.ref bd)), ("com/example/orderly_slopes/orderlyslopes/layout/OrthogonalGraph", "edgeCount", "I", (.int (2 : Int32)))]), (eA bp .int P), (eA bo .int [(.int (0 : Int32)), (.int (1 : Int32)), (.int 0), (.int 0)]), (eA bd .byte [(.int x0), (.int x1), (.int 0), (.int 0)])] := H5
  refine OEnds.pre (fun t k => st5 _ k) ?_
  show OEnds p e below s _ _ _ (T5.setTop (mkF m 62 #[.val (.ref u0), .val (.int (2 : Int32)), .val (.int (3 : Int32)), .val (.int u3), .val (.int (2 : Int32))] []))
  refine OEnds.pre (fun t k => XS.aloadN H5.here hx rfl (hb hby d5_62) rfl rfl k) ?_
  show OEnds p e below s _ _ _ (T5.setTop (mkF m 63 #[.val (.ref u0), .val (.int (2 : Int32)), .val (.int (3 : Int32)), .val (.int u3), .val (.int (2 : Int32))] [(.ref u0)]))
  refine OEnds.pre (fun t k => XS.iload H5.here hx rfl (hb hby d5_63) rfl k) ?_
  show OEnds p e below s _ _ _ (T5.setTop (mkF m 65 #[.val (.ref u0), .val (.int (2 : Int32)), .val (.int (3 : Int32)), .val (.int u3), .val (.int (2 : Int32))] [(.int (2 : Int32)), (.ref u0)]))
  refine OEnds.pre (fun t k => XS.iloadN H5.here hx rfl (hb hby d5_65) rfl k) ?_
  show OEnds p e below s _ _ _ (T5.setTop (mkF m 66 #[.val (.ref u0), .val (.int (2 : Int32)), .val (.int (3 : Int32)), .val (.int u3), .val (.int (2 : Int32))] [(.int (2 : Int32)), (.int (2 : Int32)), (.ref u0)]))
  refine OEnds.pre (fun t k => XS.iloadN H5.here hx rfl (hb hby d5_66) rfl k) ?_
  show OEnds p e below s _ _ _ (T5.setTop (mkF m 67 #[.val (.ref u0), .val (.int (2 : Int32)), .val (.int (3 : Int32)), .val (.int u3), .val (.int (2 : Int32))] [(.int u3), (.int (2 : Int32)), (.int (2 : Int32)), (.ref u0)]))
  obtain ⟨T6, _, _, ⟨rfl, rfl⟩, H6, st6⟩ := OHere.priv H5 hx hZ (y := (⟨"com/example/orderly_slopes/orderlyslopes/layout/OrthogonalGraph", "place", "(III)V"⟩ : MethodName)) (P := _) (W := 0) (a := u0) (q := 0) (fs := [("com/example/orderly_slopes/orderlyslopes/layout/OrthogonalGraph", "ports", "[I", (.ref bp)), ("com/example/orderly_slopes/orderlyslopes/layout/OrthogonalGraph", "vertexCount", "I", (.int (4 : Int32))), ("com/example/orderly_slopes/orderlyslopes/layout/OrthogonalGraph", "origins", "[I", (.ref bo)), ("com/example/orderly_slopes/orderlyslopes/layout/OrthogonalGraph", "directions", "[B", (.ref bd)), ("com/example/orderly_slopes/orderlyslopes/layout/OrthogonalGraph", "edgeCount", "I", (.int (2 : Int32)))]) (C := "com/example/orderly_slopes/orderlyslopes/layout/OrthogonalGraph") hown (hw _ (List.mem_of_getElem? (i := 39) rfl)) (hw _ (List.mem_of_getElem? (i := 40) rfl)) (nf_sel (hw _ (List.mem_of_getElem? (i := 30) rfl)) rfl) (hw _ (List.mem_of_getElem? (i := 41) rfl)) (hw _ (List.mem_of_getElem? (i := 2) rfl)) (hw _ (List.mem_of_getElem? (i := 42) rfl)) (by decide) rfl (con7 l Z a0 hw n0 [] u0 (2 : Int32) (2 : Int32) u3 bp bo bd (2 : Int32) P [(.int (0 : Int32)), (.int (1 : Int32)), (.int 0), (.int 0)] [(.int x0), (.int x1), (.int 0), (.int 0)] (pIx 2 u3) 2 (ix_ok (w := (4 : Int32) * (2 : Int32)) hd 2 (by decide) (by decide)).1 (ix_ok (w := (4 : Int32) * (2 : Int32)) hd 2 (by decide) (by decide)).2 (blk_at hd hA) (by decide) (by decide) (by simp) (by simp)) (by decide) (by decide) (pc := 67) (Ls := #[.val (.ref u0), .val (.int (2 : Int32)), .val (.int (3 : Int32)), .val (.int u3), .val (.int (2 : Int32))]) (argsL := [(.int (2 : Int32)), (.int (2 : Int32)), (.int u3)]) (rest := []) (by rw [hml]; rfl) (lenOf pd_oIIIcV rfl) rfl (Nat.le_of_eq rfl) (hb hby d5_67) (by decide) (by decide)
  replace H6 : OHere p l e _ s m _ below meth c Z n0 T6 0 0 [(eO u0 "com/example/orderly_slopes/orderlyslopes/layout/OrthogonalGraph" [("com/example/orderly_slopes/orderlyslopes/layout/OrthogonalGraph", "ports", "[I", (.ref bp)), ("com/example/orderly_slopes/orderlyslopes/layout/OrthogonalGraph", "vertexCount", "I", (.int (4 : Int32))), ("com/example/orderly_slopes/orderlyslopes/layout/OrthogonalGraph", "origins", "[I", (.ref bo)), ("com/example/orderly_slopes/orderlyslopes/layout/OrthogonalGraph", "directions", "[B", (.ref bd)), ("com/example/orderly_slopes/orderlyslopes/layout/OrthogonalGraph", "edgeCount", "I", (.int (2 : Int32)))]), (eA bp .int (P.set (pIx 2 u3) (.int (2 : Int32)))), (eA bo .int [(.int (0 : Int32)), (.int (1 : Int32)), (.int (2 : Int32)), (.int 0)]), (eA bd .byte [(.int x0), (.int x1), (.int (nar .byte (nar .byte u3))), (.int 0)])] := H6
  refine OEnds.pre (fun t k => st6 _ k) ?_
  show OEnds p e below s _ _ _ (T6.setTop (mkF m 70 #[.val (.ref u0), .val (.int (2 : Int32)), .val (.int (3 : Int32)), .val (.int u3), .val (.int (2 : Int32))] []))
  refine OEnds.pre (fun t k => XS.aloadN H6.here hx rfl (hb hby d5_70) rfl rfl k) ?_
  show OEnds p e below s _ _ _ (T6.setTop (mkF m 71 #[.val (.ref u0), .val (.int (2 : Int32)), .val (.int (3 : Int32)), .val (.int u3), .val (.int (2 : Int32))] [(.ref u0)]))
  refine OEnds.pre (fun t k => XS.iload H6.here hx rfl (hb hby d5_71) rfl k) ?_
  show OEnds p e below s _ _ _ (T6.setTop (mkF m 73 #[.val (.ref u0), .val (.int (2 : Int32)), .val (.int (3 : Int32)), .val (.int u3), .val (.int (2 : Int32))] [(.int (2 : Int32)), (.ref u0)]))
  refine OEnds.pre (fun t k => XT.iconstV H6.here hx rfl (1 : Int32) (hb hby d5_73) rfl k) ?_
  show OEnds p e below s _ _ _ (T6.setTop (mkF m 74 #[.val (.ref u0), .val (.int (2 : Int32)), .val (.int (3 : Int32)), .val (.int u3), .val (.int (2 : Int32))] [(.int (1 : Int32)), (.int (2 : Int32)), (.ref u0)]))
  refine OEnds.pre (fun t k => XT.ixor H6.here hx rfl (hb hby d5_74) rfl k) ?_
  show OEnds p e below s _ _ _ (T6.setTop (mkF m 75 #[.val (.ref u0), .val (.int (2 : Int32)), .val (.int (3 : Int32)), .val (.int u3), .val (.int (2 : Int32))] [(.int (3 : Int32)), (.ref u0)]))
  refine OEnds.pre (fun t k => XS.iloadN H6.here hx rfl (hb hby d5_75) rfl k) ?_
  show OEnds p e below s _ _ _ (T6.setTop (mkF m 76 #[.val (.ref u0), .val (.int (2 : Int32)), .val (.int (3 : Int32)), .val (.int u3), .val (.int (2 : Int32))] [(.int (3 : Int32)), (.int (3 : Int32)), (.ref u0)]))
  refine OEnds.pre (fun t k => XS.iloadN H6.here hx rfl (hb hby d5_76) rfl k) ?_
  show OEnds p e below s _ _ _ (T6.setTop (mkF m 77 #[.val (.ref u0), .val (.int (2 : Int32)), .val (.int (3 : Int32)), .val (.int u3), .val (.int (2 : Int32))] [(.int u3), (.int (3 : Int32)), (.int (3 : Int32)), (.ref u0)]))
  refine OEnds.pre (fun t k => XT.iconstV H6.here hx rfl (2 : Int32) (hb hby d5_77) rfl k) ?_
  show OEnds p e below s _ _ _ (T6.setTop (mkF m 78 #[.val (.ref u0), .val (.int (2 : Int32)), .val (.int (3 : Int32)), .val (.int u3), .val (.int (2 : Int32))] [(.int (2 : Int32)), (.int u3), (.int (3 : Int32)), (.int (3 : Int32)), (.ref u0)]))
  refine OEnds.pre (fun t k => XT.ixor H6.here hx rfl (hb hby d5_78) rfl k) ?_
  show OEnds p e below s _ _ _ (T6.setTop (mkF m 79 #[.val (.ref u0), .val (.int (2 : Int32)), .val (.int (3 : Int32)), .val (.int u3), .val (.int (2 : Int32))] [(.int (u3 ^^^ (2 : Int32))), (.int (3 : Int32)), (.int (3 : Int32)), (.ref u0)]))
  obtain ⟨T7, _, _, ⟨rfl, rfl⟩, H7, st7⟩ := OHere.priv H6 hx hZ (y := (⟨"com/example/orderly_slopes/orderlyslopes/layout/OrthogonalGraph", "place", "(III)V"⟩ : MethodName)) (P := _) (W := 0) (a := u0) (q := 0) (fs := [("com/example/orderly_slopes/orderlyslopes/layout/OrthogonalGraph", "ports", "[I", (.ref bp)), ("com/example/orderly_slopes/orderlyslopes/layout/OrthogonalGraph", "vertexCount", "I", (.int (4 : Int32))), ("com/example/orderly_slopes/orderlyslopes/layout/OrthogonalGraph", "origins", "[I", (.ref bo)), ("com/example/orderly_slopes/orderlyslopes/layout/OrthogonalGraph", "directions", "[B", (.ref bd)), ("com/example/orderly_slopes/orderlyslopes/layout/OrthogonalGraph", "edgeCount", "I", (.int (2 : Int32)))]) (C := "com/example/orderly_slopes/orderlyslopes/layout/OrthogonalGraph") hown (hw _ (List.mem_of_getElem? (i := 39) rfl)) (hw _ (List.mem_of_getElem? (i := 40) rfl)) (nf_sel (hw _ (List.mem_of_getElem? (i := 30) rfl)) rfl) (hw _ (List.mem_of_getElem? (i := 41) rfl)) (hw _ (List.mem_of_getElem? (i := 2) rfl)) (hw _ (List.mem_of_getElem? (i := 42) rfl)) (by decide) rfl (con7 l Z a0 hw n0 [] u0 (3 : Int32) (3 : Int32) (u3 ^^^ (2 : Int32)) bp bo bd (2 : Int32) (P.set (pIx 2 u3) (.int (2 : Int32))) [(.int (0 : Int32)), (.int (1 : Int32)), (.int (2 : Int32)), (.int 0)] [(.int x0), (.int x1), (.int (nar .byte (nar .byte u3))), (.int 0)] (pIx 3 (u3 ^^^ (2 : Int32))) 3 (ix_ok (w := (4 : Int32) * (3 : Int32)) (rng4_xor hd) 3 (by decide) (by decide)).1 (ix_ok (w := (4 : Int32) * (3 : Int32)) (rng4_xor hd) 3 (by decide) (by decide)).2 (blk_at (rng4_xor hd) (blk_set hB (pIx_off hd (by decide)))) (by decide) (by decide) (by simp) (by simp)) (by decide) (by decide) (pc := 79) (Ls := #[.val (.ref u0), .val (.int (2 : Int32)), .val (.int (3 : Int32)), .val (.int u3), .val (.int (2 : Int32))]) (argsL := [(.int (3 : Int32)), (.int (3 : Int32)), (.int (u3 ^^^ (2 : Int32)))]) (rest := []) (by rw [hml]; rfl) (lenOf pd_oIIIcV rfl) rfl (Nat.le_of_eq rfl) (hb hby d5_79) (by decide) (by decide)
  replace H7 : OHere p l e _ s m _ below meth c Z n0 T7 0 0 [(eO u0 "com/example/orderly_slopes/orderlyslopes/layout/OrthogonalGraph" [("com/example/orderly_slopes/orderlyslopes/layout/OrthogonalGraph", "ports", "[I", (.ref bp)), ("com/example/orderly_slopes/orderlyslopes/layout/OrthogonalGraph", "vertexCount", "I", (.int (4 : Int32))), ("com/example/orderly_slopes/orderlyslopes/layout/OrthogonalGraph", "origins", "[I", (.ref bo)), ("com/example/orderly_slopes/orderlyslopes/layout/OrthogonalGraph", "directions", "[B", (.ref bd)), ("com/example/orderly_slopes/orderlyslopes/layout/OrthogonalGraph", "edgeCount", "I", (.int (2 : Int32)))]), (eA bp .int ((P.set (pIx 2 u3) (.int (2 : Int32))).set (pIx 3 (u3 ^^^ (2 : Int32))) (.int (3 : Int32)))), (eA bo .int [(.int (0 : Int32)), (.int (1 : Int32)), (.int (2 : Int32)), (.int (3 : Int32))]), (eA bd .byte [(.int x0), (.int x1), (.int (nar .byte (nar .byte u3))), (.int (nar .byte (nar .byte (u3 ^^^ (2 : Int32)))))])] := H7
  refine OEnds.pre (fun t k => st7 _ k) ?_
  show OEnds p e below s _ _ _ (T7.setTop (mkF m 82 #[.val (.ref u0), .val (.int (2 : Int32)), .val (.int (3 : Int32)), .val (.int u3), .val (.int (2 : Int32))] []))
  refine OEnds.pre (fun t k => XS.iload H7.here hx rfl (hb hby d5_82) rfl k) ?_
  show OEnds p e below s _ _ _ (T7.setTop (mkF m 84 #[.val (.ref u0), .val (.int (2 : Int32)), .val (.int (3 : Int32)), .val (.int u3), .val (.int (2 : Int32))] [(.int (2 : Int32))]))
  exact H7.int hx Bd.notSynchronized Bd.returns (hb hby d5_84) (by decide) (by decide) (fun h L W N => ⟨N, _, ⟨rfl, rfl⟩, W⟩)
theorem d9_0 : decode prog_33_method_14_code 0 = .ok (.aload_n 0, 1) := by decide +kernel
theorem d9_1 : decode prog_33_method_14_code 1 = .ok (.getfield 32, 3) := by decide +kernel
theorem d9_4 : decode prog_33_method_14_code 4 = .ok (.iload_n 2, 1) := by decide +kernel
theorem d9_5 : decode prog_33_method_14_code 5 = .ok (.baload, 1) := by decide +kernel
theorem d9_6 : decode prog_33_method_14_code 6 = .ok (.aload_n 0, 1) := by decide +kernel
theorem d9_7 : decode prog_33_method_14_code 7 = .ok (.getfield 32, 3) := by decide +kernel
theorem d9_10 : decode prog_33_method_14_code 10 = .ok (.iload_n 1, 1) := by decide +kernel
theorem d9_11 : decode prog_33_method_14_code 11 = .ok (.baload, 1) := by decide +kernel
theorem d9_12 : decode prog_33_method_14_code 12 = .ok (.isub, 1) := by decide +kernel
theorem d9_13 : decode prog_33_method_14_code 13 = .ok (.iconst 3, 1) := by decide +kernel
theorem d9_14 : decode prog_33_method_14_code 14 = .ok (.iand, 1) := by decide +kernel
theorem d9_15 : decode prog_33_method_14_code 15 = .ok (.istore_n 3, 1) := by decide +kernel
theorem d9_16 : decode prog_33_method_14_code 16 = .ok (.iload_n 3, 1) := by decide +kernel
theorem d9_17 : decode prog_33_method_14_code 17 = .ok (.iconst 3, 1) := by decide +kernel
theorem d9_18 : decode prog_33_method_14_code 18 = .ok (.if_icmp .ne 9, 3) := by decide +kernel
theorem d9_21 : decode prog_33_method_14_code 21 = .ok (.iconst (-1), 1) := by decide +kernel
theorem d9_22 : decode prog_33_method_14_code 22 = .ok (.istore 4, 2) := by decide +kernel
theorem d9_24 : decode prog_33_method_14_code 24 = .ok (.goto 18, 3) := by decide +kernel
theorem d9_27 : decode prog_33_method_14_code 27 = .ok (.iload_n 3, 1) := by decide +kernel
theorem d9_28 : decode prog_33_method_14_code 28 = .ok (.iconst 2, 1) := by decide +kernel
theorem d9_29 : decode prog_33_method_14_code 29 = .ok (.if_icmp .ne 10, 3) := by decide +kernel
theorem d9_32 : decode prog_33_method_14_code 32 = .ok (.bipush (-2), 2) := by decide +kernel
theorem d9_34 : decode prog_33_method_14_code 34 = .ok (.istore 4, 2) := by decide +kernel
theorem d9_36 : decode prog_33_method_14_code 36 = .ok (.goto 6, 3) := by decide +kernel
theorem d9_39 : decode prog_33_method_14_code 39 = .ok (.iload_n 3, 1) := by decide +kernel
theorem d9_40 : decode prog_33_method_14_code 40 = .ok (.istore 4, 2) := by decide +kernel
theorem d9_42 : decode prog_33_method_14_code 42 = .ok (.iload 4, 2) := by decide +kernel
theorem d9_44 : decode prog_33_method_14_code 44 = .ok (.ireturn, 1) := by decide +kernel
theorem pn_9 : plainFor (⟨"com/example/orderly_slopes/orderlyslopes/layout/OrthogonalGraph", "turn", "(II)I"⟩ : MethodName) = true := by first | exact plainFor_of_name (by first | (simp [plainName, overriddenIn]; done) | decide +kernel) | decide +kernel
theorem ef_9 (m : MethodId) (x0 : Addr) (x1 : Int32) (x2 : Int32) : entryFrame m #[(.ref x0), (.int x1), (.int x2)] 5 = mkF m 0 #[.val (.ref x0), .val (.int x1), .val (.int x2), .unset, .unset] [] := by first | (simp [entryFrame, mkF, argsToLocals, Value.category]; done) | rfl
set_option maxRecDepth 65536 in
set_option maxHeartbeats 40000000 in
theorem con9 (l : Launch) (Z : State) (a0 : Array Value) (hw : ∀ d ∈ tables_1, d.before a0 Z = true) (n0 : Nat) (ws : List Jvm.Cond) (u0 : Addr) (u1 : Int32) (u2 : Int32) (bp bo bd : Addr) (cnt : Int32) (P O D : List Value) (x y : Int32) (hk : ¬ u1 < 0) (hv : D[u1.toNatClampNeg]? = some (.int x)) (hk2 : ¬ u2 < 0) (hv2 : D[u2.toNatClampNeg]? = some (.int y)) :
    OCon l Z n0 (⟨"com/example/orderly_slopes/orderlyslopes/layout/OrthogonalGraph", "turn", "(II)I"⟩ : MethodName) prog_33_method_14_code 5 (some .int) ws ({ frames := 0, cells := 0, slots := 0, locals := 0 } : Room) #[(.ref u0), (.int u1), (.int u2)] [(eO u0 "com/example/orderly_slopes/orderlyslopes/layout/OrthogonalGraph" [("com/example/orderly_slopes/orderlyslopes/layout/OrthogonalGraph", "ports", "[I", (.ref bp)), ("com/example/orderly_slopes/orderlyslopes/layout/OrthogonalGraph", "vertexCount", "I", (.int (4 : Int32))), ("com/example/orderly_slopes/orderlyslopes/layout/OrthogonalGraph", "origins", "[I", (.ref bo)), ("com/example/orderly_slopes/orderlyslopes/layout/OrthogonalGraph", "directions", "[B", (.ref bd)), ("com/example/orderly_slopes/orderlyslopes/layout/OrthogonalGraph", "edgeCount", "I", (.int cnt))]), (eA bp .int P), (eA bo .int O), (eA bd .byte D)] (fun v' es' => v' = some (.int (fturn x y)) ∧ es' = [(eO u0 "com/example/orderly_slopes/orderlyslopes/layout/OrthogonalGraph" [("com/example/orderly_slopes/orderlyslopes/layout/OrthogonalGraph", "ports", "[I", (.ref bp)), ("com/example/orderly_slopes/orderlyslopes/layout/OrthogonalGraph", "vertexCount", "I", (.int (4 : Int32))), ("com/example/orderly_slopes/orderlyslopes/layout/OrthogonalGraph", "origins", "[I", (.ref bo)), ("com/example/orderly_slopes/orderlyslopes/layout/OrthogonalGraph", "directions", "[B", (.ref bd)), ("com/example/orderly_slopes/orderlyslopes/layout/OrthogonalGraph", "edgeCount", "I", (.int cnt))]), (eA bp .int P), (eA bo .int O), (eA bd .byte D)]) := by
  intro h0 hW0
  refine MetFree.of_bodySF pn_9 hisR ?_
  intro p e s m args below meth c s₁ Bd hml0 hP hK
  obtain ⟨rfl, hZ, hh⟩ := hP
  have hx := Bd.exec
  have hby := Bd.bytes
  have hml : c.maxLocals = 5 := hml0
  have hown : s.vm.findClass "com/example/orderly_slopes/orderlyslopes/layout/OrthogonalGraph" = some m.cls := findClass_of_methodNamed Bd.named
  have hnm := (name_of_methodNamed Bd.named Bd.method).1
  have H0 : OHere p l e ({ frames := 0, cells := 0, slots := 0, locals := 0 } : Room) s m #[(.ref u0), (.int u1), (.int u2)] below meth c Z n0 s₁ 0 0 [(eO u0 "com/example/orderly_slopes/orderlyslopes/layout/OrthogonalGraph" [("com/example/orderly_slopes/orderlyslopes/layout/OrthogonalGraph", "ports", "[I", (.ref bp)), ("com/example/orderly_slopes/orderlyslopes/layout/OrthogonalGraph", "vertexCount", "I", (.int (4 : Int32))), ("com/example/orderly_slopes/orderlyslopes/layout/OrthogonalGraph", "origins", "[I", (.ref bo)), ("com/example/orderly_slopes/orderlyslopes/layout/OrthogonalGraph", "directions", "[B", (.ref bd)), ("com/example/orderly_slopes/orderlyslopes/layout/OrthogonalGraph", "edgeCount", "I", (.int cnt))]), (eA bp .int P), (eA bo .int O), (eA bd .byte D)] := ⟨[], Stand.of_body Bd, by rw [show s₁.heap = h0 from by rw [← hh, Bd.state]; rfl]; exact hW0, Fr.nil _⟩
  show OEnds p e below s _ _ (fun v' h' L => Fr n0 L ∧ ∃ es', (fun v' es' => v' = some (.int (fturn x y)) ∧ es' = [(eO u0 "com/example/orderly_slopes/orderlyslopes/layout/OrthogonalGraph" [("com/example/orderly_slopes/orderlyslopes/layout/OrthogonalGraph", "ports", "[I", (.ref bp)), ("com/example/orderly_slopes/orderlyslopes/layout/OrthogonalGraph", "vertexCount", "I", (.int (4 : Int32))), ("com/example/orderly_slopes/orderlyslopes/layout/OrthogonalGraph", "origins", "[I", (.ref bo)), ("com/example/orderly_slopes/orderlyslopes/layout/OrthogonalGraph", "directions", "[B", (.ref bd)), ("com/example/orderly_slopes/orderlyslopes/layout/OrthogonalGraph", "edgeCount", "I", (.int cnt))]), (eA bp .int P), (eA bo .int O), (eA bd .byte D)]) v' es' ∧ OWorld Z n0 h' es') _
  refine OEnds.pre (fun t k => castTop (ef_9 m u0 u1 u2) k) ?_
  show OEnds p e below s _ _ _ (s₁.setTop (mkF m 0 #[.val (.ref u0), .val (.int u1), .val (.int u2), .unset, .unset] []))
  refine OEnds.pre (fun t k => XS.aloadN H0.here hx rfl (hb hby d9_0) rfl rfl k) ?_
  show OEnds p e below s _ _ _ (s₁.setTop (mkF m 1 #[.val (.ref u0), .val (.int u1), .val (.int u2), .unset, .unset] [(.ref u0)]))
  obtain ⟨T1, H1, st1⟩ := OHere.getfield H0 hx hZ (O := "com/example/orderly_slopes/orderlyslopes/layout/OrthogonalGraph") (q := 0) (f := 3) (v := (.ref bd)) (fs := [("com/example/orderly_slopes/orderlyslopes/layout/OrthogonalGraph", "ports", "[I", (.ref bp)), ("com/example/orderly_slopes/orderlyslopes/layout/OrthogonalGraph", "vertexCount", "I", (.int (4 : Int32))), ("com/example/orderly_slopes/orderlyslopes/layout/OrthogonalGraph", "origins", "[I", (.ref bo)), ("com/example/orderly_slopes/orderlyslopes/layout/OrthogonalGraph", "directions", "[B", (.ref bd)), ("com/example/orderly_slopes/orderlyslopes/layout/OrthogonalGraph", "edgeCount", "I", (.int cnt))]) (C := "com/example/orderly_slopes/orderlyslopes/layout/OrthogonalGraph") (pc := 1) (Ls := #[.val (.ref u0), .val (.int u1), .val (.int u2), .unset, .unset]) (rest := []) hown (hw _ (List.mem_of_getElem? (i := 25) rfl)) Via.refl rfl rfl (hb hby d9_1)
  replace H1 : OHere p l e _ s m _ below meth c Z n0 T1 0 0 [(eO u0 "com/example/orderly_slopes/orderlyslopes/layout/OrthogonalGraph" [("com/example/orderly_slopes/orderlyslopes/layout/OrthogonalGraph", "ports", "[I", (.ref bp)), ("com/example/orderly_slopes/orderlyslopes/layout/OrthogonalGraph", "vertexCount", "I", (.int (4 : Int32))), ("com/example/orderly_slopes/orderlyslopes/layout/OrthogonalGraph", "origins", "[I", (.ref bo)), ("com/example/orderly_slopes/orderlyslopes/layout/OrthogonalGraph", "directions", "[B", (.ref bd)), ("com/example/orderly_slopes/orderlyslopes/layout/OrthogonalGraph", "edgeCount", "I", (.int cnt))]), (eA bp .int P), (eA bo .int O), (eA bd .byte D)] := H1
  refine OEnds.pre (fun t k => st1 _ k) ?_
  show OEnds p e below s _ _ _ (T1.setTop (mkF m 4 #[.val (.ref u0), .val (.int u1), .val (.int u2), .unset, .unset] [(.ref bd)]))
  refine OEnds.pre (fun t k => XS.iloadN H1.here hx rfl (hb hby d9_4) rfl k) ?_
  show OEnds p e below s _ _ _ (T1.setTop (mkF m 5 #[.val (.ref u0), .val (.int u1), .val (.int u2), .unset, .unset] [(.int u2), (.ref bd)]))
  refine OEnds.pre (fun t k => OHere.baload H1 hx hZ (q := 3) (i := u2.toNatClampNeg) (vs := D) (v := (.int y)) rfl hk2 rfl hv2 (hb hby d9_5) k) ?_
  show OEnds p e below s _ _ _ (T1.setTop (mkF m 6 #[.val (.ref u0), .val (.int u1), .val (.int u2), .unset, .unset] [(.int y)]))
  refine OEnds.pre (fun t k => XS.aloadN H1.here hx rfl (hb hby d9_6) rfl rfl k) ?_
  show OEnds p e below s _ _ _ (T1.setTop (mkF m 7 #[.val (.ref u0), .val (.int u1), .val (.int u2), .unset, .unset] [(.ref u0), (.int y)]))
  obtain ⟨T2, H2, st2⟩ := OHere.getfield H1 hx hZ (O := "com/example/orderly_slopes/orderlyslopes/layout/OrthogonalGraph") (q := 0) (f := 3) (v := (.ref bd)) (fs := [("com/example/orderly_slopes/orderlyslopes/layout/OrthogonalGraph", "ports", "[I", (.ref bp)), ("com/example/orderly_slopes/orderlyslopes/layout/OrthogonalGraph", "vertexCount", "I", (.int (4 : Int32))), ("com/example/orderly_slopes/orderlyslopes/layout/OrthogonalGraph", "origins", "[I", (.ref bo)), ("com/example/orderly_slopes/orderlyslopes/layout/OrthogonalGraph", "directions", "[B", (.ref bd)), ("com/example/orderly_slopes/orderlyslopes/layout/OrthogonalGraph", "edgeCount", "I", (.int cnt))]) (C := "com/example/orderly_slopes/orderlyslopes/layout/OrthogonalGraph") (pc := 7) (Ls := #[.val (.ref u0), .val (.int u1), .val (.int u2), .unset, .unset]) (rest := [(.int y)]) hown (hw _ (List.mem_of_getElem? (i := 25) rfl)) Via.refl rfl rfl (hb hby d9_7)
  replace H2 : OHere p l e _ s m _ below meth c Z n0 T2 0 0 [(eO u0 "com/example/orderly_slopes/orderlyslopes/layout/OrthogonalGraph" [("com/example/orderly_slopes/orderlyslopes/layout/OrthogonalGraph", "ports", "[I", (.ref bp)), ("com/example/orderly_slopes/orderlyslopes/layout/OrthogonalGraph", "vertexCount", "I", (.int (4 : Int32))), ("com/example/orderly_slopes/orderlyslopes/layout/OrthogonalGraph", "origins", "[I", (.ref bo)), ("com/example/orderly_slopes/orderlyslopes/layout/OrthogonalGraph", "directions", "[B", (.ref bd)), ("com/example/orderly_slopes/orderlyslopes/layout/OrthogonalGraph", "edgeCount", "I", (.int cnt))]), (eA bp .int P), (eA bo .int O), (eA bd .byte D)] := H2
  refine OEnds.pre (fun t k => st2 _ k) ?_
  show OEnds p e below s _ _ _ (T2.setTop (mkF m 10 #[.val (.ref u0), .val (.int u1), .val (.int u2), .unset, .unset] [(.ref bd), (.int y)]))
  refine OEnds.pre (fun t k => XS.iloadN H2.here hx rfl (hb hby d9_10) rfl k) ?_
  show OEnds p e below s _ _ _ (T2.setTop (mkF m 11 #[.val (.ref u0), .val (.int u1), .val (.int u2), .unset, .unset] [(.int u1), (.ref bd), (.int y)]))
  refine OEnds.pre (fun t k => OHere.baload H2 hx hZ (q := 3) (i := u1.toNatClampNeg) (vs := D) (v := (.int x)) rfl hk rfl hv (hb hby d9_11) k) ?_
  show OEnds p e below s _ _ _ (T2.setTop (mkF m 12 #[.val (.ref u0), .val (.int u1), .val (.int u2), .unset, .unset] [(.int x), (.int y)]))
  refine OEnds.pre (fun t k => XS.isub H2.here hx rfl (hb hby d9_12) rfl k) ?_
  show OEnds p e below s _ _ _ (T2.setTop (mkF m 13 #[.val (.ref u0), .val (.int u1), .val (.int u2), .unset, .unset] [(.int (y - x))]))
  refine OEnds.pre (fun t k => XT.iconstV H2.here hx rfl (3 : Int32) (hb hby d9_13) rfl k) ?_
  show OEnds p e below s _ _ _ (T2.setTop (mkF m 14 #[.val (.ref u0), .val (.int u1), .val (.int u2), .unset, .unset] [(.int (3 : Int32)), (.int (y - x))]))
  refine OEnds.pre (fun t k => XS.iand H2.here hx rfl (hb hby d9_14) rfl k) ?_
  show OEnds p e below s _ _ _ (T2.setTop (mkF m 15 #[.val (.ref u0), .val (.int u1), .val (.int u2), .unset, .unset] [(.int ((y - x) &&& (3 : Int32)))]))
  refine OEnds.pre (fun t k => XS.istoreN H2.here hx rfl (hb hby d9_15) rfl (l' := #[.val (.ref u0), .val (.int u1), .val (.int u2), .val (.int ((y - x) &&& (3 : Int32))), .unset]) rfl k) ?_
  show OEnds p e below s _ _ _ (T2.setTop (mkF m 16 #[.val (.ref u0), .val (.int u1), .val (.int u2), .val (.int ((y - x) &&& (3 : Int32))), .unset] []))
  refine OEnds.pre (fun t k => XS.iloadN H2.here hx rfl (hb hby d9_16) rfl k) ?_
  show OEnds p e below s _ _ _ (T2.setTop (mkF m 17 #[.val (.ref u0), .val (.int u1), .val (.int u2), .val (.int ((y - x) &&& (3 : Int32))), .unset] [(.int ((y - x) &&& (3 : Int32)))]))
  refine OEnds.pre (fun t k => XT.iconstV H2.here hx rfl (3 : Int32) (hb hby d9_17) rfl k) ?_
  show OEnds p e below s _ _ _ (T2.setTop (mkF m 18 #[.val (.ref u0), .val (.int u1), .val (.int u2), .val (.int ((y - x) &&& (3 : Int32))), .unset] [(.int (3 : Int32)), (.int ((y - x) &&& (3 : Int32)))]))
  by_cases c1 : ((y - x) &&& (3 : Int32)) = (3 : Int32)
  · refine OEnds.pre (fun t k => XS.icmpNo H2.here hx rfl (hb hby d9_18) rfl (XT.ii_ne_f c1) k) ?_
    show OEnds p e below s _ _ _ (T2.setTop (mkF m 21 #[.val (.ref u0), .val (.int u1), .val (.int u2), .val (.int ((y - x) &&& (3 : Int32))), .unset] []))
    refine OEnds.pre (fun t k => XT.iconstV H2.here hx rfl (-1 : Int32) (hb hby d9_21) rfl k) ?_
    show OEnds p e below s _ _ _ (T2.setTop (mkF m 22 #[.val (.ref u0), .val (.int u1), .val (.int u2), .val (.int ((y - x) &&& (3 : Int32))), .unset] [(.int (-1 : Int32))]))
    refine OEnds.pre (fun t k => XS.istore H2.here hx rfl (hb hby d9_22) rfl (l' := #[.val (.ref u0), .val (.int u1), .val (.int u2), .val (.int ((y - x) &&& (3 : Int32))), .val (.int (-1 : Int32))]) rfl k) ?_
    show OEnds p e below s _ _ _ (T2.setTop (mkF m 24 #[.val (.ref u0), .val (.int u1), .val (.int u2), .val (.int ((y - x) &&& (3 : Int32))), .val (.int (-1 : Int32))] []))
    refine OEnds.pre (fun t k => XS.goto H2.here hx rfl (pc0 := 24) (pc' := 42) rfl (hb hby d9_24) (by decide) (by decide) k) ?_
    show OEnds p e below s _ _ _ (T2.setTop (mkF m 42 #[.val (.ref u0), .val (.int u1), .val (.int u2), .val (.int ((y - x) &&& (3 : Int32))), .val (.int (-1 : Int32))] []))
    refine OEnds.pre (fun t k => XS.iload H2.here hx rfl (hb hby d9_42) rfl k) ?_
    show OEnds p e below s _ _ _ (T2.setTop (mkF m 44 #[.val (.ref u0), .val (.int u1), .val (.int u2), .val (.int ((y - x) &&& (3 : Int32))), .val (.int (-1 : Int32))] [(.int (-1 : Int32))]))
    exact H2.int hx Bd.notSynchronized Bd.returns (hb hby d9_44) (by decide) (by decide) (fun h L W N => ⟨N, _, ⟨congrArg (fun q => some (Value.int q)) (by unfold fturn; rw [if_pos c1]), rfl⟩, W⟩)
  · refine OEnds.pre (fun t k => XS.icmpYes H2.here hx rfl (pc0 := 18) (pc' := 27) rfl (hb hby d9_18) rfl (XT.ii_ne_t c1) (by decide) (by decide) k) ?_
    show OEnds p e below s _ _ _ (T2.setTop (mkF m 27 #[.val (.ref u0), .val (.int u1), .val (.int u2), .val (.int ((y - x) &&& (3 : Int32))), .unset] []))
    refine OEnds.pre (fun t k => XS.iloadN H2.here hx rfl (hb hby d9_27) rfl k) ?_
    show OEnds p e below s _ _ _ (T2.setTop (mkF m 28 #[.val (.ref u0), .val (.int u1), .val (.int u2), .val (.int ((y - x) &&& (3 : Int32))), .unset] [(.int ((y - x) &&& (3 : Int32)))]))
    refine OEnds.pre (fun t k => XT.iconstV H2.here hx rfl (2 : Int32) (hb hby d9_28) rfl k) ?_
    show OEnds p e below s _ _ _ (T2.setTop (mkF m 29 #[.val (.ref u0), .val (.int u1), .val (.int u2), .val (.int ((y - x) &&& (3 : Int32))), .unset] [(.int (2 : Int32)), (.int ((y - x) &&& (3 : Int32)))]))
    by_cases c2 : ((y - x) &&& (3 : Int32)) = (2 : Int32)
    · refine OEnds.pre (fun t k => XS.icmpNo H2.here hx rfl (hb hby d9_29) rfl (XT.ii_ne_f c2) k) ?_
      show OEnds p e below s _ _ _ (T2.setTop (mkF m 32 #[.val (.ref u0), .val (.int u1), .val (.int u2), .val (.int ((y - x) &&& (3 : Int32))), .unset] []))
      refine OEnds.pre (fun t k => XT.bipushV H2.here hx rfl (-2 : Int32) (hb hby d9_32) rfl k) ?_
      show OEnds p e below s _ _ _ (T2.setTop (mkF m 34 #[.val (.ref u0), .val (.int u1), .val (.int u2), .val (.int ((y - x) &&& (3 : Int32))), .unset] [(.int (-2 : Int32))]))
      refine OEnds.pre (fun t k => XS.istore H2.here hx rfl (hb hby d9_34) rfl (l' := #[.val (.ref u0), .val (.int u1), .val (.int u2), .val (.int ((y - x) &&& (3 : Int32))), .val (.int (-2 : Int32))]) rfl k) ?_
      show OEnds p e below s _ _ _ (T2.setTop (mkF m 36 #[.val (.ref u0), .val (.int u1), .val (.int u2), .val (.int ((y - x) &&& (3 : Int32))), .val (.int (-2 : Int32))] []))
      refine OEnds.pre (fun t k => XS.goto H2.here hx rfl (pc0 := 36) (pc' := 42) rfl (hb hby d9_36) (by decide) (by decide) k) ?_
      show OEnds p e below s _ _ _ (T2.setTop (mkF m 42 #[.val (.ref u0), .val (.int u1), .val (.int u2), .val (.int ((y - x) &&& (3 : Int32))), .val (.int (-2 : Int32))] []))
      refine OEnds.pre (fun t k => XS.iload H2.here hx rfl (hb hby d9_42) rfl k) ?_
      show OEnds p e below s _ _ _ (T2.setTop (mkF m 44 #[.val (.ref u0), .val (.int u1), .val (.int u2), .val (.int ((y - x) &&& (3 : Int32))), .val (.int (-2 : Int32))] [(.int (-2 : Int32))]))
      exact H2.int hx Bd.notSynchronized Bd.returns (hb hby d9_44) (by decide) (by decide) (fun h L W N => ⟨N, _, ⟨congrArg (fun q => some (Value.int q)) (by unfold fturn; rw [if_neg c1, if_pos c2]), rfl⟩, W⟩)
    · refine OEnds.pre (fun t k => XS.icmpYes H2.here hx rfl (pc0 := 29) (pc' := 39) rfl (hb hby d9_29) rfl (XT.ii_ne_t c2) (by decide) (by decide) k) ?_
      show OEnds p e below s _ _ _ (T2.setTop (mkF m 39 #[.val (.ref u0), .val (.int u1), .val (.int u2), .val (.int ((y - x) &&& (3 : Int32))), .unset] []))
      refine OEnds.pre (fun t k => XS.iloadN H2.here hx rfl (hb hby d9_39) rfl k) ?_
      show OEnds p e below s _ _ _ (T2.setTop (mkF m 40 #[.val (.ref u0), .val (.int u1), .val (.int u2), .val (.int ((y - x) &&& (3 : Int32))), .unset] [(.int ((y - x) &&& (3 : Int32)))]))
      refine OEnds.pre (fun t k => XS.istore H2.here hx rfl (hb hby d9_40) rfl (l' := #[.val (.ref u0), .val (.int u1), .val (.int u2), .val (.int ((y - x) &&& (3 : Int32))), .val (.int ((y - x) &&& (3 : Int32)))]) rfl k) ?_
      show OEnds p e below s _ _ _ (T2.setTop (mkF m 42 #[.val (.ref u0), .val (.int u1), .val (.int u2), .val (.int ((y - x) &&& (3 : Int32))), .val (.int ((y - x) &&& (3 : Int32)))] []))
      refine OEnds.pre (fun t k => XS.iload H2.here hx rfl (hb hby d9_42) rfl k) ?_
      show OEnds p e below s _ _ _ (T2.setTop (mkF m 44 #[.val (.ref u0), .val (.int u1), .val (.int u2), .val (.int ((y - x) &&& (3 : Int32))), .val (.int ((y - x) &&& (3 : Int32)))] [(.int ((y - x) &&& (3 : Int32)))]))
      exact H2.int hx Bd.notSynchronized Bd.returns (hb hby d9_44) (by decide) (by decide) (fun h L W N => ⟨N, _, ⟨congrArg (fun q => some (Value.int q)) (by unfold fturn; rw [if_neg c1, if_neg c2]), rfl⟩, W⟩)
theorem pn_0 : plainFor x = true := by first | exact plainFor_of_name (by first | (simp [plainName, overriddenIn]; done) | decide +kernel) | decide +kernel
theorem ef_0 (m : MethodId) (x0 : Int32) (x1 : Int32) (x2 : Int32) (x3 : Int32) : entryFrame m #[(.int x0), (.int x1), (.int x2), (.int x3)] maxLocals = mkF m 0 #[.val (.int x0), .val (.int x1), .val (.int x2), .val (.int x3), .unset, .unset, .unset, .unset, .unset, .unset, .unset, .unset] [] := by first | (simp [entryFrame, mkF, argsToLocals, Value.category, maxLocals]; done) | rfl
set_option maxRecDepth 65536 in
set_option maxHeartbeats 40000000 in
theorem con0 (l : Launch) (Z : State) (a0 : Array Value) (hw : ∀ d ∈ tables_1, d.before a0 Z = true) (n0 : Nat) (ws : List Jvm.Cond) (u0 : Int32) (u1 : Int32) (u2 : Int32) (u3 : Int32)  :
    OCon l Z n0 x code maxLocals ret ws room_1 #[(.int u0), (.int u1), (.int u2), (.int u3)] [] (fun v' es' => v' = some (.int 1) ∧ es' = []) := by
  intro h0 hW0
  refine MetFree.of_bodySF pn_0 hisR ?_
  intro p e s m args below meth c s₁ Bd hml0 hP hK
  obtain ⟨rfl, hZ, hh⟩ := hP
  have hx := Bd.exec
  have hby := Bd.bytes
  have hml : c.maxLocals = 12 := hml0
  have hown : s.vm.findClass "com/example/orderly_slopes/orderlyslopes/layout/OrthogonalGraphTurnPinLaw" = some m.cls := findClass_of_methodNamed Bd.named
  have hnm := (name_of_methodNamed Bd.named Bd.method).1
  have H0 : OHere p l e room_1 s m #[(.int u0), (.int u1), (.int u2), (.int u3)] below meth c Z n0 s₁ 0 0 [] := ⟨[], Stand.of_body Bd, by rw [show s₁.heap = h0 from by rw [← hh, Bd.state]; rfl]; exact hW0, Fr.nil _⟩
  show OEnds p e below s _ _ (fun v' h' L => Fr n0 L ∧ ∃ es', (fun v' es' => v' = some (.int 1) ∧ es' = []) v' es' ∧ OWorld Z n0 h' es') _
  refine OEnds.pre (fun t k => castTop (ef_0 m u0 u1 u2 u3) k) ?_
  show OEnds p e below s _ _ _ (s₁.setTop (mkF m 0 #[.val (.int u0), .val (.int u1), .val (.int u2), .val (.int u3), .unset, .unset, .unset, .unset, .unset, .unset, .unset, .unset] []))
  refine OEnds.pre (fun t k => XS.iloadN H0.here hx rfl (hb hby at_0) rfl k) ?_
  show OEnds p e below s _ _ _ (s₁.setTop (mkF m 1 #[.val (.int u0), .val (.int u1), .val (.int u2), .val (.int u3), .unset, .unset, .unset, .unset, .unset, .unset, .unset, .unset] [(.int u0)]))
  refine OEnds.pre (fun t k => XT.iconstV H0.here hx rfl (3 : Int32) (hb hby at_1) rfl k) ?_
  show OEnds p e below s _ _ _ (s₁.setTop (mkF m 2 #[.val (.int u0), .val (.int u1), .val (.int u2), .val (.int u3), .unset, .unset, .unset, .unset, .unset, .unset, .unset, .unset] [(.int (3 : Int32)), (.int u0)]))
  refine OEnds.pre (fun t k => XS.iand H0.here hx rfl (hb hby at_2) rfl k) ?_
  show OEnds p e below s _ _ _ (s₁.setTop (mkF m 3 #[.val (.int u0), .val (.int u1), .val (.int u2), .val (.int u3), .unset, .unset, .unset, .unset, .unset, .unset, .unset, .unset] [(.int (u0 &&& (3 : Int32)))]))
  refine OEnds.pre (fun t k => XS.istore H0.here hx rfl (hb hby at_3) rfl (l' := #[.val (.int u0), .val (.int u1), .val (.int u2), .val (.int u3), .val (.int (u0 &&& (3 : Int32))), .unset, .unset, .unset, .unset, .unset, .unset, .unset]) rfl k) ?_
  show OEnds p e below s _ _ _ (s₁.setTop (mkF m 5 #[.val (.int u0), .val (.int u1), .val (.int u2), .val (.int u3), .val (.int (u0 &&& (3 : Int32))), .unset, .unset, .unset, .unset, .unset, .unset, .unset] []))
  refine OEnds.pre (fun t k => XS.iloadN H0.here hx rfl (hb hby at_5) rfl k) ?_
  show OEnds p e below s _ _ _ (s₁.setTop (mkF m 6 #[.val (.int u0), .val (.int u1), .val (.int u2), .val (.int u3), .val (.int (u0 &&& (3 : Int32))), .unset, .unset, .unset, .unset, .unset, .unset, .unset] [(.int u1)]))
  refine OEnds.pre (fun t k => XT.iconstV H0.here hx rfl (3 : Int32) (hb hby at_6) rfl k) ?_
  show OEnds p e below s _ _ _ (s₁.setTop (mkF m 7 #[.val (.int u0), .val (.int u1), .val (.int u2), .val (.int u3), .val (.int (u0 &&& (3 : Int32))), .unset, .unset, .unset, .unset, .unset, .unset, .unset] [(.int (3 : Int32)), (.int u1)]))
  refine OEnds.pre (fun t k => XS.iand H0.here hx rfl (hb hby at_7) rfl k) ?_
  show OEnds p e below s _ _ _ (s₁.setTop (mkF m 8 #[.val (.int u0), .val (.int u1), .val (.int u2), .val (.int u3), .val (.int (u0 &&& (3 : Int32))), .unset, .unset, .unset, .unset, .unset, .unset, .unset] [(.int (u1 &&& (3 : Int32)))]))
  refine OEnds.pre (fun t k => XS.istore H0.here hx rfl (hb hby at_8) rfl (l' := #[.val (.int u0), .val (.int u1), .val (.int u2), .val (.int u3), .val (.int (u0 &&& (3 : Int32))), .val (.int (u1 &&& (3 : Int32))), .unset, .unset, .unset, .unset, .unset, .unset]) rfl k) ?_
  show OEnds p e below s _ _ _ (s₁.setTop (mkF m 10 #[.val (.int u0), .val (.int u1), .val (.int u2), .val (.int u3), .val (.int (u0 &&& (3 : Int32))), .val (.int (u1 &&& (3 : Int32))), .unset, .unset, .unset, .unset, .unset, .unset] []))
  refine OEnds.pre (fun t k => XS.iloadN H0.here hx rfl (hb hby at_10) rfl k) ?_
  show OEnds p e below s _ _ _ (s₁.setTop (mkF m 11 #[.val (.int u0), .val (.int u1), .val (.int u2), .val (.int u3), .val (.int (u0 &&& (3 : Int32))), .val (.int (u1 &&& (3 : Int32))), .unset, .unset, .unset, .unset, .unset, .unset] [(.int u2)]))
  refine OEnds.pre (fun t k => XT.iconstV H0.here hx rfl (3 : Int32) (hb hby at_11) rfl k) ?_
  show OEnds p e below s _ _ _ (s₁.setTop (mkF m 12 #[.val (.int u0), .val (.int u1), .val (.int u2), .val (.int u3), .val (.int (u0 &&& (3 : Int32))), .val (.int (u1 &&& (3 : Int32))), .unset, .unset, .unset, .unset, .unset, .unset] [(.int (3 : Int32)), (.int u2)]))
  refine OEnds.pre (fun t k => XS.iand H0.here hx rfl (hb hby at_12) rfl k) ?_
  show OEnds p e below s _ _ _ (s₁.setTop (mkF m 13 #[.val (.int u0), .val (.int u1), .val (.int u2), .val (.int u3), .val (.int (u0 &&& (3 : Int32))), .val (.int (u1 &&& (3 : Int32))), .unset, .unset, .unset, .unset, .unset, .unset] [(.int (u2 &&& (3 : Int32)))]))
  refine OEnds.pre (fun t k => XS.istore H0.here hx rfl (hb hby at_13) rfl (l' := #[.val (.int u0), .val (.int u1), .val (.int u2), .val (.int u3), .val (.int (u0 &&& (3 : Int32))), .val (.int (u1 &&& (3 : Int32))), .val (.int (u2 &&& (3 : Int32))), .unset, .unset, .unset, .unset, .unset]) rfl k) ?_
  show OEnds p e below s _ _ _ (s₁.setTop (mkF m 15 #[.val (.int u0), .val (.int u1), .val (.int u2), .val (.int u3), .val (.int (u0 &&& (3 : Int32))), .val (.int (u1 &&& (3 : Int32))), .val (.int (u2 &&& (3 : Int32))), .unset, .unset, .unset, .unset, .unset] []))
  refine OEnds.pre (fun t k => XS.iloadN H0.here hx rfl (hb hby at_15) rfl k) ?_
  show OEnds p e below s _ _ _ (s₁.setTop (mkF m 16 #[.val (.int u0), .val (.int u1), .val (.int u2), .val (.int u3), .val (.int (u0 &&& (3 : Int32))), .val (.int (u1 &&& (3 : Int32))), .val (.int (u2 &&& (3 : Int32))), .unset, .unset, .unset, .unset, .unset] [(.int u3)]))
  refine OEnds.pre (fun t k => XT.iconstV H0.here hx rfl (3 : Int32) (hb hby at_16) rfl k) ?_
  show OEnds p e below s _ _ _ (s₁.setTop (mkF m 17 #[.val (.int u0), .val (.int u1), .val (.int u2), .val (.int u3), .val (.int (u0 &&& (3 : Int32))), .val (.int (u1 &&& (3 : Int32))), .val (.int (u2 &&& (3 : Int32))), .unset, .unset, .unset, .unset, .unset] [(.int (3 : Int32)), (.int u3)]))
  refine OEnds.pre (fun t k => XS.iand H0.here hx rfl (hb hby at_17) rfl k) ?_
  show OEnds p e below s _ _ _ (s₁.setTop (mkF m 18 #[.val (.int u0), .val (.int u1), .val (.int u2), .val (.int u3), .val (.int (u0 &&& (3 : Int32))), .val (.int (u1 &&& (3 : Int32))), .val (.int (u2 &&& (3 : Int32))), .unset, .unset, .unset, .unset, .unset] [(.int (u3 &&& (3 : Int32)))]))
  refine OEnds.pre (fun t k => XS.istore H0.here hx rfl (hb hby at_18) rfl (l' := #[.val (.int u0), .val (.int u1), .val (.int u2), .val (.int u3), .val (.int (u0 &&& (3 : Int32))), .val (.int (u1 &&& (3 : Int32))), .val (.int (u2 &&& (3 : Int32))), .val (.int (u3 &&& (3 : Int32))), .unset, .unset, .unset, .unset]) rfl k) ?_
  show OEnds p e below s _ _ _ (s₁.setTop (mkF m 20 #[.val (.int u0), .val (.int u1), .val (.int u2), .val (.int u3), .val (.int (u0 &&& (3 : Int32))), .val (.int (u1 &&& (3 : Int32))), .val (.int (u2 &&& (3 : Int32))), .val (.int (u3 &&& (3 : Int32))), .unset, .unset, .unset, .unset] []))
  obtain ⟨T2, b1, H2, st2⟩ := OHere.new H0 hx hZ (pc := 20) (Ls := #[.val (.int u0), .val (.int u1), .val (.int u2), .val (.int u3), .val (.int (u0 &&& (3 : Int32))), .val (.int (u1 &&& (3 : Int32))), .val (.int (u2 &&& (3 : Int32))), .val (.int (u3 &&& (3 : Int32))), .unset, .unset, .unset, .unset]) (rest := []) hown (hw _ (List.mem_of_getElem? (i := 0) rfl)) (hw _ (List.mem_of_getElem? (i := 1) rfl)) (hw _ (List.mem_of_getElem? (i := 2) rfl)) [("com/example/orderly_slopes/orderlyslopes/layout/OrthogonalGraph", "ports", "[I", .null), ("com/example/orderly_slopes/orderlyslopes/layout/OrthogonalGraph", "vertexCount", "I", (.int 0)), ("com/example/orderly_slopes/orderlyslopes/layout/OrthogonalGraph", "origins", "[I", .null), ("com/example/orderly_slopes/orderlyslopes/layout/OrthogonalGraph", "directions", "[B", .null), ("com/example/orderly_slopes/orderlyslopes/layout/OrthogonalGraph", "edgeCount", "I", (.int 0))] ⟨⟨Or.inl (hw _ (List.mem_of_getElem? (i := 15) rfl)), (.array .int), by decide, rfl⟩, ⟨Or.inl (hw _ (List.mem_of_getElem? (i := 21) rfl)), .int, by decide, rfl⟩, ⟨Or.inl (hw _ (List.mem_of_getElem? (i := 23) rfl)), (.array .int), by decide, rfl⟩, ⟨Or.inl (hw _ (List.mem_of_getElem? (i := 26) rfl)), (.array .byte), by decide, rfl⟩, ⟨Or.inl (hw _ (List.mem_of_getElem? (i := 38) rfl)), .int, by decide, rfl⟩, trivial⟩ (by first | decide | simp) (hb hby at_20) (by decide) (by decide)
  replace H2 : OHere p l e _ s m _ below meth c Z n0 T2 1 5 [(eO b1 "com/example/orderly_slopes/orderlyslopes/layout/OrthogonalGraph" [("com/example/orderly_slopes/orderlyslopes/layout/OrthogonalGraph", "ports", "[I", .null), ("com/example/orderly_slopes/orderlyslopes/layout/OrthogonalGraph", "vertexCount", "I", (.int 0)), ("com/example/orderly_slopes/orderlyslopes/layout/OrthogonalGraph", "origins", "[I", .null), ("com/example/orderly_slopes/orderlyslopes/layout/OrthogonalGraph", "directions", "[B", .null), ("com/example/orderly_slopes/orderlyslopes/layout/OrthogonalGraph", "edgeCount", "I", (.int 0))])] := H2
  refine OEnds.pre (fun t k => st2 _ k) ?_
  show OEnds p e below s _ _ _ (T2.setTop (mkF m 23 #[.val (.int u0), .val (.int u1), .val (.int u2), .val (.int u3), .val (.int (u0 &&& (3 : Int32))), .val (.int (u1 &&& (3 : Int32))), .val (.int (u2 &&& (3 : Int32))), .val (.int (u3 &&& (3 : Int32))), .unset, .unset, .unset, .unset] [(.ref b1)]))
  refine OEnds.pre (fun t k => XS.dup H2.here hx rfl (hb hby at_23) rfl rfl k) ?_
  show OEnds p e below s _ _ _ (T2.setTop (mkF m 24 #[.val (.int u0), .val (.int u1), .val (.int u2), .val (.int u3), .val (.int (u0 &&& (3 : Int32))), .val (.int (u1 &&& (3 : Int32))), .val (.int (u2 &&& (3 : Int32))), .val (.int (u3 &&& (3 : Int32))), .unset, .unset, .unset, .unset] [(.ref b1), (.ref b1)]))
  refine OEnds.pre (fun t k => XT.iconstV H2.here hx rfl (4 : Int32) (hb hby at_24) rfl k) ?_
  show OEnds p e below s _ _ _ (T2.setTop (mkF m 25 #[.val (.int u0), .val (.int u1), .val (.int u2), .val (.int u3), .val (.int (u0 &&& (3 : Int32))), .val (.int (u1 &&& (3 : Int32))), .val (.int (u2 &&& (3 : Int32))), .val (.int (u3 &&& (3 : Int32))), .unset, .unset, .unset, .unset] [(.int (4 : Int32)), (.ref b1), (.ref b1)]))
  refine OEnds.pre (fun t k => XT.iconstV H2.here hx rfl (2 : Int32) (hb hby at_25) rfl k) ?_
  show OEnds p e below s _ _ _ (T2.setTop (mkF m 26 #[.val (.int u0), .val (.int u1), .val (.int u2), .val (.int u3), .val (.int (u0 &&& (3 : Int32))), .val (.int (u1 &&& (3 : Int32))), .val (.int (u2 &&& (3 : Int32))), .val (.int (u3 &&& (3 : Int32))), .unset, .unset, .unset, .unset] [(.int (2 : Int32)), (.int (4 : Int32)), (.ref b1), (.ref b1)]))
  obtain ⟨T4, _, _, ⟨bp3, bo3, bd3, rfl, rfl⟩, H4, st4⟩ := OHere.special H2 hx hZ (y := (⟨"com/example/orderly_slopes/orderlyslopes/layout/OrthogonalGraph", "<init>", "(II)V"⟩ : MethodName)) rfl (W := 1) (a := b1) hown (hw _ (List.mem_of_getElem? (i := 3) rfl)) (hw _ (List.mem_of_getElem? (i := 4) rfl)) (hw _ (List.mem_of_getElem? (i := 2) rfl)) (hw _ (List.mem_of_getElem? (i := 5) rfl)) (by decide) (con1 l Z a0 hw n0 [] b1) (by decide) (by decide) (pc := 26) (Ls := #[.val (.int u0), .val (.int u1), .val (.int u2), .val (.int u3), .val (.int (u0 &&& (3 : Int32))), .val (.int (u1 &&& (3 : Int32))), .val (.int (u2 &&& (3 : Int32))), .val (.int (u3 &&& (3 : Int32))), .unset, .unset, .unset, .unset]) (argsL := [(.int (4 : Int32)), (.int (2 : Int32))]) (rest := [(.ref b1)]) (by rw [hml]; rfl) (lenOf pd_oIIcV rfl) rfl (Nat.le_of_eq rfl) (hb hby at_26) (by decide) (by decide)
  replace H4 : OHere p l e _ s m _ below meth c Z n0 T4 4 29 [(eO b1 "com/example/orderly_slopes/orderlyslopes/layout/OrthogonalGraph" [("com/example/orderly_slopes/orderlyslopes/layout/OrthogonalGraph", "ports", "[I", (.ref bp3)), ("com/example/orderly_slopes/orderlyslopes/layout/OrthogonalGraph", "vertexCount", "I", (.int (4 : Int32))), ("com/example/orderly_slopes/orderlyslopes/layout/OrthogonalGraph", "origins", "[I", (.ref bo3)), ("com/example/orderly_slopes/orderlyslopes/layout/OrthogonalGraph", "directions", "[B", (.ref bd3)), ("com/example/orderly_slopes/orderlyslopes/layout/OrthogonalGraph", "edgeCount", "I", (.int 0))]), (eA bp3 .int [.int (-1), .int (-1), .int (-1), .int (-1), .int (-1), .int (-1), .int (-1), .int (-1), .int (-1), .int (-1), .int (-1), .int (-1), .int (-1), .int (-1), .int (-1), .int (-1)]), (eA bo3 .int [(.int 0), (.int 0), (.int 0), (.int 0)]), (eA bd3 .byte [(.int 0), (.int 0), (.int 0), (.int 0)])] := H4
  refine OEnds.pre (fun t k => st4 _ k) ?_
  show OEnds p e below s _ _ _ (T4.setTop (mkF m 29 #[.val (.int u0), .val (.int u1), .val (.int u2), .val (.int u3), .val (.int (u0 &&& (3 : Int32))), .val (.int (u1 &&& (3 : Int32))), .val (.int (u2 &&& (3 : Int32))), .val (.int (u3 &&& (3 : Int32))), .unset, .unset, .unset, .unset] [(.ref b1)]))
  refine OEnds.pre (fun t k => XS.astore H4.here hx rfl (hb hby at_29) rfl rfl (l' := #[.val (.int u0), .val (.int u1), .val (.int u2), .val (.int u3), .val (.int (u0 &&& (3 : Int32))), .val (.int (u1 &&& (3 : Int32))), .val (.int (u2 &&& (3 : Int32))), .val (.int (u3 &&& (3 : Int32))), .val (.ref b1), .unset, .unset, .unset]) rfl k) ?_
  show OEnds p e below s _ _ _ (T4.setTop (mkF m 31 #[.val (.int u0), .val (.int u1), .val (.int u2), .val (.int u3), .val (.int (u0 &&& (3 : Int32))), .val (.int (u1 &&& (3 : Int32))), .val (.int (u2 &&& (3 : Int32))), .val (.int (u3 &&& (3 : Int32))), .val (.ref b1), .unset, .unset, .unset] []))
  refine OEnds.pre (fun t k => XS.aload H4.here hx rfl (hb hby at_31) rfl rfl k) ?_
  show OEnds p e below s _ _ _ (T4.setTop (mkF m 33 #[.val (.int u0), .val (.int u1), .val (.int u2), .val (.int u3), .val (.int (u0 &&& (3 : Int32))), .val (.int (u1 &&& (3 : Int32))), .val (.int (u2 &&& (3 : Int32))), .val (.int (u3 &&& (3 : Int32))), .val (.ref b1), .unset, .unset, .unset] [(.ref b1)]))
  refine OEnds.pre (fun t k => XT.iconstV H4.here hx rfl (0 : Int32) (hb hby at_33) rfl k) ?_
  show OEnds p e below s _ _ _ (T4.setTop (mkF m 34 #[.val (.int u0), .val (.int u1), .val (.int u2), .val (.int u3), .val (.int (u0 &&& (3 : Int32))), .val (.int (u1 &&& (3 : Int32))), .val (.int (u2 &&& (3 : Int32))), .val (.int (u3 &&& (3 : Int32))), .val (.ref b1), .unset, .unset, .unset] [(.int (0 : Int32)), (.ref b1)]))
  refine OEnds.pre (fun t k => XT.iconstV H4.here hx rfl (1 : Int32) (hb hby at_34) rfl k) ?_
  show OEnds p e below s _ _ _ (T4.setTop (mkF m 35 #[.val (.int u0), .val (.int u1), .val (.int u2), .val (.int u3), .val (.int (u0 &&& (3 : Int32))), .val (.int (u1 &&& (3 : Int32))), .val (.int (u2 &&& (3 : Int32))), .val (.int (u3 &&& (3 : Int32))), .val (.ref b1), .unset, .unset, .unset] [(.int (1 : Int32)), (.int (0 : Int32)), (.ref b1)]))
  refine OEnds.pre (fun t k => XS.iload H4.here hx rfl (hb hby at_35) rfl k) ?_
  show OEnds p e below s _ _ _ (T4.setTop (mkF m 37 #[.val (.int u0), .val (.int u1), .val (.int u2), .val (.int u3), .val (.int (u0 &&& (3 : Int32))), .val (.int (u1 &&& (3 : Int32))), .val (.int (u2 &&& (3 : Int32))), .val (.int (u3 &&& (3 : Int32))), .val (.ref b1), .unset, .unset, .unset] [(.int (u0 &&& (3 : Int32))), (.int (1 : Int32)), (.int (0 : Int32)), (.ref b1)]))
  obtain ⟨T5, _, _, ⟨rfl, rfl⟩, H5, st5⟩ := OHere.virtual H4 hx hZ (y := (⟨"com/example/orderly_slopes/orderlyslopes/layout/OrthogonalGraph", "addEdge", "(III)I"⟩ : MethodName)) (z := (⟨"com/example/orderly_slopes/orderlyslopes/layout/OrthogonalGraph", "addEdge", "(III)I"⟩ : MethodName)) (P := _) (W := 0) (a := b1) (q := 0) (fs := [("com/example/orderly_slopes/orderlyslopes/layout/OrthogonalGraph", "ports", "[I", (.ref bp3)), ("com/example/orderly_slopes/orderlyslopes/layout/OrthogonalGraph", "vertexCount", "I", (.int (4 : Int32))), ("com/example/orderly_slopes/orderlyslopes/layout/OrthogonalGraph", "origins", "[I", (.ref bo3)), ("com/example/orderly_slopes/orderlyslopes/layout/OrthogonalGraph", "directions", "[B", (.ref bd3)), ("com/example/orderly_slopes/orderlyslopes/layout/OrthogonalGraph", "edgeCount", "I", (.int 0))]) hown (hw _ (List.mem_of_getElem? (i := 27) rfl)) (hw _ (List.mem_of_getElem? (i := 28) rfl)) (nf_sel (hw _ (List.mem_of_getElem? (i := 30) rfl)) rfl) (hw _ (List.mem_of_getElem? (i := 30) rfl)) (hw _ (List.mem_of_getElem? (i := 29) rfl)) (hw _ (List.mem_of_getElem? (i := 2) rfl)) (hw _ (List.mem_of_getElem? (i := 31) rfl)) (by decide) rfl (con5_0 l Z a0 hw n0 [] b1 (u0 &&& (3 : Int32)) bp3 bo3 bd3 [.int (-1), .int (-1), .int (-1), .int (-1), .int (-1), .int (-1), .int (-1), .int (-1), .int (-1), .int (-1), .int (-1), .int (-1), .int (-1), .int (-1), .int (-1), .int (-1)] (rng4_and _) (blk16 0 (by decide)) (blk16 1 (by decide))) (by decide) (by decide) (pc := 37) (Ls := #[.val (.int u0), .val (.int u1), .val (.int u2), .val (.int u3), .val (.int (u0 &&& (3 : Int32))), .val (.int (u1 &&& (3 : Int32))), .val (.int (u2 &&& (3 : Int32))), .val (.int (u3 &&& (3 : Int32))), .val (.ref b1), .unset, .unset, .unset]) (argsL := [(.int (0 : Int32)), (.int (1 : Int32)), (.int (u0 &&& (3 : Int32)))]) (rest := []) (by rw [hml]; rfl) (lenOf pd_oIIIcI rfl) rfl (Nat.le_of_eq rfl) (hb hby at_37) (by decide) (by decide)
  replace H5 : OHere p l e _ s m _ below meth c Z n0 T5 4 29 [(eO b1 "com/example/orderly_slopes/orderlyslopes/layout/OrthogonalGraph" [("com/example/orderly_slopes/orderlyslopes/layout/OrthogonalGraph", "ports", "[I", (.ref bp3)), ("com/example/orderly_slopes/orderlyslopes/layout/OrthogonalGraph", "vertexCount", "I", (.int (4 : Int32))), ("com/example/orderly_slopes/orderlyslopes/layout/OrthogonalGraph", "origins", "[I", (.ref bo3)), ("com/example/orderly_slopes/orderlyslopes/layout/OrthogonalGraph", "directions", "[B", (.ref bd3)), ("com/example/orderly_slopes/orderlyslopes/layout/OrthogonalGraph", "edgeCount", "I", (.int (1 : Int32)))]), (eA bp3 .int (([.int (-1), .int (-1), .int (-1), .int (-1), .int (-1), .int (-1), .int (-1), .int (-1), .int (-1), .int (-1), .int (-1), .int (-1), .int (-1), .int (-1), .int (-1), .int (-1)].set (pIx 0 (u0 &&& (3 : Int32))) (.int (0 : Int32))).set (pIx 1 ((u0 &&& (3 : Int32)) ^^^ (2 : Int32))) (.int (1 : Int32)))), (eA bo3 .int [(.int (0 : Int32)), (.int (1 : Int32)), (.int 0), (.int 0)]), (eA bd3 .byte [(.int (nar .byte (nar .byte (u0 &&& (3 : Int32))))), (.int (nar .byte (nar .byte ((u0 &&& (3 : Int32)) ^^^ (2 : Int32))))), (.int 0), (.int 0)])] := H5
  refine OEnds.pre (fun t k => st5 _ k) ?_
  show OEnds p e below s _ _ _ (T5.setTop (mkF m 40 #[.val (.int u0), .val (.int u1), .val (.int u2), .val (.int u3), .val (.int (u0 &&& (3 : Int32))), .val (.int (u1 &&& (3 : Int32))), .val (.int (u2 &&& (3 : Int32))), .val (.int (u3 &&& (3 : Int32))), .val (.ref b1), .unset, .unset, .unset] [(.int (0 : Int32))]))
  refine OEnds.pre (fun t k => XT.pop H5.here hx rfl (hb hby at_40) rfl rfl k) ?_
  show OEnds p e below s _ _ _ (T5.setTop (mkF m 41 #[.val (.int u0), .val (.int u1), .val (.int u2), .val (.int u3), .val (.int (u0 &&& (3 : Int32))), .val (.int (u1 &&& (3 : Int32))), .val (.int (u2 &&& (3 : Int32))), .val (.int (u3 &&& (3 : Int32))), .val (.ref b1), .unset, .unset, .unset] []))
  refine OEnds.pre (fun t k => XS.aload H5.here hx rfl (hb hby at_41) rfl rfl k) ?_
  show OEnds p e below s _ _ _ (T5.setTop (mkF m 43 #[.val (.int u0), .val (.int u1), .val (.int u2), .val (.int u3), .val (.int (u0 &&& (3 : Int32))), .val (.int (u1 &&& (3 : Int32))), .val (.int (u2 &&& (3 : Int32))), .val (.int (u3 &&& (3 : Int32))), .val (.ref b1), .unset, .unset, .unset] [(.ref b1)]))
  refine OEnds.pre (fun t k => XT.iconstV H5.here hx rfl (2 : Int32) (hb hby at_43) rfl k) ?_
  show OEnds p e below s _ _ _ (T5.setTop (mkF m 44 #[.val (.int u0), .val (.int u1), .val (.int u2), .val (.int u3), .val (.int (u0 &&& (3 : Int32))), .val (.int (u1 &&& (3 : Int32))), .val (.int (u2 &&& (3 : Int32))), .val (.int (u3 &&& (3 : Int32))), .val (.ref b1), .unset, .unset, .unset] [(.int (2 : Int32)), (.ref b1)]))
  refine OEnds.pre (fun t k => XT.iconstV H5.here hx rfl (3 : Int32) (hb hby at_44) rfl k) ?_
  show OEnds p e below s _ _ _ (T5.setTop (mkF m 45 #[.val (.int u0), .val (.int u1), .val (.int u2), .val (.int u3), .val (.int (u0 &&& (3 : Int32))), .val (.int (u1 &&& (3 : Int32))), .val (.int (u2 &&& (3 : Int32))), .val (.int (u3 &&& (3 : Int32))), .val (.ref b1), .unset, .unset, .unset] [(.int (3 : Int32)), (.int (2 : Int32)), (.ref b1)]))
  refine OEnds.pre (fun t k => XS.iload H5.here hx rfl (hb hby at_45) rfl k) ?_
  show OEnds p e below s _ _ _ (T5.setTop (mkF m 47 #[.val (.int u0), .val (.int u1), .val (.int u2), .val (.int u3), .val (.int (u0 &&& (3 : Int32))), .val (.int (u1 &&& (3 : Int32))), .val (.int (u2 &&& (3 : Int32))), .val (.int (u3 &&& (3 : Int32))), .val (.ref b1), .unset, .unset, .unset] [(.int (u1 &&& (3 : Int32))), (.int (3 : Int32)), (.int (2 : Int32)), (.ref b1)]))
  obtain ⟨T6, _, _, ⟨rfl, rfl⟩, H6, st6⟩ := OHere.virtual H5 hx hZ (y := (⟨"com/example/orderly_slopes/orderlyslopes/layout/OrthogonalGraph", "addEdge", "(III)I"⟩ : MethodName)) (z := (⟨"com/example/orderly_slopes/orderlyslopes/layout/OrthogonalGraph", "addEdge", "(III)I"⟩ : MethodName)) (P := _) (W := 0) (a := b1) (q := 0) (fs := [("com/example/orderly_slopes/orderlyslopes/layout/OrthogonalGraph", "ports", "[I", (.ref bp3)), ("com/example/orderly_slopes/orderlyslopes/layout/OrthogonalGraph", "vertexCount", "I", (.int (4 : Int32))), ("com/example/orderly_slopes/orderlyslopes/layout/OrthogonalGraph", "origins", "[I", (.ref bo3)), ("com/example/orderly_slopes/orderlyslopes/layout/OrthogonalGraph", "directions", "[B", (.ref bd3)), ("com/example/orderly_slopes/orderlyslopes/layout/OrthogonalGraph", "edgeCount", "I", (.int (1 : Int32)))]) hown (hw _ (List.mem_of_getElem? (i := 27) rfl)) (hw _ (List.mem_of_getElem? (i := 28) rfl)) (nf_sel (hw _ (List.mem_of_getElem? (i := 30) rfl)) rfl) (hw _ (List.mem_of_getElem? (i := 30) rfl)) (hw _ (List.mem_of_getElem? (i := 29) rfl)) (hw _ (List.mem_of_getElem? (i := 2) rfl)) (hw _ (List.mem_of_getElem? (i := 31) rfl)) (by decide) rfl (con5_1 l Z a0 hw n0 [] b1 (u1 &&& (3 : Int32)) bp3 bo3 bd3 (([.int (-1), .int (-1), .int (-1), .int (-1), .int (-1), .int (-1), .int (-1), .int (-1), .int (-1), .int (-1), .int (-1), .int (-1), .int (-1), .int (-1), .int (-1), .int (-1)].set (pIx 0 (u0 &&& (3 : Int32))) (.int (0 : Int32))).set (pIx 1 ((u0 &&& (3 : Int32)) ^^^ (2 : Int32))) (.int (1 : Int32))) (nar .byte (nar .byte (u0 &&& (3 : Int32)))) (nar .byte (nar .byte ((u0 &&& (3 : Int32)) ^^^ (2 : Int32)))) (rng4_and _) (blk_set (blk_set (blk16 2 (by decide)) (pIx_off (rng4_and _) (by decide))) (pIx_off (rng4_xor (rng4_and _)) (by decide))) (blk_set (blk_set (blk16 3 (by decide)) (pIx_off (rng4_and _) (by decide))) (pIx_off (rng4_xor (rng4_and _)) (by decide)))) (by decide) (by decide) (pc := 47) (Ls := #[.val (.int u0), .val (.int u1), .val (.int u2), .val (.int u3), .val (.int (u0 &&& (3 : Int32))), .val (.int (u1 &&& (3 : Int32))), .val (.int (u2 &&& (3 : Int32))), .val (.int (u3 &&& (3 : Int32))), .val (.ref b1), .unset, .unset, .unset]) (argsL := [(.int (2 : Int32)), (.int (3 : Int32)), (.int (u1 &&& (3 : Int32)))]) (rest := []) (by rw [hml]; rfl) (lenOf pd_oIIIcI rfl) rfl (Nat.le_of_eq rfl) (hb hby at_47) (by decide) (by decide)
  replace H6 : OHere p l e _ s m _ below meth c Z n0 T6 4 29 [(eO b1 "com/example/orderly_slopes/orderlyslopes/layout/OrthogonalGraph" [("com/example/orderly_slopes/orderlyslopes/layout/OrthogonalGraph", "ports", "[I", (.ref bp3)), ("com/example/orderly_slopes/orderlyslopes/layout/OrthogonalGraph", "vertexCount", "I", (.int (4 : Int32))), ("com/example/orderly_slopes/orderlyslopes/layout/OrthogonalGraph", "origins", "[I", (.ref bo3)), ("com/example/orderly_slopes/orderlyslopes/layout/OrthogonalGraph", "directions", "[B", (.ref bd3)), ("com/example/orderly_slopes/orderlyslopes/layout/OrthogonalGraph", "edgeCount", "I", (.int (2 : Int32)))]), (eA bp3 .int (((([.int (-1), .int (-1), .int (-1), .int (-1), .int (-1), .int (-1), .int (-1), .int (-1), .int (-1), .int (-1), .int (-1), .int (-1), .int (-1), .int (-1), .int (-1), .int (-1)].set (pIx 0 (u0 &&& (3 : Int32))) (.int (0 : Int32))).set (pIx 1 ((u0 &&& (3 : Int32)) ^^^ (2 : Int32))) (.int (1 : Int32))).set (pIx 2 (u1 &&& (3 : Int32))) (.int (2 : Int32))).set (pIx 3 ((u1 &&& (3 : Int32)) ^^^ (2 : Int32))) (.int (3 : Int32)))), (eA bo3 .int [(.int (0 : Int32)), (.int (1 : Int32)), (.int (2 : Int32)), (.int (3 : Int32))]), (eA bd3 .byte [(.int (nar .byte (nar .byte (u0 &&& (3 : Int32))))), (.int (nar .byte (nar .byte ((u0 &&& (3 : Int32)) ^^^ (2 : Int32))))), (.int (nar .byte (nar .byte (u1 &&& (3 : Int32))))), (.int (nar .byte (nar .byte ((u1 &&& (3 : Int32)) ^^^ (2 : Int32)))))])] := H6
  refine OEnds.pre (fun t k => st6 _ k) ?_
  show OEnds p e below s _ _ _ (T6.setTop (mkF m 50 #[.val (.int u0), .val (.int u1), .val (.int u2), .val (.int u3), .val (.int (u0 &&& (3 : Int32))), .val (.int (u1 &&& (3 : Int32))), .val (.int (u2 &&& (3 : Int32))), .val (.int (u3 &&& (3 : Int32))), .val (.ref b1), .unset, .unset, .unset] [(.int (2 : Int32))]))
  refine OEnds.pre (fun t k => XT.pop H6.here hx rfl (hb hby at_50) rfl rfl k) ?_
  show OEnds p e below s _ _ _ (T6.setTop (mkF m 51 #[.val (.int u0), .val (.int u1), .val (.int u2), .val (.int u3), .val (.int (u0 &&& (3 : Int32))), .val (.int (u1 &&& (3 : Int32))), .val (.int (u2 &&& (3 : Int32))), .val (.int (u3 &&& (3 : Int32))), .val (.ref b1), .unset, .unset, .unset] []))
  refine OEnds.pre (fun t k => XS.iload H6.here hx rfl (hb hby at_51) rfl k) ?_
  show OEnds p e below s _ _ _ (T6.setTop (mkF m 53 #[.val (.int u0), .val (.int u1), .val (.int u2), .val (.int u3), .val (.int (u0 &&& (3 : Int32))), .val (.int (u1 &&& (3 : Int32))), .val (.int (u2 &&& (3 : Int32))), .val (.int (u3 &&& (3 : Int32))), .val (.ref b1), .unset, .unset, .unset] [(.int (u2 &&& (3 : Int32)))]))
  refine OEnds.pre (fun t k => XS.iload H6.here hx rfl (hb hby at_53) rfl k) ?_
  show OEnds p e below s _ _ _ (T6.setTop (mkF m 55 #[.val (.int u0), .val (.int u1), .val (.int u2), .val (.int u3), .val (.int (u0 &&& (3 : Int32))), .val (.int (u1 &&& (3 : Int32))), .val (.int (u2 &&& (3 : Int32))), .val (.int (u3 &&& (3 : Int32))), .val (.ref b1), .unset, .unset, .unset] [(.int (u0 &&& (3 : Int32))), (.int (u2 &&& (3 : Int32)))]))
  refine OEnds.pre (fun t k => XS.iload H6.here hx rfl (hb hby at_55) rfl k) ?_
  show OEnds p e below s _ _ _ (T6.setTop (mkF m 57 #[.val (.int u0), .val (.int u1), .val (.int u2), .val (.int u3), .val (.int (u0 &&& (3 : Int32))), .val (.int (u1 &&& (3 : Int32))), .val (.int (u2 &&& (3 : Int32))), .val (.int (u3 &&& (3 : Int32))), .val (.ref b1), .unset, .unset, .unset] [(.int (u1 &&& (3 : Int32))), (.int (u0 &&& (3 : Int32))), (.int (u2 &&& (3 : Int32)))]))
  obtain ⟨T7, _, _, ⟨rfl, rfl⟩, H7, st7⟩ := OHere.static H6 hx hZ (y := (⟨"com/example/orderly_slopes/orderlyslopes/layout/OrthogonalGraphTurnPinLaw", "dirOf", "(III)I"⟩ : MethodName)) (P := _) (W := 0) hown (hw _ (List.mem_of_getElem? (i := 43) rfl)) (hw _ (List.mem_of_getElem? (i := 44) rfl)) (hw _ (List.mem_of_getElem? (i := 45) rfl)) (hw _ (List.mem_of_getElem? (i := 46) rfl)) (by decide) (OCon.of_pure fun h => met8 l Z a0 hw [] (u2 &&& (3 : Int32)) (u0 &&& (3 : Int32)) (u1 &&& (3 : Int32)) h) (by decide) (by decide) (pc := 57) (Ls := #[.val (.int u0), .val (.int u1), .val (.int u2), .val (.int u3), .val (.int (u0 &&& (3 : Int32))), .val (.int (u1 &&& (3 : Int32))), .val (.int (u2 &&& (3 : Int32))), .val (.int (u3 &&& (3 : Int32))), .val (.ref b1), .unset, .unset, .unset]) (argsL := [(.int (u2 &&& (3 : Int32))), (.int (u0 &&& (3 : Int32))), (.int (u1 &&& (3 : Int32)))]) (rest := []) (by rw [hml]; rfl) (lenOf pd_oIIIcI rfl) rfl (Nat.le_of_eq rfl) (hb hby at_57) (by decide) (by decide)
  replace H7 : OHere p l e _ s m _ below meth c Z n0 T7 4 29 [(eO b1 "com/example/orderly_slopes/orderlyslopes/layout/OrthogonalGraph" [("com/example/orderly_slopes/orderlyslopes/layout/OrthogonalGraph", "ports", "[I", (.ref bp3)), ("com/example/orderly_slopes/orderlyslopes/layout/OrthogonalGraph", "vertexCount", "I", (.int (4 : Int32))), ("com/example/orderly_slopes/orderlyslopes/layout/OrthogonalGraph", "origins", "[I", (.ref bo3)), ("com/example/orderly_slopes/orderlyslopes/layout/OrthogonalGraph", "directions", "[B", (.ref bd3)), ("com/example/orderly_slopes/orderlyslopes/layout/OrthogonalGraph", "edgeCount", "I", (.int (2 : Int32)))]), (eA bp3 .int (((([.int (-1), .int (-1), .int (-1), .int (-1), .int (-1), .int (-1), .int (-1), .int (-1), .int (-1), .int (-1), .int (-1), .int (-1), .int (-1), .int (-1), .int (-1), .int (-1)].set (pIx 0 (u0 &&& (3 : Int32))) (.int (0 : Int32))).set (pIx 1 ((u0 &&& (3 : Int32)) ^^^ (2 : Int32))) (.int (1 : Int32))).set (pIx 2 (u1 &&& (3 : Int32))) (.int (2 : Int32))).set (pIx 3 ((u1 &&& (3 : Int32)) ^^^ (2 : Int32))) (.int (3 : Int32)))), (eA bo3 .int [(.int (0 : Int32)), (.int (1 : Int32)), (.int (2 : Int32)), (.int (3 : Int32))]), (eA bd3 .byte [(.int (nar .byte (nar .byte (u0 &&& (3 : Int32))))), (.int (nar .byte (nar .byte ((u0 &&& (3 : Int32)) ^^^ (2 : Int32))))), (.int (nar .byte (nar .byte (u1 &&& (3 : Int32))))), (.int (nar .byte (nar .byte ((u1 &&& (3 : Int32)) ^^^ (2 : Int32)))))])] := H7
  refine OEnds.pre (fun t k => st7 _ k) ?_
  show OEnds p e below s _ _ _ (T7.setTop (mkF m 60 #[.val (.int u0), .val (.int u1), .val (.int u2), .val (.int u3), .val (.int (u0 &&& (3 : Int32))), .val (.int (u1 &&& (3 : Int32))), .val (.int (u2 &&& (3 : Int32))), .val (.int (u3 &&& (3 : Int32))), .val (.ref b1), .unset, .unset, .unset] [(.int (f8 (u2 &&& (3 : Int32)) (u0 &&& (3 : Int32)) (u1 &&& (3 : Int32))))]))
  refine OEnds.pre (fun t k => XS.istore H7.here hx rfl (hb hby at_60) rfl (l' := #[.val (.int u0), .val (.int u1), .val (.int u2), .val (.int u3), .val (.int (u0 &&& (3 : Int32))), .val (.int (u1 &&& (3 : Int32))), .val (.int (u2 &&& (3 : Int32))), .val (.int (u3 &&& (3 : Int32))), .val (.ref b1), .val (.int (f8 (u2 &&& (3 : Int32)) (u0 &&& (3 : Int32)) (u1 &&& (3 : Int32)))), .unset, .unset]) rfl k) ?_
  show OEnds p e below s _ _ _ (T7.setTop (mkF m 62 #[.val (.int u0), .val (.int u1), .val (.int u2), .val (.int u3), .val (.int (u0 &&& (3 : Int32))), .val (.int (u1 &&& (3 : Int32))), .val (.int (u2 &&& (3 : Int32))), .val (.int (u3 &&& (3 : Int32))), .val (.ref b1), .val (.int (f8 (u2 &&& (3 : Int32)) (u0 &&& (3 : Int32)) (u1 &&& (3 : Int32)))), .unset, .unset] []))
  refine OEnds.pre (fun t k => XS.iload H7.here hx rfl (hb hby at_62) rfl k) ?_
  show OEnds p e below s _ _ _ (T7.setTop (mkF m 64 #[.val (.int u0), .val (.int u1), .val (.int u2), .val (.int u3), .val (.int (u0 &&& (3 : Int32))), .val (.int (u1 &&& (3 : Int32))), .val (.int (u2 &&& (3 : Int32))), .val (.int (u3 &&& (3 : Int32))), .val (.ref b1), .val (.int (f8 (u2 &&& (3 : Int32)) (u0 &&& (3 : Int32)) (u1 &&& (3 : Int32)))), .unset, .unset] [(.int (u3 &&& (3 : Int32)))]))
  refine OEnds.pre (fun t k => XS.iload H7.here hx rfl (hb hby at_64) rfl k) ?_
  show OEnds p e below s _ _ _ (T7.setTop (mkF m 66 #[.val (.int u0), .val (.int u1), .val (.int u2), .val (.int u3), .val (.int (u0 &&& (3 : Int32))), .val (.int (u1 &&& (3 : Int32))), .val (.int (u2 &&& (3 : Int32))), .val (.int (u3 &&& (3 : Int32))), .val (.ref b1), .val (.int (f8 (u2 &&& (3 : Int32)) (u0 &&& (3 : Int32)) (u1 &&& (3 : Int32)))), .unset, .unset] [(.int (u0 &&& (3 : Int32))), (.int (u3 &&& (3 : Int32)))]))
  refine OEnds.pre (fun t k => XS.iload H7.here hx rfl (hb hby at_66) rfl k) ?_
  show OEnds p e below s _ _ _ (T7.setTop (mkF m 68 #[.val (.int u0), .val (.int u1), .val (.int u2), .val (.int u3), .val (.int (u0 &&& (3 : Int32))), .val (.int (u1 &&& (3 : Int32))), .val (.int (u2 &&& (3 : Int32))), .val (.int (u3 &&& (3 : Int32))), .val (.ref b1), .val (.int (f8 (u2 &&& (3 : Int32)) (u0 &&& (3 : Int32)) (u1 &&& (3 : Int32)))), .unset, .unset] [(.int (u1 &&& (3 : Int32))), (.int (u0 &&& (3 : Int32))), (.int (u3 &&& (3 : Int32)))]))
  obtain ⟨T8, _, _, ⟨rfl, rfl⟩, H8, st8⟩ := OHere.static H7 hx hZ (y := (⟨"com/example/orderly_slopes/orderlyslopes/layout/OrthogonalGraphTurnPinLaw", "dirOf", "(III)I"⟩ : MethodName)) (P := _) (W := 0) hown (hw _ (List.mem_of_getElem? (i := 43) rfl)) (hw _ (List.mem_of_getElem? (i := 44) rfl)) (hw _ (List.mem_of_getElem? (i := 45) rfl)) (hw _ (List.mem_of_getElem? (i := 46) rfl)) (by decide) (OCon.of_pure fun h => met8 l Z a0 hw [] (u3 &&& (3 : Int32)) (u0 &&& (3 : Int32)) (u1 &&& (3 : Int32)) h) (by decide) (by decide) (pc := 68) (Ls := #[.val (.int u0), .val (.int u1), .val (.int u2), .val (.int u3), .val (.int (u0 &&& (3 : Int32))), .val (.int (u1 &&& (3 : Int32))), .val (.int (u2 &&& (3 : Int32))), .val (.int (u3 &&& (3 : Int32))), .val (.ref b1), .val (.int (f8 (u2 &&& (3 : Int32)) (u0 &&& (3 : Int32)) (u1 &&& (3 : Int32)))), .unset, .unset]) (argsL := [(.int (u3 &&& (3 : Int32))), (.int (u0 &&& (3 : Int32))), (.int (u1 &&& (3 : Int32)))]) (rest := []) (by rw [hml]; rfl) (lenOf pd_oIIIcI rfl) rfl (Nat.le_of_eq rfl) (hb hby at_68) (by decide) (by decide)
  replace H8 : OHere p l e _ s m _ below meth c Z n0 T8 4 29 [(eO b1 "com/example/orderly_slopes/orderlyslopes/layout/OrthogonalGraph" [("com/example/orderly_slopes/orderlyslopes/layout/OrthogonalGraph", "ports", "[I", (.ref bp3)), ("com/example/orderly_slopes/orderlyslopes/layout/OrthogonalGraph", "vertexCount", "I", (.int (4 : Int32))), ("com/example/orderly_slopes/orderlyslopes/layout/OrthogonalGraph", "origins", "[I", (.ref bo3)), ("com/example/orderly_slopes/orderlyslopes/layout/OrthogonalGraph", "directions", "[B", (.ref bd3)), ("com/example/orderly_slopes/orderlyslopes/layout/OrthogonalGraph", "edgeCount", "I", (.int (2 : Int32)))]), (eA bp3 .int (((([.int (-1), .int (-1), .int (-1), .int (-1), .int (-1), .int (-1), .int (-1), .int (-1), .int (-1), .int (-1), .int (-1), .int (-1), .int (-1), .int (-1), .int (-1), .int (-1)].set (pIx 0 (u0 &&& (3 : Int32))) (.int (0 : Int32))).set (pIx 1 ((u0 &&& (3 : Int32)) ^^^ (2 : Int32))) (.int (1 : Int32))).set (pIx 2 (u1 &&& (3 : Int32))) (.int (2 : Int32))).set (pIx 3 ((u1 &&& (3 : Int32)) ^^^ (2 : Int32))) (.int (3 : Int32)))), (eA bo3 .int [(.int (0 : Int32)), (.int (1 : Int32)), (.int (2 : Int32)), (.int (3 : Int32))]), (eA bd3 .byte [(.int (nar .byte (nar .byte (u0 &&& (3 : Int32))))), (.int (nar .byte (nar .byte ((u0 &&& (3 : Int32)) ^^^ (2 : Int32))))), (.int (nar .byte (nar .byte (u1 &&& (3 : Int32))))), (.int (nar .byte (nar .byte ((u1 &&& (3 : Int32)) ^^^ (2 : Int32)))))])] := H8
  refine OEnds.pre (fun t k => st8 _ k) ?_
  show OEnds p e below s _ _ _ (T8.setTop (mkF m 71 #[.val (.int u0), .val (.int u1), .val (.int u2), .val (.int u3), .val (.int (u0 &&& (3 : Int32))), .val (.int (u1 &&& (3 : Int32))), .val (.int (u2 &&& (3 : Int32))), .val (.int (u3 &&& (3 : Int32))), .val (.ref b1), .val (.int (f8 (u2 &&& (3 : Int32)) (u0 &&& (3 : Int32)) (u1 &&& (3 : Int32)))), .unset, .unset] [(.int (f8 (u3 &&& (3 : Int32)) (u0 &&& (3 : Int32)) (u1 &&& (3 : Int32))))]))
  refine OEnds.pre (fun t k => XS.istore H8.here hx rfl (hb hby at_71) rfl (l' := #[.val (.int u0), .val (.int u1), .val (.int u2), .val (.int u3), .val (.int (u0 &&& (3 : Int32))), .val (.int (u1 &&& (3 : Int32))), .val (.int (u2 &&& (3 : Int32))), .val (.int (u3 &&& (3 : Int32))), .val (.ref b1), .val (.int (f8 (u2 &&& (3 : Int32)) (u0 &&& (3 : Int32)) (u1 &&& (3 : Int32)))), .val (.int (f8 (u3 &&& (3 : Int32)) (u0 &&& (3 : Int32)) (u1 &&& (3 : Int32)))), .unset]) rfl k) ?_
  show OEnds p e below s _ _ _ (T8.setTop (mkF m 73 #[.val (.int u0), .val (.int u1), .val (.int u2), .val (.int u3), .val (.int (u0 &&& (3 : Int32))), .val (.int (u1 &&& (3 : Int32))), .val (.int (u2 &&& (3 : Int32))), .val (.int (u3 &&& (3 : Int32))), .val (.ref b1), .val (.int (f8 (u2 &&& (3 : Int32)) (u0 &&& (3 : Int32)) (u1 &&& (3 : Int32)))), .val (.int (f8 (u3 &&& (3 : Int32)) (u0 &&& (3 : Int32)) (u1 &&& (3 : Int32)))), .unset] []))
  refine OEnds.pre (fun t k => XS.aload H8.here hx rfl (hb hby at_73) rfl rfl k) ?_
  show OEnds p e below s _ _ _ (T8.setTop (mkF m 75 #[.val (.int u0), .val (.int u1), .val (.int u2), .val (.int u3), .val (.int (u0 &&& (3 : Int32))), .val (.int (u1 &&& (3 : Int32))), .val (.int (u2 &&& (3 : Int32))), .val (.int (u3 &&& (3 : Int32))), .val (.ref b1), .val (.int (f8 (u2 &&& (3 : Int32)) (u0 &&& (3 : Int32)) (u1 &&& (3 : Int32)))), .val (.int (f8 (u3 &&& (3 : Int32)) (u0 &&& (3 : Int32)) (u1 &&& (3 : Int32)))), .unset] [(.ref b1)]))
  refine OEnds.pre (fun t k => XS.iload H8.here hx rfl (hb hby at_75) rfl k) ?_
  show OEnds p e below s _ _ _ (T8.setTop (mkF m 77 #[.val (.int u0), .val (.int u1), .val (.int u2), .val (.int u3), .val (.int (u0 &&& (3 : Int32))), .val (.int (u1 &&& (3 : Int32))), .val (.int (u2 &&& (3 : Int32))), .val (.int (u3 &&& (3 : Int32))), .val (.ref b1), .val (.int (f8 (u2 &&& (3 : Int32)) (u0 &&& (3 : Int32)) (u1 &&& (3 : Int32)))), .val (.int (f8 (u3 &&& (3 : Int32)) (u0 &&& (3 : Int32)) (u1 &&& (3 : Int32)))), .unset] [(.int (u2 &&& (3 : Int32))), (.ref b1)]))
  refine OEnds.pre (fun t k => XS.iload H8.here hx rfl (hb hby at_77) rfl k) ?_
  show OEnds p e below s _ _ _ (T8.setTop (mkF m 79 #[.val (.int u0), .val (.int u1), .val (.int u2), .val (.int u3), .val (.int (u0 &&& (3 : Int32))), .val (.int (u1 &&& (3 : Int32))), .val (.int (u2 &&& (3 : Int32))), .val (.int (u3 &&& (3 : Int32))), .val (.ref b1), .val (.int (f8 (u2 &&& (3 : Int32)) (u0 &&& (3 : Int32)) (u1 &&& (3 : Int32)))), .val (.int (f8 (u3 &&& (3 : Int32)) (u0 &&& (3 : Int32)) (u1 &&& (3 : Int32)))), .unset] [(.int (u3 &&& (3 : Int32))), (.int (u2 &&& (3 : Int32))), (.ref b1)]))
  obtain ⟨T9, _, _, ⟨rfl, rfl⟩, H9, st9⟩ := OHere.virtual H8 hx hZ (y := (⟨"com/example/orderly_slopes/orderlyslopes/layout/OrthogonalGraph", "turn", "(II)I"⟩ : MethodName)) (z := (⟨"com/example/orderly_slopes/orderlyslopes/layout/OrthogonalGraph", "turn", "(II)I"⟩ : MethodName)) (P := _) (W := 0) (a := b1) (q := 0) (fs := [("com/example/orderly_slopes/orderlyslopes/layout/OrthogonalGraph", "ports", "[I", (.ref bp3)), ("com/example/orderly_slopes/orderlyslopes/layout/OrthogonalGraph", "vertexCount", "I", (.int (4 : Int32))), ("com/example/orderly_slopes/orderlyslopes/layout/OrthogonalGraph", "origins", "[I", (.ref bo3)), ("com/example/orderly_slopes/orderlyslopes/layout/OrthogonalGraph", "directions", "[B", (.ref bd3)), ("com/example/orderly_slopes/orderlyslopes/layout/OrthogonalGraph", "edgeCount", "I", (.int (2 : Int32)))]) hown (hw _ (List.mem_of_getElem? (i := 47) rfl)) (hw _ (List.mem_of_getElem? (i := 48) rfl)) (nf_sel (hw _ (List.mem_of_getElem? (i := 30) rfl)) rfl) (hw _ (List.mem_of_getElem? (i := 50) rfl)) (hw _ (List.mem_of_getElem? (i := 49) rfl)) (hw _ (List.mem_of_getElem? (i := 2) rfl)) (hw _ (List.mem_of_getElem? (i := 51) rfl)) (by decide) rfl (con9 l Z a0 hw n0 [] b1 (u2 &&& (3 : Int32)) (u3 &&& (3 : Int32)) bp3 bo3 bd3 (2 : Int32) (((([.int (-1), .int (-1), .int (-1), .int (-1), .int (-1), .int (-1), .int (-1), .int (-1), .int (-1), .int (-1), .int (-1), .int (-1), .int (-1), .int (-1), .int (-1), .int (-1)].set (pIx 0 (u0 &&& (3 : Int32))) (.int (0 : Int32))).set (pIx 1 ((u0 &&& (3 : Int32)) ^^^ (2 : Int32))) (.int (1 : Int32))).set (pIx 2 (u1 &&& (3 : Int32))) (.int (2 : Int32))).set (pIx 3 ((u1 &&& (3 : Int32)) ^^^ (2 : Int32))) (.int (3 : Int32))) [(.int (0 : Int32)), (.int (1 : Int32)), (.int (2 : Int32)), (.int (3 : Int32))] [(.int (nar .byte (nar .byte (u0 &&& (3 : Int32))))), (.int (nar .byte (nar .byte ((u0 &&& (3 : Int32)) ^^^ (2 : Int32))))), (.int (nar .byte (nar .byte (u1 &&& (3 : Int32))))), (.int (nar .byte (nar .byte ((u1 &&& (3 : Int32)) ^^^ (2 : Int32)))))] (f8 (u2 &&& (3 : Int32)) (u0 &&& (3 : Int32)) (u1 &&& (3 : Int32))) (f8 (u3 &&& (3 : Int32)) (u0 &&& (3 : Int32)) (u1 &&& (3 : Int32))) (rng4_ix (rng4_and _)) (dirs_at (rng4_and _) (rng4_and _) (rng4_and _)) (rng4_ix (rng4_and _)) (dirs_at (rng4_and _) (rng4_and _) (rng4_and _))) (by decide) (by decide) (pc := 79) (Ls := #[.val (.int u0), .val (.int u1), .val (.int u2), .val (.int u3), .val (.int (u0 &&& (3 : Int32))), .val (.int (u1 &&& (3 : Int32))), .val (.int (u2 &&& (3 : Int32))), .val (.int (u3 &&& (3 : Int32))), .val (.ref b1), .val (.int (f8 (u2 &&& (3 : Int32)) (u0 &&& (3 : Int32)) (u1 &&& (3 : Int32)))), .val (.int (f8 (u3 &&& (3 : Int32)) (u0 &&& (3 : Int32)) (u1 &&& (3 : Int32)))), .unset]) (argsL := [(.int (u2 &&& (3 : Int32))), (.int (u3 &&& (3 : Int32)))]) (rest := []) (by rw [hml]; rfl) (lenOf pd_oIIcI rfl) rfl (Nat.le_of_eq rfl) (hb hby at_79) (by decide) (by decide)
  replace H9 : OHere p l e _ s m _ below meth c Z n0 T9 4 29 [(eO b1 "com/example/orderly_slopes/orderlyslopes/layout/OrthogonalGraph" [("com/example/orderly_slopes/orderlyslopes/layout/OrthogonalGraph", "ports", "[I", (.ref bp3)), ("com/example/orderly_slopes/orderlyslopes/layout/OrthogonalGraph", "vertexCount", "I", (.int (4 : Int32))), ("com/example/orderly_slopes/orderlyslopes/layout/OrthogonalGraph", "origins", "[I", (.ref bo3)), ("com/example/orderly_slopes/orderlyslopes/layout/OrthogonalGraph", "directions", "[B", (.ref bd3)), ("com/example/orderly_slopes/orderlyslopes/layout/OrthogonalGraph", "edgeCount", "I", (.int (2 : Int32)))]), (eA bp3 .int (((([.int (-1), .int (-1), .int (-1), .int (-1), .int (-1), .int (-1), .int (-1), .int (-1), .int (-1), .int (-1), .int (-1), .int (-1), .int (-1), .int (-1), .int (-1), .int (-1)].set (pIx 0 (u0 &&& (3 : Int32))) (.int (0 : Int32))).set (pIx 1 ((u0 &&& (3 : Int32)) ^^^ (2 : Int32))) (.int (1 : Int32))).set (pIx 2 (u1 &&& (3 : Int32))) (.int (2 : Int32))).set (pIx 3 ((u1 &&& (3 : Int32)) ^^^ (2 : Int32))) (.int (3 : Int32)))), (eA bo3 .int [(.int (0 : Int32)), (.int (1 : Int32)), (.int (2 : Int32)), (.int (3 : Int32))]), (eA bd3 .byte [(.int (nar .byte (nar .byte (u0 &&& (3 : Int32))))), (.int (nar .byte (nar .byte ((u0 &&& (3 : Int32)) ^^^ (2 : Int32))))), (.int (nar .byte (nar .byte (u1 &&& (3 : Int32))))), (.int (nar .byte (nar .byte ((u1 &&& (3 : Int32)) ^^^ (2 : Int32)))))])] := H9
  refine OEnds.pre (fun t k => st9 _ k) ?_
  show OEnds p e below s _ _ _ (T9.setTop (mkF m 82 #[.val (.int u0), .val (.int u1), .val (.int u2), .val (.int u3), .val (.int (u0 &&& (3 : Int32))), .val (.int (u1 &&& (3 : Int32))), .val (.int (u2 &&& (3 : Int32))), .val (.int (u3 &&& (3 : Int32))), .val (.ref b1), .val (.int (f8 (u2 &&& (3 : Int32)) (u0 &&& (3 : Int32)) (u1 &&& (3 : Int32)))), .val (.int (f8 (u3 &&& (3 : Int32)) (u0 &&& (3 : Int32)) (u1 &&& (3 : Int32)))), .unset] [(.int (fturn (f8 (u2 &&& (3 : Int32)) (u0 &&& (3 : Int32)) (u1 &&& (3 : Int32))) (f8 (u3 &&& (3 : Int32)) (u0 &&& (3 : Int32)) (u1 &&& (3 : Int32)))))]))
  refine OEnds.pre (fun t k => XS.istore H9.here hx rfl (hb hby at_82) rfl (l' := #[.val (.int u0), .val (.int u1), .val (.int u2), .val (.int u3), .val (.int (u0 &&& (3 : Int32))), .val (.int (u1 &&& (3 : Int32))), .val (.int (u2 &&& (3 : Int32))), .val (.int (u3 &&& (3 : Int32))), .val (.ref b1), .val (.int (f8 (u2 &&& (3 : Int32)) (u0 &&& (3 : Int32)) (u1 &&& (3 : Int32)))), .val (.int (f8 (u3 &&& (3 : Int32)) (u0 &&& (3 : Int32)) (u1 &&& (3 : Int32)))), .val (.int (fturn (f8 (u2 &&& (3 : Int32)) (u0 &&& (3 : Int32)) (u1 &&& (3 : Int32))) (f8 (u3 &&& (3 : Int32)) (u0 &&& (3 : Int32)) (u1 &&& (3 : Int32)))))]) rfl k) ?_
  show OEnds p e below s _ _ _ (T9.setTop (mkF m 84 #[.val (.int u0), .val (.int u1), .val (.int u2), .val (.int u3), .val (.int (u0 &&& (3 : Int32))), .val (.int (u1 &&& (3 : Int32))), .val (.int (u2 &&& (3 : Int32))), .val (.int (u3 &&& (3 : Int32))), .val (.ref b1), .val (.int (f8 (u2 &&& (3 : Int32)) (u0 &&& (3 : Int32)) (u1 &&& (3 : Int32)))), .val (.int (f8 (u3 &&& (3 : Int32)) (u0 &&& (3 : Int32)) (u1 &&& (3 : Int32)))), .val (.int (fturn (f8 (u2 &&& (3 : Int32)) (u0 &&& (3 : Int32)) (u1 &&& (3 : Int32))) (f8 (u3 &&& (3 : Int32)) (u0 &&& (3 : Int32)) (u1 &&& (3 : Int32)))))] []))
  refine OEnds.pre (fun t k => XS.iload H9.here hx rfl (hb hby at_84) rfl k) ?_
  show OEnds p e below s _ _ _ (T9.setTop (mkF m 86 #[.val (.int u0), .val (.int u1), .val (.int u2), .val (.int u3), .val (.int (u0 &&& (3 : Int32))), .val (.int (u1 &&& (3 : Int32))), .val (.int (u2 &&& (3 : Int32))), .val (.int (u3 &&& (3 : Int32))), .val (.ref b1), .val (.int (f8 (u2 &&& (3 : Int32)) (u0 &&& (3 : Int32)) (u1 &&& (3 : Int32)))), .val (.int (f8 (u3 &&& (3 : Int32)) (u0 &&& (3 : Int32)) (u1 &&& (3 : Int32)))), .val (.int (fturn (f8 (u2 &&& (3 : Int32)) (u0 &&& (3 : Int32)) (u1 &&& (3 : Int32))) (f8 (u3 &&& (3 : Int32)) (u0 &&& (3 : Int32)) (u1 &&& (3 : Int32)))))] [(.int (fturn (f8 (u2 &&& (3 : Int32)) (u0 &&& (3 : Int32)) (u1 &&& (3 : Int32))) (f8 (u3 &&& (3 : Int32)) (u0 &&& (3 : Int32)) (u1 &&& (3 : Int32)))))]))
  refine OEnds.pre (fun t k => XT.bipushV H9.here hx rfl (-2 : Int32) (hb hby at_86) rfl k) ?_
  show OEnds p e below s _ _ _ (T9.setTop (mkF m 88 #[.val (.int u0), .val (.int u1), .val (.int u2), .val (.int u3), .val (.int (u0 &&& (3 : Int32))), .val (.int (u1 &&& (3 : Int32))), .val (.int (u2 &&& (3 : Int32))), .val (.int (u3 &&& (3 : Int32))), .val (.ref b1), .val (.int (f8 (u2 &&& (3 : Int32)) (u0 &&& (3 : Int32)) (u1 &&& (3 : Int32)))), .val (.int (f8 (u3 &&& (3 : Int32)) (u0 &&& (3 : Int32)) (u1 &&& (3 : Int32)))), .val (.int (fturn (f8 (u2 &&& (3 : Int32)) (u0 &&& (3 : Int32)) (u1 &&& (3 : Int32))) (f8 (u3 &&& (3 : Int32)) (u0 &&& (3 : Int32)) (u1 &&& (3 : Int32)))))] [(.int (-2 : Int32)), (.int (fturn (f8 (u2 &&& (3 : Int32)) (u0 &&& (3 : Int32)) (u1 &&& (3 : Int32))) (f8 (u3 &&& (3 : Int32)) (u0 &&& (3 : Int32)) (u1 &&& (3 : Int32)))))]))
  refine OEnds.pre (fun t k => XS.icmpNo H9.here hx rfl (hb hby at_88) rfl (XT.ii_lt_f (turn_ok (f8_rng (k := (u2 &&& (3 : Int32))) (rng4_and u0) (rng4_and u1)) (f8_rng (k := (u3 &&& (3 : Int32))) (rng4_and u0) (rng4_and u1))).1) k) ?_
  show OEnds p e below s _ _ _ (T9.setTop (mkF m 91 #[.val (.int u0), .val (.int u1), .val (.int u2), .val (.int u3), .val (.int (u0 &&& (3 : Int32))), .val (.int (u1 &&& (3 : Int32))), .val (.int (u2 &&& (3 : Int32))), .val (.int (u3 &&& (3 : Int32))), .val (.ref b1), .val (.int (f8 (u2 &&& (3 : Int32)) (u0 &&& (3 : Int32)) (u1 &&& (3 : Int32)))), .val (.int (f8 (u3 &&& (3 : Int32)) (u0 &&& (3 : Int32)) (u1 &&& (3 : Int32)))), .val (.int (fturn (f8 (u2 &&& (3 : Int32)) (u0 &&& (3 : Int32)) (u1 &&& (3 : Int32))) (f8 (u3 &&& (3 : Int32)) (u0 &&& (3 : Int32)) (u1 &&& (3 : Int32)))))] []))
  refine OEnds.pre (fun t k => XS.iload H9.here hx rfl (hb hby at_91) rfl k) ?_
  show OEnds p e below s _ _ _ (T9.setTop (mkF m 93 #[.val (.int u0), .val (.int u1), .val (.int u2), .val (.int u3), .val (.int (u0 &&& (3 : Int32))), .val (.int (u1 &&& (3 : Int32))), .val (.int (u2 &&& (3 : Int32))), .val (.int (u3 &&& (3 : Int32))), .val (.ref b1), .val (.int (f8 (u2 &&& (3 : Int32)) (u0 &&& (3 : Int32)) (u1 &&& (3 : Int32)))), .val (.int (f8 (u3 &&& (3 : Int32)) (u0 &&& (3 : Int32)) (u1 &&& (3 : Int32)))), .val (.int (fturn (f8 (u2 &&& (3 : Int32)) (u0 &&& (3 : Int32)) (u1 &&& (3 : Int32))) (f8 (u3 &&& (3 : Int32)) (u0 &&& (3 : Int32)) (u1 &&& (3 : Int32)))))] [(.int (fturn (f8 (u2 &&& (3 : Int32)) (u0 &&& (3 : Int32)) (u1 &&& (3 : Int32))) (f8 (u3 &&& (3 : Int32)) (u0 &&& (3 : Int32)) (u1 &&& (3 : Int32)))))]))
  refine OEnds.pre (fun t k => XT.iconstV H9.here hx rfl (1 : Int32) (hb hby at_93) rfl k) ?_
  show OEnds p e below s _ _ _ (T9.setTop (mkF m 94 #[.val (.int u0), .val (.int u1), .val (.int u2), .val (.int u3), .val (.int (u0 &&& (3 : Int32))), .val (.int (u1 &&& (3 : Int32))), .val (.int (u2 &&& (3 : Int32))), .val (.int (u3 &&& (3 : Int32))), .val (.ref b1), .val (.int (f8 (u2 &&& (3 : Int32)) (u0 &&& (3 : Int32)) (u1 &&& (3 : Int32)))), .val (.int (f8 (u3 &&& (3 : Int32)) (u0 &&& (3 : Int32)) (u1 &&& (3 : Int32)))), .val (.int (fturn (f8 (u2 &&& (3 : Int32)) (u0 &&& (3 : Int32)) (u1 &&& (3 : Int32))) (f8 (u3 &&& (3 : Int32)) (u0 &&& (3 : Int32)) (u1 &&& (3 : Int32)))))] [(.int (1 : Int32)), (.int (fturn (f8 (u2 &&& (3 : Int32)) (u0 &&& (3 : Int32)) (u1 &&& (3 : Int32))) (f8 (u3 &&& (3 : Int32)) (u0 &&& (3 : Int32)) (u1 &&& (3 : Int32)))))]))
  refine OEnds.pre (fun t k => XS.icmpNo H9.here hx rfl (hb hby at_94) rfl (XT.ii_gt_f (turn_ok (f8_rng (k := (u2 &&& (3 : Int32))) (rng4_and u0) (rng4_and u1)) (f8_rng (k := (u3 &&& (3 : Int32))) (rng4_and u0) (rng4_and u1))).2.1) k) ?_
  show OEnds p e below s _ _ _ (T9.setTop (mkF m 97 #[.val (.int u0), .val (.int u1), .val (.int u2), .val (.int u3), .val (.int (u0 &&& (3 : Int32))), .val (.int (u1 &&& (3 : Int32))), .val (.int (u2 &&& (3 : Int32))), .val (.int (u3 &&& (3 : Int32))), .val (.ref b1), .val (.int (f8 (u2 &&& (3 : Int32)) (u0 &&& (3 : Int32)) (u1 &&& (3 : Int32)))), .val (.int (f8 (u3 &&& (3 : Int32)) (u0 &&& (3 : Int32)) (u1 &&& (3 : Int32)))), .val (.int (fturn (f8 (u2 &&& (3 : Int32)) (u0 &&& (3 : Int32)) (u1 &&& (3 : Int32))) (f8 (u3 &&& (3 : Int32)) (u0 &&& (3 : Int32)) (u1 &&& (3 : Int32)))))] []))
  refine OEnds.pre (fun t k => XS.iload H9.here hx rfl (hb hby at_97) rfl k) ?_
  show OEnds p e below s _ _ _ (T9.setTop (mkF m 99 #[.val (.int u0), .val (.int u1), .val (.int u2), .val (.int u3), .val (.int (u0 &&& (3 : Int32))), .val (.int (u1 &&& (3 : Int32))), .val (.int (u2 &&& (3 : Int32))), .val (.int (u3 &&& (3 : Int32))), .val (.ref b1), .val (.int (f8 (u2 &&& (3 : Int32)) (u0 &&& (3 : Int32)) (u1 &&& (3 : Int32)))), .val (.int (f8 (u3 &&& (3 : Int32)) (u0 &&& (3 : Int32)) (u1 &&& (3 : Int32)))), .val (.int (fturn (f8 (u2 &&& (3 : Int32)) (u0 &&& (3 : Int32)) (u1 &&& (3 : Int32))) (f8 (u3 &&& (3 : Int32)) (u0 &&& (3 : Int32)) (u1 &&& (3 : Int32)))))] [(.int (f8 (u2 &&& (3 : Int32)) (u0 &&& (3 : Int32)) (u1 &&& (3 : Int32))))]))
  refine OEnds.pre (fun t k => XS.iload H9.here hx rfl (hb hby at_99) rfl k) ?_
  show OEnds p e below s _ _ _ (T9.setTop (mkF m 101 #[.val (.int u0), .val (.int u1), .val (.int u2), .val (.int u3), .val (.int (u0 &&& (3 : Int32))), .val (.int (u1 &&& (3 : Int32))), .val (.int (u2 &&& (3 : Int32))), .val (.int (u3 &&& (3 : Int32))), .val (.ref b1), .val (.int (f8 (u2 &&& (3 : Int32)) (u0 &&& (3 : Int32)) (u1 &&& (3 : Int32)))), .val (.int (f8 (u3 &&& (3 : Int32)) (u0 &&& (3 : Int32)) (u1 &&& (3 : Int32)))), .val (.int (fturn (f8 (u2 &&& (3 : Int32)) (u0 &&& (3 : Int32)) (u1 &&& (3 : Int32))) (f8 (u3 &&& (3 : Int32)) (u0 &&& (3 : Int32)) (u1 &&& (3 : Int32)))))] [(.int (fturn (f8 (u2 &&& (3 : Int32)) (u0 &&& (3 : Int32)) (u1 &&& (3 : Int32))) (f8 (u3 &&& (3 : Int32)) (u0 &&& (3 : Int32)) (u1 &&& (3 : Int32))))), (.int (f8 (u2 &&& (3 : Int32)) (u0 &&& (3 : Int32)) (u1 &&& (3 : Int32))))]))
  refine OEnds.pre (fun t k => XS.iadd H9.here hx rfl (hb hby at_101) rfl k) ?_
  show OEnds p e below s _ _ _ (T9.setTop (mkF m 102 #[.val (.int u0), .val (.int u1), .val (.int u2), .val (.int u3), .val (.int (u0 &&& (3 : Int32))), .val (.int (u1 &&& (3 : Int32))), .val (.int (u2 &&& (3 : Int32))), .val (.int (u3 &&& (3 : Int32))), .val (.ref b1), .val (.int (f8 (u2 &&& (3 : Int32)) (u0 &&& (3 : Int32)) (u1 &&& (3 : Int32)))), .val (.int (f8 (u3 &&& (3 : Int32)) (u0 &&& (3 : Int32)) (u1 &&& (3 : Int32)))), .val (.int (fturn (f8 (u2 &&& (3 : Int32)) (u0 &&& (3 : Int32)) (u1 &&& (3 : Int32))) (f8 (u3 &&& (3 : Int32)) (u0 &&& (3 : Int32)) (u1 &&& (3 : Int32)))))] [(.int ((f8 (u2 &&& (3 : Int32)) (u0 &&& (3 : Int32)) (u1 &&& (3 : Int32))) + (fturn (f8 (u2 &&& (3 : Int32)) (u0 &&& (3 : Int32)) (u1 &&& (3 : Int32))) (f8 (u3 &&& (3 : Int32)) (u0 &&& (3 : Int32)) (u1 &&& (3 : Int32))))))]))
  refine OEnds.pre (fun t k => XT.iconstV H9.here hx rfl (3 : Int32) (hb hby at_102) rfl k) ?_
  show OEnds p e below s _ _ _ (T9.setTop (mkF m 103 #[.val (.int u0), .val (.int u1), .val (.int u2), .val (.int u3), .val (.int (u0 &&& (3 : Int32))), .val (.int (u1 &&& (3 : Int32))), .val (.int (u2 &&& (3 : Int32))), .val (.int (u3 &&& (3 : Int32))), .val (.ref b1), .val (.int (f8 (u2 &&& (3 : Int32)) (u0 &&& (3 : Int32)) (u1 &&& (3 : Int32)))), .val (.int (f8 (u3 &&& (3 : Int32)) (u0 &&& (3 : Int32)) (u1 &&& (3 : Int32)))), .val (.int (fturn (f8 (u2 &&& (3 : Int32)) (u0 &&& (3 : Int32)) (u1 &&& (3 : Int32))) (f8 (u3 &&& (3 : Int32)) (u0 &&& (3 : Int32)) (u1 &&& (3 : Int32)))))] [(.int (3 : Int32)), (.int ((f8 (u2 &&& (3 : Int32)) (u0 &&& (3 : Int32)) (u1 &&& (3 : Int32))) + (fturn (f8 (u2 &&& (3 : Int32)) (u0 &&& (3 : Int32)) (u1 &&& (3 : Int32))) (f8 (u3 &&& (3 : Int32)) (u0 &&& (3 : Int32)) (u1 &&& (3 : Int32))))))]))
  refine OEnds.pre (fun t k => XS.iand H9.here hx rfl (hb hby at_103) rfl k) ?_
  show OEnds p e below s _ _ _ (T9.setTop (mkF m 104 #[.val (.int u0), .val (.int u1), .val (.int u2), .val (.int u3), .val (.int (u0 &&& (3 : Int32))), .val (.int (u1 &&& (3 : Int32))), .val (.int (u2 &&& (3 : Int32))), .val (.int (u3 &&& (3 : Int32))), .val (.ref b1), .val (.int (f8 (u2 &&& (3 : Int32)) (u0 &&& (3 : Int32)) (u1 &&& (3 : Int32)))), .val (.int (f8 (u3 &&& (3 : Int32)) (u0 &&& (3 : Int32)) (u1 &&& (3 : Int32)))), .val (.int (fturn (f8 (u2 &&& (3 : Int32)) (u0 &&& (3 : Int32)) (u1 &&& (3 : Int32))) (f8 (u3 &&& (3 : Int32)) (u0 &&& (3 : Int32)) (u1 &&& (3 : Int32)))))] [(.int (((f8 (u2 &&& (3 : Int32)) (u0 &&& (3 : Int32)) (u1 &&& (3 : Int32))) + (fturn (f8 (u2 &&& (3 : Int32)) (u0 &&& (3 : Int32)) (u1 &&& (3 : Int32))) (f8 (u3 &&& (3 : Int32)) (u0 &&& (3 : Int32)) (u1 &&& (3 : Int32))))) &&& (3 : Int32)))]))
  refine OEnds.pre (fun t k => XS.iload H9.here hx rfl (hb hby at_104) rfl k) ?_
  show OEnds p e below s _ _ _ (T9.setTop (mkF m 106 #[.val (.int u0), .val (.int u1), .val (.int u2), .val (.int u3), .val (.int (u0 &&& (3 : Int32))), .val (.int (u1 &&& (3 : Int32))), .val (.int (u2 &&& (3 : Int32))), .val (.int (u3 &&& (3 : Int32))), .val (.ref b1), .val (.int (f8 (u2 &&& (3 : Int32)) (u0 &&& (3 : Int32)) (u1 &&& (3 : Int32)))), .val (.int (f8 (u3 &&& (3 : Int32)) (u0 &&& (3 : Int32)) (u1 &&& (3 : Int32)))), .val (.int (fturn (f8 (u2 &&& (3 : Int32)) (u0 &&& (3 : Int32)) (u1 &&& (3 : Int32))) (f8 (u3 &&& (3 : Int32)) (u0 &&& (3 : Int32)) (u1 &&& (3 : Int32)))))] [(.int (f8 (u3 &&& (3 : Int32)) (u0 &&& (3 : Int32)) (u1 &&& (3 : Int32)))), (.int (((f8 (u2 &&& (3 : Int32)) (u0 &&& (3 : Int32)) (u1 &&& (3 : Int32))) + (fturn (f8 (u2 &&& (3 : Int32)) (u0 &&& (3 : Int32)) (u1 &&& (3 : Int32))) (f8 (u3 &&& (3 : Int32)) (u0 &&& (3 : Int32)) (u1 &&& (3 : Int32))))) &&& (3 : Int32)))]))
  refine OEnds.pre (fun t k => XS.icmpNo H9.here hx rfl (hb hby at_106) rfl (XT.ii_ne_f (turn_ok (f8_rng (k := (u2 &&& (3 : Int32))) (rng4_and u0) (rng4_and u1)) (f8_rng (k := (u3 &&& (3 : Int32))) (rng4_and u0) (rng4_and u1))).2.2) k) ?_
  show OEnds p e below s _ _ _ (T9.setTop (mkF m 109 #[.val (.int u0), .val (.int u1), .val (.int u2), .val (.int u3), .val (.int (u0 &&& (3 : Int32))), .val (.int (u1 &&& (3 : Int32))), .val (.int (u2 &&& (3 : Int32))), .val (.int (u3 &&& (3 : Int32))), .val (.ref b1), .val (.int (f8 (u2 &&& (3 : Int32)) (u0 &&& (3 : Int32)) (u1 &&& (3 : Int32)))), .val (.int (f8 (u3 &&& (3 : Int32)) (u0 &&& (3 : Int32)) (u1 &&& (3 : Int32)))), .val (.int (fturn (f8 (u2 &&& (3 : Int32)) (u0 &&& (3 : Int32)) (u1 &&& (3 : Int32))) (f8 (u3 &&& (3 : Int32)) (u0 &&& (3 : Int32)) (u1 &&& (3 : Int32)))))] []))
  refine OEnds.pre (fun t k => XT.iconstV H9.here hx rfl (1 : Int32) (hb hby at_109) rfl k) ?_
  show OEnds p e below s _ _ _ (T9.setTop (mkF m 110 #[.val (.int u0), .val (.int u1), .val (.int u2), .val (.int u3), .val (.int (u0 &&& (3 : Int32))), .val (.int (u1 &&& (3 : Int32))), .val (.int (u2 &&& (3 : Int32))), .val (.int (u3 &&& (3 : Int32))), .val (.ref b1), .val (.int (f8 (u2 &&& (3 : Int32)) (u0 &&& (3 : Int32)) (u1 &&& (3 : Int32)))), .val (.int (f8 (u3 &&& (3 : Int32)) (u0 &&& (3 : Int32)) (u1 &&& (3 : Int32)))), .val (.int (fturn (f8 (u2 &&& (3 : Int32)) (u0 &&& (3 : Int32)) (u1 &&& (3 : Int32))) (f8 (u3 &&& (3 : Int32)) (u0 &&& (3 : Int32)) (u1 &&& (3 : Int32)))))] [(.int (1 : Int32))]))
  refine OEnds.pre (fun t k => XS.goto H9.here hx rfl (pc0 := 110) (pc' := 114) rfl (hb hby at_110) (by decide) (by decide) k) ?_
  show OEnds p e below s _ _ _ (T9.setTop (mkF m 114 #[.val (.int u0), .val (.int u1), .val (.int u2), .val (.int u3), .val (.int (u0 &&& (3 : Int32))), .val (.int (u1 &&& (3 : Int32))), .val (.int (u2 &&& (3 : Int32))), .val (.int (u3 &&& (3 : Int32))), .val (.ref b1), .val (.int (f8 (u2 &&& (3 : Int32)) (u0 &&& (3 : Int32)) (u1 &&& (3 : Int32)))), .val (.int (f8 (u3 &&& (3 : Int32)) (u0 &&& (3 : Int32)) (u1 &&& (3 : Int32)))), .val (.int (fturn (f8 (u2 &&& (3 : Int32)) (u0 &&& (3 : Int32)) (u1 &&& (3 : Int32))) (f8 (u3 &&& (3 : Int32)) (u0 &&& (3 : Int32)) (u1 &&& (3 : Int32)))))] [(.int (1 : Int32))]))
  exact H9.nrw hx Bd.notSynchronized Bd.returns (by simp) (hb hby at_114) (by decide) (by decide) (fun h L W N => ⟨N, _, ⟨rfl, rfl⟩, W.nil⟩)
set_option maxRecDepth 65536 in
set_option maxHeartbeats 40000000 in
theorem comes_1 {Post : Tables → Env → Array Value → State → Outcome → State → Prop} (hpost : ∀ tb e args s v u, (limb_1_1.after args s (.returned v) u = true ∧ limb_1_2.after args s (.returned v) u = true ∧ True) → FrameEnd s (.returned v) u (Jvm.fieldLocs frame_1_writes args s ++ Jvm.arrayLocs frame_1_arrays args s ++ Jvm.staticLocs frame_1_statics s) 16 128 → Post tb e args s (.returned v) u) :
    ArmFor flags0 classFile x code maxLocals ret World_1 tables_1 room_1 Calls_1 rest_1 Pre_1 Post := by
  intro l hfl _ _ p e ha hc hk s m args below hf hA hF happ hP
  obtain ⟨hcalls, hrest, hpre⟩ := hP
  obtain ⟨-, -, -, hnamed, -, -, -, hat⟩ := (Spec.applies_iff hf).mp happ
  obtain ⟨hg, hn⟩ := and_e (Cond.before_iff.mp (show (Jvm.Cond.and given_1 narrow_1).before args s = true from hpre))
  obtain ⟨g0, q0⟩ := and_e hg
  obtain ⟨g1, q1⟩ := and_e q0
  obtain ⟨g2, q2⟩ := and_e q1
  obtain ⟨g3, q3⟩ := and_e q2
  obtain ⟨w0, w1, w2, w3, rfl⟩ : ∃ w0 w1 w2 w3 : Value, args = #[w0, w1, w2, w3] := by
    have hs : args.size = 4 := by simpa [Cond.value, given_1] using g0
    obtain ⟨L⟩ := args
    match L, hs with
    | [w0, w1, w2, w3], _ => exact ⟨w0, w1, w2, w3, rfl⟩
  have hw := fun d (hd : d ∈ tables_1) => atoms_spec (ws := Jvm.Cond.code x code maxLocals ret :: tables_1) hat d (List.mem_cons_of_mem _ hd)
  obtain ⟨i0, j0⟩ := is_v g1
  obtain rfl : w0 = (.int i0) := Option.some.inj j0
  obtain ⟨i1, j1⟩ := is_v g2
  obtain rfl : w1 = (.int i1) := Option.some.inj j1
  obtain ⟨i2, j2⟩ := is_v g3
  obtain rfl : w2 = (.int i2) := Option.some.inj j2
  obtain ⟨i3, j3⟩ := is_v q3
  obtain rfl : w3 = (.int i3) := Option.some.inj j3
  obtain ⟨n, o, h1, h2, h3, _, L, rfl, ⟨N, _, ⟨rfl, rfl⟩, -⟩, hq⟩ := con0 l s _ hw s.heap.size tables_1 i0 i1 i2 i3 s.heap (OWorld.start s) p e ha hc hk s m _ below hf ((Spec.applies_iff_loose hf).mp happ).1 ⟨rfl, State.Warmed39.refl s, rfl⟩ trivial
  refine ⟨n, _, h1, h2, h3, hpost _ _ _ _ _ _ ⟨Cond.after_iff.mpr rfl, Cond.after_iff.mpr (eq_i res_at (Term.int_eval (1)) rfl), trivial⟩ ⟨hq.1, hq.2.1, (hq.2.2.sift fun y hy => Or.inr (N y hy)).mono (by decide) (by decide)⟩⟩
theorem main_1_1 : Claimed_1_1 := comes_1 fun _ _ _ _ _ _ h hF => ⟨h.1, hF⟩
theorem main_1_2 : Claimed_1_2 := comes_1 fun _ _ _ _ _ _ h hF => ⟨h.2.1, hF⟩
end Jvm.Pilot.@@N@@
namespace Jvm.Pilot.@@N@@
open Jvm Jvm.ClassFile Sem Op Lib Jvm.Free Jvm.Stand Jvm.Pilot.@@N@@.Jvm.D
/-! MADE BY PROGRAM (witnessworld.py) out of the Statement's table words and the real class files: 11 classes; the members and pool entries that the words name. The judged class is class 1, her method 2. -/
namespace start1
open Jvm.ClassFile
def u (s : String) : CpInfo := .utf8 (stringToUtf16 s)
/-- a pool by its gaps: so many unusable entries, then the entry; so many at the end -/
def gap : Nat → List CpInfo → List CpInfo
  | 0, r => r
  | n + 1, r => .unusable :: gap n r
def poolList (es : List (Nat × CpInfo)) (last : Nat) : List CpInfo := es.foldr (fun e r => gap e.1 (e.2 :: r)) (gap last [])
def pool (es : List (Nat × CpInfo)) (last : Nat) : Array CpInfo := ⟨poolList es last⟩
def fileOf (pool : Array CpInfo) (this : Nat) (attrs : Array Attribute := #[]) (ms : Array MethodInfo := #[]) (fl : Nat := 33) (sup : Nat := 0) (ifs : Array Nat := #[]) (fds : Array FieldInfo := #[]) : ClassFile where
  minorVersion := 0
  majorVersion := 65
  constantPool := pool
  accessFlags := fl
  thisClass := this
  superClass := sup
  interfaces := ifs
  fields := fds
  methods := ms
  attributes := attrs
def plain (name : String) (sup : Option ClassId) : Class where
  name := name
  kind := .ordinary
  loader := none
  accessFlags := 33
  super := sup
  interfaces := #[]
  cf := none
  fields := #[]
  methods := #[]
  instanceTypes := #[]
  staticTypes := #[]
  resolved := #[]
  callSites := []
  init := .initialized
  statics := none
  mirror := none

def pool0 : Array CpInfo := pool [(5, u "<init>"), (0, u "()V"), (1, .class_ 10), (1, u "java/lang/Object")] 113

def k0c0 : Code := { maxStack := 0, maxLocals := 1, code := object_method_1_code, exceptionTable := #[], attributes := #[] }
def k0m0 : Method := { name := "<init>", desc := "()V", sig := { parameters := [], returnType := none }, accessFlags := 1, code := some k0c0 }
/-- java/lang/Object -/
def k0 : Class := { plain "java/lang/Object" none with
  accessFlags := 33
  interfaces := #[]
  cf := some (fileOf pool0 8 #[] #[{ accessFlags := 1, nameIndex := 5, descriptorIndex := 6, attributes := #[] }] 33 0 #[] #[])
  fields := #[]
  methods := #[k0m0]
  instanceTypes := #[]
  staticTypes := #[]
  resolved := Array.replicate 124 none
  statics := none }

def pool1 : Array CpInfo := pool [(2, .class_ 4), (1, u "java/lang/Object"), (0, u "<init>"), (0, u "()V"), (0, .class_ 8), (0, u "com/example/orderly_slopes/orderlyslopes/layout/OrthogonalGraph"), (0, .methodref 7 10), (0, .nameAndType 5 11), (0, u "(II)V"), (0, .methodref 7 13), (0, .nameAndType 14 15), (0, u "addEdge"), (0, u "(III)I"), (0, .methodref 17 18), (0, .class_ 19), (0, .nameAndType 20 15), (0, u "com/example/orderly_slopes/orderlyslopes/layout/OrthogonalGraphTurnPinLaw"), (0, u "dirOf"), (0, .methodref 7 22), (0, .nameAndType 23 24), (0, u "turn"), (0, u "(II)I"), (3, u "law"), (0, u "(IIII)Z")] 2

def k1m0 : Method := { name := "<init>", desc := "()V", sig := { parameters := [], returnType := none }, accessFlags := 1, code := none }
def k1c1 : Code := { maxStack := 2, maxLocals := 3, code := method_2_code, exceptionTable := #[], attributes := #[] }
def k1m1 : Method := { name := "dirOf", desc := "(III)I", sig := { parameters := [.int, .int, .int], returnType := some .int }, accessFlags := 10, code := some k1c1 }
def k1c2 : Code := { maxStack := 4, maxLocals := 12, code := code, exceptionTable := #[], attributes := #[] }
def k1m2 : Method := { name := "law", desc := "(IIII)Z", sig := { parameters := [.int, .int, .int, .int], returnType := some .boolean }, accessFlags := 9, code := some k1c2 }
/-- com/example/orderly_slopes/orderlyslopes/layout/OrthogonalGraphTurnPinLaw -/
def k1 : Class := { plain "com/example/orderly_slopes/orderlyslopes/layout/OrthogonalGraphTurnPinLaw" (some 0) with
  accessFlags := 49
  interfaces := #[]
  cf := some (fileOf pool1 17 #[] #[{ accessFlags := 1, nameIndex := 5, descriptorIndex := 6, attributes := #[] }, { accessFlags := 10, nameIndex := 20, descriptorIndex := 15, attributes := #[] }, { accessFlags := 9, nameIndex := 28, descriptorIndex := 29, attributes := #[] }] 49 2 #[] #[])
  fields := #[]
  methods := #[k1m0, k1m1, k1m2]
  instanceTypes := #[]
  staticTypes := #[]
  resolved := Array.replicate 32 none
  statics := none }

def pool2 : Array CpInfo := pool [(1, .methodref 2 3), (0, .class_ 4), (0, .nameAndType 5 6), (0, u "java/lang/Object"), (0, u "<init>"), (0, u "()V"), (0, .methodref 8 9), (0, .class_ 10), (0, .nameAndType 11 12), (0, u "java/lang/Math"), (0, u "max"), (0, u "(II)I"), (0, .fieldref 14 15), (0, .class_ 16), (0, .nameAndType 17 18), (0, u "com/example/orderly_slopes/orderlyslopes/layout/OrthogonalGraph"), (0, u "ports"), (0, u "[I"), (0, .methodref 20 21), (0, .class_ 22), (0, .nameAndType 23 24), (0, u "java/util/Arrays"), (0, u "fill"), (0, u "([II)V"), (0, .fieldref 14 26), (0, .nameAndType 27 28), (0, u "vertexCount"), (0, u "I"), (0, .fieldref 14 30), (0, .nameAndType 31 18), (0, u "origins"), (0, .fieldref 14 33), (0, .nameAndType 34 35), (0, u "directions"), (0, u "[B"), (0, .fieldref 14 37), (0, .nameAndType 38 28), (0, u "edgeCount"), (7, .methodref 14 47), (0, .nameAndType 48 49), (0, u "dartCount"), (0, u "()I"), (3, .methodref 14 54), (0, .nameAndType 55 56), (0, u "place"), (0, u "(III)V"), (16, u "EAST"), (2, u "NORTH"), (1, u "WEST"), (1, u "SOUTH"), (1, u "(II)V"), (7, u "addEdge"), (0, u "(III)I"), (7, u "turn")] 17

def k2c0 : Code := { maxStack := 4, maxLocals := 3, code := prog_33_method_1_code, exceptionTable := #[], attributes := #[] }
def k2m0 : Method := { name := "<init>", desc := "(II)V", sig := { parameters := [.int, .int], returnType := none }, accessFlags := 0, code := some k2c0 }
def k2c1 : Code := { maxStack := 2, maxLocals := 1, code := prog_33_method_4_code, exceptionTable := #[], attributes := #[] }
def k2m1 : Method := { name := "dartCount", desc := "()I", sig := { parameters := [], returnType := some .int }, accessFlags := 0, code := some k2c1 }
def k2c2 : Code := { maxStack := 5, maxLocals := 5, code := prog_33_method_10_code, exceptionTable := #[], attributes := #[] }
def k2m2 : Method := { name := "addEdge", desc := "(III)I", sig := { parameters := [.int, .int, .int], returnType := some .int }, accessFlags := 0, code := some k2c2 }
def k2c3 : Code := { maxStack := 3, maxLocals := 5, code := prog_33_method_14_code, exceptionTable := #[], attributes := #[] }
def k2m3 : Method := { name := "turn", desc := "(II)I", sig := { parameters := [.int, .int], returnType := some .int }, accessFlags := 0, code := some k2c3 }
def k2c4 : Code := { maxStack := 4, maxLocals := 4, code := prog_33_method_15_code, exceptionTable := #[], attributes := #[] }
def k2m4 : Method := { name := "place", desc := "(III)V", sig := { parameters := [.int, .int, .int], returnType := none }, accessFlags := 2, code := some k2c4 }
/-- com/example/orderly_slopes/orderlyslopes/layout/OrthogonalGraph -/
def k2 : Class := { plain "com/example/orderly_slopes/orderlyslopes/layout/OrthogonalGraph" (some 0) with
  accessFlags := 48
  interfaces := #[]
  cf := some (fileOf pool2 14 #[] #[{ accessFlags := 0, nameIndex := 5, descriptorIndex := 82, attributes := #[] }, { accessFlags := 0, nameIndex := 48, descriptorIndex := 49, attributes := #[] }, { accessFlags := 0, nameIndex := 90, descriptorIndex := 91, attributes := #[] }, { accessFlags := 0, nameIndex := 99, descriptorIndex := 12, attributes := #[] }, { accessFlags := 2, nameIndex := 55, descriptorIndex := 56, attributes := #[] }] 48 2 #[] #[{ accessFlags := 24, nameIndex := 73, descriptorIndex := 28, attributes := #[] }, { accessFlags := 24, nameIndex := 76, descriptorIndex := 28, attributes := #[] }, { accessFlags := 24, nameIndex := 78, descriptorIndex := 28, attributes := #[] }, { accessFlags := 24, nameIndex := 80, descriptorIndex := 28, attributes := #[] }, { accessFlags := 2, nameIndex := 17, descriptorIndex := 18, attributes := #[] }, { accessFlags := 2, nameIndex := 27, descriptorIndex := 28, attributes := #[] }, { accessFlags := 2, nameIndex := 31, descriptorIndex := 18, attributes := #[] }, { accessFlags := 2, nameIndex := 34, descriptorIndex := 35, attributes := #[] }, { accessFlags := 2, nameIndex := 38, descriptorIndex := 28, attributes := #[] }])
  fields := #[{ name := "EAST", type := .int, accessFlags := 24, slot := 0, constantValue := 0 }, { name := "NORTH", type := .int, accessFlags := 24, slot := 1, constantValue := 0 }, { name := "WEST", type := .int, accessFlags := 24, slot := 2, constantValue := 0 }, { name := "SOUTH", type := .int, accessFlags := 24, slot := 3, constantValue := 0 }, { name := "ports", type := (.array .int), accessFlags := 2, slot := 0, constantValue := 0 }, { name := "vertexCount", type := .int, accessFlags := 2, slot := 1, constantValue := 0 }, { name := "origins", type := (.array .int), accessFlags := 2, slot := 2, constantValue := 0 }, { name := "directions", type := (.array .byte), accessFlags := 2, slot := 3, constantValue := 0 }, { name := "edgeCount", type := .int, accessFlags := 2, slot := 4, constantValue := 0 }]
  methods := #[k2m0, k2m1, k2m2, k2m3, k2m4]
  instanceTypes := #[(.array .int), .int, (.array .int), (.array .byte), .int]
  staticTypes := #[.int, .int, .int, .int]
  resolved := Array.replicate 117 none
  statics := none }

def pool3 : Array CpInfo := pool [(1, .class_ 2), (0, u "java/lang/Math"), (1, .class_ 6), (1, u "java/lang/Object"), (0, u "<init>"), (0, u "()V"), (89, .class_ 100), (1, u "java/lang/Math$RandomNumberGeneratorHolder"), (71, u "negativeZeroFloatBits"), (0, u "J"), (2, u "negativeZeroDoubleBits"), (21, u "max"), (46, u "$assertionsDisabled"), (0, u "Z"), (88, u "(II)I"), (2, u "twoToTheDoubleScaleDown"), (0, u "D"), (4, u "twoToTheDoubleScaleUp"), (9, u "E"), (3, u "PI"), (2, u "TAU"), (2, u "DEGREES_TO_RADIANS"), (0, u "RADIANS_TO_DEGREES")] 94

def k3m0 : Method := { name := "<init>", desc := "()V", sig := { parameters := [], returnType := none }, accessFlags := 2, code := none }
def k3c1 : Code := { maxStack := 2, maxLocals := 2, code := jdk_29_method_65_code, exceptionTable := #[], attributes := #[] }
def k3m1 : Method := { name := "max", desc := "(II)I", sig := { parameters := [.int, .int], returnType := some .int }, accessFlags := 9, code := some k3c1 }
/-- java/lang/Math -/
def k3 : Class := { plain "java/lang/Math" (some 0) with
  accessFlags := 49
  interfaces := #[]
  cf := some (fileOf pool3 1 #[.nestMembers #[98]] #[{ accessFlags := 2, nameIndex := 7, descriptorIndex := 8, attributes := #[] }, { accessFlags := 9, nameIndex := 198, descriptorIndex := 335, attributes := #[] }] 49 4 #[] #[{ accessFlags := 25, nameIndex := 354, descriptorIndex := 339, attributes := #[] }, { accessFlags := 25, nameIndex := 358, descriptorIndex := 339, attributes := #[] }, { accessFlags := 25, nameIndex := 361, descriptorIndex := 339, attributes := #[] }, { accessFlags := 26, nameIndex := 364, descriptorIndex := 339, attributes := #[] }, { accessFlags := 26, nameIndex := 365, descriptorIndex := 339, attributes := #[] }, { accessFlags := 26, nameIndex := 172, descriptorIndex := 173, attributes := #[] }, { accessFlags := 26, nameIndex := 176, descriptorIndex := 173, attributes := #[] }, { accessFlags := 8, nameIndex := 344, descriptorIndex := 339, attributes := #[] }, { accessFlags := 8, nameIndex := 338, descriptorIndex := 339, attributes := #[] }, { accessFlags := 4120, nameIndex := 245, descriptorIndex := 246, attributes := #[] }])
  fields := #[{ name := "E", type := .double, accessFlags := 25, slot := 0, constantValue := 0 }, { name := "PI", type := .double, accessFlags := 25, slot := 1, constantValue := 0 }, { name := "TAU", type := .double, accessFlags := 25, slot := 2, constantValue := 0 }, { name := "DEGREES_TO_RADIANS", type := .double, accessFlags := 26, slot := 3, constantValue := 0 }, { name := "RADIANS_TO_DEGREES", type := .double, accessFlags := 26, slot := 4, constantValue := 0 }, { name := "negativeZeroFloatBits", type := .long, accessFlags := 26, slot := 5, constantValue := 0 }, { name := "negativeZeroDoubleBits", type := .long, accessFlags := 26, slot := 6, constantValue := 0 }, { name := "twoToTheDoubleScaleUp", type := .double, accessFlags := 8, slot := 7, constantValue := 0 }, { name := "twoToTheDoubleScaleDown", type := .double, accessFlags := 8, slot := 8, constantValue := 0 }, { name := "$assertionsDisabled", type := .boolean, accessFlags := 4120, slot := 9, constantValue := 0 }]
  methods := #[k3m0, k3m1]
  instanceTypes := #[]
  staticTypes := #[.double, .double, .double, .double, .double, .long, .long, .double, .double, .boolean]
  resolved := Array.replicate 460 none
  statics := none }

def pool4 : Array CpInfo := pool [(2, .class_ 4), (1, u "java/lang/Object"), (0, u "<init>"), (0, u "()V"), (7, .class_ 16), (1, u "java/util/Arrays"), (57, .class_ 76), (1, u "java/util/Arrays$NaturalOrder"), (36, .class_ 115), (1, u "java/util/Arrays$LegacyMergeSort"), (1, u "Z"), (257, .class_ 376), (0, u "java/util/Arrays$ArrayList"), (68, u "$assertionsDisabled"), (269, u "MIN_ARRAY_SORT_GRAN"), (0, u "I"), (2, u "INSERTIONSORT_THRESHOLD"), (120, u "fill"), (4, u "([II)V"), (129, .class_ 976), (0, u "java/util/Arrays$ArrayItr")] 52

def k4m0 : Method := { name := "<init>", desc := "()V", sig := { parameters := [], returnType := none }, accessFlags := 2, code := none }
def k4c1 : Code := { maxStack := 3, maxLocals := 4, code := jdk_65_method_103_code, exceptionTable := #[], attributes := #[] }
def k4m1 : Method := { name := "fill", desc := "([II)V", sig := { parameters := [(.array .int), .int], returnType := none }, accessFlags := 9, code := some k4c1 }
/-- java/util/Arrays -/
def k4 : Class := { plain "java/util/Arrays" (some 0) with
  accessFlags := 49
  interfaces := #[]
  cf := some (fileOf pool4 14 #[.nestMembers #[975, 375, 113, 74]] #[{ accessFlags := 2, nameIndex := 5, descriptorIndex := 6, attributes := #[] }, { accessFlags := 9, nameIndex := 840, descriptorIndex := 845, attributes := #[] }] 49 2 #[] #[{ accessFlags := 26, nameIndex := 715, descriptorIndex := 716, attributes := #[] }, { accessFlags := 26, nameIndex := 719, descriptorIndex := 716, attributes := #[] }, { accessFlags := 4120, nameIndex := 445, descriptorIndex := 117, attributes := #[] }])
  fields := #[{ name := "MIN_ARRAY_SORT_GRAN", type := .int, accessFlags := 26, slot := 0, constantValue := 0 }, { name := "INSERTIONSORT_THRESHOLD", type := .int, accessFlags := 26, slot := 1, constantValue := 0 }, { name := "$assertionsDisabled", type := .boolean, accessFlags := 4120, slot := 2, constantValue := 0 }]
  methods := #[k4m0, k4m1]
  instanceTypes := #[]
  staticTypes := #[.int, .int, .boolean]
  resolved := Array.replicate 1029 none
  statics := none }

def pool5 : Array CpInfo := pool [(1, u "java/lang/Cloneable"), (0, .class_ 1), (0, u "java/lang/Object"), (0, .class_ 3)] 3

/-- java/lang/Cloneable -/
def k5 : Class := { plain "java/lang/Cloneable" (some 0) with
  accessFlags := 1537
  interfaces := #[]
  cf := some (fileOf pool5 2 #[] #[] 1537 4 #[] #[])
  fields := #[]
  methods := #[]
  instanceTypes := #[]
  staticTypes := #[]
  resolved := Array.replicate 8 none
  statics := none }

def pool6 : Array CpInfo := pool [(1, u "java/io/Serializable"), (0, .class_ 1), (0, u "java/lang/Object"), (0, .class_ 3)] 3

/-- java/io/Serializable -/
def k6 : Class := { plain "java/io/Serializable" (some 0) with
  accessFlags := 1537
  interfaces := #[]
  cf := some (fileOf pool6 2 #[] #[] 1537 4 #[] #[])
  fields := #[]
  methods := #[]
  instanceTypes := #[]
  staticTypes := #[]
  resolved := Array.replicate 8 none
  statics := none }

/-- the primitive byte -/
def k7 : Class := { plain "byte" none with kind := .primitive 'B', accessFlags := 0x411 }
/-- [B -/
def k8 : Class := { plain "[B" (some 0) with kind := .array 7 .byte, interfaces := #[5, 6], accessFlags := 1041 }

/-- the primitive int -/
def k9 : Class := { plain "int" none with kind := .primitive 'I', accessFlags := 0x411 }
/-- [I -/
def k10 : Class := { plain "[I" (some 0) with kind := .array 9 .int, interfaces := #[5, 6], accessFlags := 1041 }

def heap : Heap := #[]
def classes : Array Class := #[k0, k1, k2, k3, k4, k5, k6, k7, k8, k9, k10]
def interned : List (Array UInt16 × Addr) := []
def slotsUsed : Nat := 0
def theMethod : MethodId := ⟨1, 2⟩
def args0 : Array Value := #[.int 5, .int 6, .int 7, .int 8]
def aboutOver (below : List Frame) : State where
  vm := { classes := classes, interned := interned.toArray }
  heap := heap
  slotsUsed := slotsUsed
  threads := #[{ frames := .invoking theMethod args0 :: below }]
def below0 : List Frame := [.native { method := ⟨0, 0⟩, args := #[] }]
def about1 : State := aboutOver below0
def p0 : Program := .bare "" "" ""
def e0 : Env := launch0.env 0 0 0
theorem w_frames : about1.frames = Frame.invoking theMethod args0 :: below0 := rfl
set_option maxRecDepth 65536 in
theorem w_args : argsFit about1.vm theMethod args0 = true := by decide +kernel
set_option maxRecDepth 65536 in
theorem w_heap : heapFits about1 = true := by decide +kernel
set_option maxRecDepth 65536 in
theorem w_runnable : about1.curStatus? = some .runnable := by decide +kernel
set_option maxRecDepth 65536 in
theorem w_alone : about1.alone = true := by decide +kernel
set_option maxRecDepth 65536 in
theorem w_named : about1.methodNamed? x = some theMethod := by decide +kernel
set_option maxRecDepth 65536 in
theorem w_hears : about1.hears theMethod below0 = true := by decide +kernel
set_option maxRecDepth 65536 in
theorem w_ripe : about1.ripe theMethod args0 below0 = true := by decide +kernel
theorem w_running : about1.status = .running := rfl
set_option maxRecDepth 65536 in
theorem w_room : about1.hasRoom e0.platform room_1 = true :=
  launch0.hasRoom_least _ room_1 (by decide +kernel) (by decide +kernel) (by decide +kernel) (by decide +kernel) (by decide +kernel) (by decide +kernel)
theorem allAtoms_all (ts : List Jvm.Cond) (a : Array Jvm.Value) (st : Jvm.State) : (allAtoms ts).before a st = ts.all (fun c => c.before a st) := by
  induction ts with
  | nil => rfl
  | cons c t ih =>
    show (Jvm.Cond.and c (allAtoms t)).before a st = _
    rw [Jvm.Cond.before_and, ih, List.all_cons]
def words1 : List Jvm.Cond := Jvm.Cond.code x code maxLocals ret :: tables_1
/-- a 'code' word, met by the world's own term for the bytes: nothing is compared byte by byte -/
theorem code_word {y : MethodName} {bytes : ByteArray} {mx : Nat} {rt : Option FieldType} {a : Array Value} {s : State} {m : MethodId} {meth : Method} {c : Code} (h1 : s.methodNamed? y = some m) (h2 : s.vm.method? m = some meth) (h3 : meth.code = some c) (h4 : c.code = bytes)
    (h5 : (c.maxLocals == mx && c.exceptionTable.isEmpty && decide (c.maxStack ≤ mostOperands) && decide (meth.sig.returnType = rt) && !meth.locks && decide (parseMethodDescriptor y.desc = some meth.sig)) = true) : (Jvm.Cond.code y bytes mx rt).before a s = true := by
  simp only [Bool.and_eq_true, beq_iff_eq, Bool.not_eq_true', decide_eq_true_eq] at h5
  obtain ⟨⟨⟨⟨⟨g1, g2⟩, g3⟩, g4⟩, g5⟩, g6⟩ := h5
  simp [Cond.before, Cond.holds, Cond.value, h1, h2, h3, h4, g1, g2, g3, g4, g5, g6]
def isCode : Jvm.Cond → Bool
  | .code _ _ _ _ => true
  | _ => false
theorem all_split {L : List Jvm.Cond} {P : Jvm.Cond → Bool} (h1 : L.all (fun c => isCode c || P c) = true) (h2 : ∀ c ∈ L.filter isCode, P c = true) : L.all P = true := by
  refine List.all_eq_true.mpr fun c hc => ?_
  have h := List.all_eq_true.mp h1 c hc
  rcases Bool.eq_false_or_eq_true (isCode c) with hi | hi
  · exact h2 c (List.mem_filter.mpr ⟨hc, hi⟩)
  · simpa [hi] using h
set_option maxRecDepth 65536 in
theorem w_c0 : (Jvm.Cond.code x code maxLocals ret).before args0 about1 = true := code_word (m := ⟨1, 2⟩) (meth := k1m2) (c := k1c2) (by decide +kernel) rfl rfl rfl (by decide +kernel)
set_option maxRecDepth 65536 in
theorem w_c1 : (Jvm.Cond.code ({ cls := "com/example/orderly_slopes/orderlyslopes/layout/OrthogonalGraph", name := "<init>", desc := "(II)V" } : Jvm.MethodName) prog_33_method_1_code (3 : Nat) (Option.none : Option Jvm.ClassFile.FieldType)).before args0 about1 = true := code_word (m := ⟨2, 0⟩) (meth := k2m0) (c := k2c0) (by decide +kernel) rfl rfl rfl (by decide +kernel)
set_option maxRecDepth 65536 in
theorem w_c2 : (Jvm.Cond.code ({ cls := "java/lang/Object", name := "<init>", desc := "()V" } : Jvm.MethodName) object_method_1_code (1 : Nat) (Option.none : Option Jvm.ClassFile.FieldType)).before args0 about1 = true := code_word (m := ⟨0, 0⟩) (meth := k0m0) (c := k0c0) (by decide +kernel) rfl rfl rfl (by decide +kernel)
set_option maxRecDepth 65536 in
theorem w_c3 : (Jvm.Cond.code ({ cls := "java/lang/Math", name := "max", desc := "(II)I" } : Jvm.MethodName) jdk_29_method_65_code (2 : Nat) (Option.some Jvm.ClassFile.FieldType.int)).before args0 about1 = true := code_word (m := ⟨3, 1⟩) (meth := k3m1) (c := k3c1) (by decide +kernel) rfl rfl rfl (by decide +kernel)
set_option maxRecDepth 65536 in
theorem w_c4 : (Jvm.Cond.code ({ cls := "java/util/Arrays", name := "fill", desc := "([II)V" } : Jvm.MethodName) jdk_65_method_103_code (4 : Nat) (Option.none : Option Jvm.ClassFile.FieldType)).before args0 about1 = true := code_word (m := ⟨4, 1⟩) (meth := k4m1) (c := k4c1) (by decide +kernel) rfl rfl rfl (by decide +kernel)
set_option maxRecDepth 65536 in
theorem w_c5 : (Jvm.Cond.code ({ cls := "com/example/orderly_slopes/orderlyslopes/layout/OrthogonalGraph", name := "addEdge", desc := "(III)I" } : Jvm.MethodName) prog_33_method_10_code (5 : Nat) (Option.some Jvm.ClassFile.FieldType.int)).before args0 about1 = true := code_word (m := ⟨2, 2⟩) (meth := k2m2) (c := k2c2) (by decide +kernel) rfl rfl rfl (by decide +kernel)
set_option maxRecDepth 65536 in
theorem w_c6 : (Jvm.Cond.code ({ cls := "com/example/orderly_slopes/orderlyslopes/layout/OrthogonalGraph", name := "dartCount", desc := "()I" } : Jvm.MethodName) prog_33_method_4_code (1 : Nat) (Option.some Jvm.ClassFile.FieldType.int)).before args0 about1 = true := code_word (m := ⟨2, 1⟩) (meth := k2m1) (c := k2c1) (by decide +kernel) rfl rfl rfl (by decide +kernel)
set_option maxRecDepth 65536 in
theorem w_c7 : (Jvm.Cond.code ({ cls := "com/example/orderly_slopes/orderlyslopes/layout/OrthogonalGraph", name := "place", desc := "(III)V" } : Jvm.MethodName) prog_33_method_15_code (4 : Nat) (Option.none : Option Jvm.ClassFile.FieldType)).before args0 about1 = true := code_word (m := ⟨2, 4⟩) (meth := k2m4) (c := k2c4) (by decide +kernel) rfl rfl rfl (by decide +kernel)
set_option maxRecDepth 65536 in
theorem w_c8 : (Jvm.Cond.code ({ cls := "com/example/orderly_slopes/orderlyslopes/layout/OrthogonalGraphTurnPinLaw", name := "dirOf", desc := "(III)I" } : Jvm.MethodName) method_2_code (3 : Nat) (Option.some Jvm.ClassFile.FieldType.int)).before args0 about1 = true := code_word (m := ⟨1, 1⟩) (meth := k1m1) (c := k1c1) (by decide +kernel) rfl rfl rfl (by decide +kernel)
set_option maxRecDepth 65536 in
theorem w_c9 : (Jvm.Cond.code ({ cls := "com/example/orderly_slopes/orderlyslopes/layout/OrthogonalGraph", name := "turn", desc := "(II)I" } : Jvm.MethodName) prog_33_method_14_code (5 : Nat) (Option.some Jvm.ClassFile.FieldType.int)).before args0 about1 = true := code_word (m := ⟨2, 3⟩) (meth := k2m3) (c := k2c3) (by decide +kernel) rfl rfl rfl (by decide +kernel)
def codes1 : List Jvm.Cond := [Jvm.Cond.code x code maxLocals ret, Jvm.Cond.code ({ cls := "com/example/orderly_slopes/orderlyslopes/layout/OrthogonalGraph", name := "<init>", desc := "(II)V" } : Jvm.MethodName) prog_33_method_1_code (3 : Nat) (Option.none : Option Jvm.ClassFile.FieldType), Jvm.Cond.code ({ cls := "java/lang/Object", name := "<init>", desc := "()V" } : Jvm.MethodName) object_method_1_code (1 : Nat) (Option.none : Option Jvm.ClassFile.FieldType), Jvm.Cond.code ({ cls := "java/lang/Math", name := "max", desc := "(II)I" } : Jvm.MethodName) jdk_29_method_65_code (2 : Nat) (Option.some Jvm.ClassFile.FieldType.int), Jvm.Cond.code ({ cls := "java/util/Arrays", name := "fill", desc := "([II)V" } : Jvm.MethodName) jdk_65_method_103_code (4 : Nat) (Option.none : Option Jvm.ClassFile.FieldType), Jvm.Cond.code ({ cls := "com/example/orderly_slopes/orderlyslopes/layout/OrthogonalGraph", name := "addEdge", desc := "(III)I" } : Jvm.MethodName) prog_33_method_10_code (5 : Nat) (Option.some Jvm.ClassFile.FieldType.int), Jvm.Cond.code ({ cls := "com/example/orderly_slopes/orderlyslopes/layout/OrthogonalGraph", name := "dartCount", desc := "()I" } : Jvm.MethodName) prog_33_method_4_code (1 : Nat) (Option.some Jvm.ClassFile.FieldType.int), Jvm.Cond.code ({ cls := "com/example/orderly_slopes/orderlyslopes/layout/OrthogonalGraph", name := "place", desc := "(III)V" } : Jvm.MethodName) prog_33_method_15_code (4 : Nat) (Option.none : Option Jvm.ClassFile.FieldType), Jvm.Cond.code ({ cls := "com/example/orderly_slopes/orderlyslopes/layout/OrthogonalGraphTurnPinLaw", name := "dirOf", desc := "(III)I" } : Jvm.MethodName) method_2_code (3 : Nat) (Option.some Jvm.ClassFile.FieldType.int), Jvm.Cond.code ({ cls := "com/example/orderly_slopes/orderlyslopes/layout/OrthogonalGraph", name := "turn", desc := "(II)I" } : Jvm.MethodName) prog_33_method_14_code (5 : Nat) (Option.some Jvm.ClassFile.FieldType.int)]
set_option maxRecDepth 65536 in
theorem codes_eq : words1.filter isCode = codes1 := rfl
theorem w_codes : ∀ c ∈ words1.filter isCode, c.before args0 about1 = true := by
  rw [codes_eq]
  intro c hc
  simp only [codes1, List.mem_cons, List.not_mem_nil, or_false] at hc
  rcases hc with rfl | rfl | rfl | rfl | rfl | rfl | rfl | rfl | rfl | rfl
  · exact w_c0
  · exact w_c1
  · exact w_c2
  · exact w_c3
  · exact w_c4
  · exact w_c5
  · exact w_c6
  · exact w_c7
  · exact w_c8
  · exact w_c9
set_option maxRecDepth 65536 in
theorem w_t1 : (words1.take 24).all (fun c => isCode c || c.before args0 about1) = true := by decide +kernel
set_option maxRecDepth 65536 in
theorem w_t2 : ((words1.drop 24).take 24).all (fun c => isCode c || c.before args0 about1) = true := by decide +kernel
set_option maxRecDepth 65536 in
theorem w_t3 : ((words1.drop 24).drop 24).all (fun c => isCode c || c.before args0 about1) = true := by decide +kernel
theorem w_tables : (allAtoms (Jvm.Cond.code x code maxLocals ret :: tables_1)).before args0 about1 = true := by
  rw [allAtoms_all]
  show words1.all (fun c => c.before args0 about1) = true
  refine all_split ?_ w_codes
  rw [← List.take_append_drop 24 words1, List.all_append, w_t1, ← List.take_append_drop 24 (words1.drop 24), List.all_append, w_t2, w_t3]
  rfl
set_option maxRecDepth 65536 in
theorem w_case : (Jvm.Cond.and given_1 narrow_1).before args0 about1 = true := by decide +kernel
theorem w_applies : (headSpec (Jvm.Cond.code x code maxLocals ret :: tables_1) room_1).applies x e0.platform about1 = true :=
  (Spec.applies_iff w_frames).mpr ⟨w_running, w_runnable, w_alone, w_named, w_hears, w_ripe, w_room, w_tables⟩
theorem atStart : AtStart classFile x code maxLocals ret World_1 tables_1 room_1 Calls_1 rest_1 Pre_1 launch0 p0 e0 about1 theMethod args0 below0 :=
  ⟨lists_1, trivial, launch0.admits_env _ _ _, launch0.least_env, fairChoices_fair.cas, fairChoices_fair.clock, w_frames, w_args, w_heap, w_applies, trivial, trivial, w_case⟩
end start1
theorem witness_1 : WitnessClaimed_1 := ⟨start1.p0, start1.e0, start1.about1, start1.theMethod, start1.args0, start1.below0, start1.atStart⟩
end Jvm.Pilot.@@N@@
