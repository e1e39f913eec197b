import JvmDerived
import JvmDerived.Pilot.@@N@@Statement
import JvmDerived.Pilot.@@N@@Code
set_option linter.unusedVariables false
set_option linter.unusedSimpArgs false
@@BLOCK:NumsL.lean.txt@@
namespace Jvm.RoadKit
open Sem ClassFile Op Lib Jvm.Stand Jvm.Free Jvm.LawKit
section New
variable {p : Program} {l : Launch} {e : Env} {R : Room} {s : State} {m : MethodId} {args : Array Value} {below : List Frame} {meth : Method} {c : Code} {T : State} {locs : List Loc} {cells slots : Nat}
theorem retI (X : Stand p l e R s m args below meth c T locs cells slots) (hx : p.tables.exec = Jvm.exec) {pc : Nat} {Ls : Array Slot} {z : Int32} {rest : List Value} (hret : meth.sig.returnType = some .int) (hd : decode c.code pc = .ok (.ireturn, 1)) {fs : List Frame}
    (hl : ∀ (f : JFrame) (acts : List Action), f.method = m → f.locked = none → f.entered = [] → (doReturn e (T.setTop f) acts (some (.int z))).1 = T.setFrames fs) : Steps p.tables e below (T.setTop (mkF m pc Ls (.int z :: rest))) (T.setFrames fs) := by
  have hm' : T.vm.method? m = some meth := X.method'
  have hn : narrow .int (.int z) = .int z := rfl
  show Steps p.tables e below (T.setTop { method := m, pc := pc, locals := Ls, stack := _ :: rest, locked := none }) _
  jvm_step X.here [X.here.top, hx, hd, hm', hret, hn]
  first | (intro acts; rw [hl _ acts rfl rfl rfl]) | rw [hl _ _ rfl rfl rfl]
  exact Steps.refl _
end New
/-! the rest of a body: it ends, with what Q says of the value, the heap and the written places -/
section Own
variable {p : Program} {l : Launch} {e : Env} {R : Room} {s : State} {m : MethodId} {args : Array Value} {below : List Frame} {meth : Method} {c : Code} {T : State} {locs : List Loc} {cells slots : Nat} {k n : Nat} {Q : Option Value → Heap → List Loc → Prop} {Z : State} {a0 : Array Value} {h : Heap}
def OEnds (p : Program) (e : Env) (below : List Frame) (s : State) (k n : Nat) (Q : Option Value → Heap → List Loc → Prop) (A : State) : Prop :=
  ∃ s₂ o, Steps p.tables e below A s₂ ∧ s₂.status = .running ∧ Ended s₂ below o ∧ ∃ v L, o = .returned v ∧ Q v s₂.heap L ∧ FrameEnd s o s₂ L k n
theorem OEnds.pre {A B : State} (h : ∀ t, Steps p.tables e below B t → Steps p.tables e below A t) (hB : OEnds p e below s k n Q B) : OEnds p e below s k n Q A := by
  obtain ⟨s₂, o, h1, h2⟩ := hB
  exact ⟨s₂, o, h _ h1, h2⟩
theorem OEnds.int (X : Stand p l e R s m args below meth c T locs cells slots) (hx : p.tables.exec = Jvm.exec) (hlocks : meth.locks = false) (hret : meth.sig.returnType = some .int) {pc : Nat} {Ls : Array Slot} {z : Int32} {rest : List Value} (hd : decode c.code pc = .ok (.ireturn, 1)) (hk : cells ≤ k) (hn : slots ≤ n)
    (hQ : Q (some (.int z)) T.heap locs) : OEnds p e below s k n Q (T.setTop (mkF m pc Ls (.int z :: rest))) := by
  obtain ⟨fs, hr, hrun, hended, hW, hsame⟩ := X.leave (v := some (.int z)) (fun h => by rw [hret] at h; cases h) hlocks
  exact ⟨_, _, retI X hx hret hd hr, hrun, hended, _, _, rfl, hQ, ⟨_, rfl⟩, hW, hsame.mono hk hn⟩
theorem OEnds.nrw {ty : FieldType} (X : Stand p l e R s m args below meth c T locs cells slots) (hx : p.tables.exec = Jvm.exec) (hlocks : meth.locks = false) (hret : meth.sig.returnType = some ty) (ht : ty = .boolean ∨ ty = .byte ∨ ty = .char ∨ ty = .short) {pc : Nat} {Ls : Array Slot} {z : Int32} {rest : List Value} (hd : decode c.code pc = .ok (.ireturn, 1)) (hk : cells ≤ k) (hn : slots ≤ n)
    (hQ : Q (some (.int (nar ty z))) T.heap locs) : OEnds p e below s k n Q (T.setTop (mkF m pc Ls (.int z :: rest))) := by
  obtain ⟨fs, hr, hrun, hended, hW, hsame⟩ := X.leave (v := some (.int (nar ty z))) (fun h => by rw [hret] at h; cases h) hlocks
  exact ⟨_, _, retN X hx hret ht hd hr, hrun, hended, _, _, rfl, hQ, ⟨_, rfl⟩, hW, hsame.mono hk hn⟩
theorem OEnds.long (X : Stand p l e R s m args below meth c T locs cells slots) (hx : p.tables.exec = Jvm.exec) (hlocks : meth.locks = false) (hret : meth.sig.returnType = some .long) {pc : Nat} {Ls : Array Slot} {z : Int64} (hd : decode c.code pc = .ok (.lreturn, 1)) (hk : cells ≤ k) (hn : slots ≤ n)
    (hQ : Q (some (.long z)) T.heap locs) : OEnds p e below s k n Q (T.setTop (mkF m pc Ls [.long z])) := by
  obtain ⟨fs, hr, hrun, hended, hW, hsame⟩ := X.leave (v := some (.long z)) (fun h => by rw [hret] at h; cases h) hlocks
  exact ⟨_, _, X.lreturnOut hx hret hd hr, hrun, hended, _, _, rfl, hQ, ⟨_, rfl⟩, hW, hsame.mono hk hn⟩
/-- a static call of a method that writes nothing, by its contract -/
theorem callPure (X : Stand p l e R s m args below meth c T locs cells slots) (hx : p.tables.exec = Jvm.exec) (hZ : Z.Warmed39 s.vm) {own : String} {index : Nat} {y : MethodName} {bytes : ByteArray} {maxL : Nat} {ret : Option FieldType} {rm : Room} {as' : Array Value} {v : Value} {W : Nat}
    (hown : s.vm.findClass own = some m.cls) (w1 : (Cond.methodLink own index y).before a0 Z = true) (w2 : (Cond.static y).before a0 Z = true) (w3 : (Cond.initialized y.cls).before a0 Z = true) (w4 : (Cond.code y bytes maxL ret).before a0 Z = true) (hy : y.cls ≠ "java/lang/invoke/MethodHandle" ∧ y.cls ≠ "java/lang/invoke/VarHandle")
    (eT : T.heap = h)
    (hM : MetFree l y (head1 [Cond.code y bytes maxL ret] rm) (fun a U => a = as' ∧ Z.Warmed39 U.vm ∧ U.heap = h) (fun _ _ _ _ _ => True) (fun _ U o U' => ∃ v' L, o = .returned v' ∧ (v' = some v ∧ L = [] ∧ U'.heap = h) ∧ FrameEnd U o U' L rm.cells rm.slots))
    (hc0 : rm.cells = 0) (hs0 : rm.slots = 0) (hf : rm.frames + 1 ≤ R.frames) (hl : W + (maxL + 11) + rm.locals ≤ R.locals)
    {pc : Nat} {Ls : Array Slot} {argsL rest : List Value} (hsize : Ls.size = c.maxLocals) (hlen : ∀ sig, parseMethodDescriptor y.desc = some sig → argsL.length = sig.parameters.length) (has : argsL.toArray = as') (hW : (rest.map fun v => v.category).sum ≤ W)
    (hd : decode c.code pc = .ok (.invokestatic index, 3)) (hcells : cells ≤ R.cells) (hslots : slots ≤ R.slots) :
    ∃ T', Stand p l e R s m args below meth c T' locs cells slots ∧ T'.heap = h ∧
      ∀ target, Steps p.tables e below (T'.setTop (mkF m (pc + 3) Ls (v :: rest))) target → Steps p.tables e below (T.setTop (mkF m pc Ls (argsL.reverse ++ rest))) target := by
  obtain ⟨v', vm₁, ⟨T1, L1, k1, n1⟩, -, X1, ⟨Lc, ⟨e1, e2, e3⟩, l1, y1, z1⟩, st⟩ := Jvm.LawKit.callS X hx (y := y) hown (mvT hZ w1) (mvT hZ w2) (mvT hZ w3) (mvT hZ w4) hy
    (backOf (W := W) (Q := fun v' h' L => v' = some v ∧ L = [] ∧ h' = h) hM hZ w4 w3 hf hl) (g := mkF m pc Ls (argsL.reverse ++ rest)) rfl hsize (argsL := argsL) (rest := rest) hlen rfl
    (by show 2 * 0 + _ ≤ _; rw [Nat.mul_zero, Nat.zero_add]; exact hW) hd (fun _ _ => ⟨has, eT, by rw [hc0]; exact hcells, by rw [hs0]; exact hslots⟩)
  dsimp only [Pt.U, Pt.locs, Pt.cells, Pt.slots] at X1 l1 y1 z1 st e3
  subst l1 y1 z1 e1 e2
  rw [hc0, hs0, List.append_nil, Nat.add_zero, Nat.add_zero] at X1
  exact ⟨T1, X1, e3, st⟩
end Own
end Jvm.RoadKit
namespace Jvm.RoadKit
open Sem ClassFile Op Lib Jvm.Stand Jvm.Free Jvm.LawKit
theorem nd_eq {α : Type} {l : List α} (N : l.Nodup) {i j : Nat} {x : α} (hi : l[i]? = some x) (hj : l[j]? = some x) : i = j := by
  obtain ⟨h1, e1⟩ := List.getElem?_eq_some_iff.mp hi
  obtain ⟨h2, e2⟩ := List.getElem?_eq_some_iff.mp hj
  have P := List.pairwise_iff_getElem.mp N
  rcases Nat.lt_trichotomy i j with h | h | h
  · exact absurd (e1.trans e2.symm) (P i j h1 h2 h)
  · exact h
  · exact absurd (e2.trans e1.symm) (P j i h2 h1 h)
/-! what the walk knows of the cells that it made: objects by their fields, arrays by their exact contents -/
section OWorld
variable {Z : State} {n0 : Nat} {h h' : Heap} {a b : Addr} {C O nm d : String} {ty : FieldType} {vs : List Value} {v old : Value} {sl : Nat}
def OAL (Z : State) (h : Heap) (a : Addr) (ty : FieldType) (vs : List Value) : Prop := ∃ c : Cell, Arr Z h a c ty ∧ c.slots = vs.toArray
abbrev OFEnt := String × String × String × Value
abbrev OEnt := Addr × String × List OFEnt × Option (FieldType × List Value)
abbrev eO (a : Addr) (C : String) (fs : List OFEnt) : OEnt := (a, C, fs, none)
abbrev eA (a : Addr) (ty : FieldType) (vs : List Value) : OEnt := (a, "", [], some (ty, vs))
def OObjOk (Z : State) (h : Heap) (a : Addr) (C : String) (fs : List OFEnt) : Prop :=
  Exa Z h a C ∧ (∀ f ∈ fs, Fld Z h a f.1 f.2.1 f.2.2.1 f.2.2.2) ∧ (fs.map fun f => slotOf Z f.1 f.2.1 f.2.2.1).Nodup
def OEntOk (Z : State) (h : Heap) (e : OEnt) : Prop := match e.2.2.2 with
  | none => OObjOk Z h e.1 e.2.1 e.2.2.1
  | some q => OAL Z h e.1 q.1 q.2
def OWorld (Z : State) (n0 : Nat) (h : Heap) (es : List OEnt) : Prop := Old Z n0 h ∧ (∀ e ∈ es, n0 ≤ e.1 ∧ OEntOk Z h e) ∧ (es.map (·.1)).Nodup
theorem OAL.lt (F : OAL Z h a ty vs) : a < h.size := by obtain ⟨c, A, -⟩ := F; exact A.lt
theorem OAL.ext (F : OAL Z h a ty vs) (E : Ext h h') : OAL Z h' a ty vs := by obtain ⟨c, A, r⟩ := F; exact ⟨c, A.ext E, r⟩
theorem OAL.other (F : OAL Z h b ty vs) (W : Wr h h' a sl v) (q : b ≠ a) : OAL Z h' b ty vs := by obtain ⟨c, A, r⟩ := F; exact ⟨c, A.other W q, r⟩
theorem OAL.same (F : OAL Z h a ty vs) (W : Wr h h' a sl v) : OAL Z h' a ty (vs.set sl v) := by
  obtain ⟨c, A, r⟩ := F
  refine ⟨_, A.same W, ?_⟩
  simp [Cell.setSlot, r]
theorem OAL.new {cA : ClassId} {z : Int32} (A : Arr Z h a (newA cA ty z) ty) : OAL Z h a ty (List.replicate z.toNatClampNeg (defaultValue ty)) :=
  ⟨_, A, by simp [newA]⟩
theorem OObjOk.lt {fs : List OFEnt} (F : OObjOk Z h a C fs) : a < h.size := F.1.lt
theorem OObjOk.ext {fs : List OFEnt} (F : OObjOk Z h a C fs) (E : Ext h h') : OObjOk Z h' a C fs := ⟨F.1.ext E, fun f hf => (F.2.1 f hf).ext E, F.2.2⟩
theorem OObjOk.other {fs : List OFEnt} (F : OObjOk Z h b C fs) (W : Wr h h' a sl v) (q : b ≠ a) : OObjOk Z h' b C fs := ⟨F.1.wr W, fun f hf => (F.2.1 f hf).other W (Or.inl q), F.2.2⟩
theorem OObjOk.same {fs : List OFEnt} {j : Nat} (F : OObjOk Z h a C fs) (hj : fs[j]? = some (O, nm, d, old)) (W : Wr h h' a (slotOf Z O nm d) v) : OObjOk Z h' a C (fs.set j (O, nm, d, v)) := by
  obtain ⟨F1, F2, F3⟩ := F
  obtain ⟨hl, hj'⟩ := List.getElem?_eq_some_iff.mp hj
  have hm : (fs.set j (O, nm, d, v)).map (fun f => slotOf Z f.1 f.2.1 f.2.2.1) = fs.map (fun f => slotOf Z f.1 f.2.1 f.2.2.1) := by
    apply List.ext_getElem?
    intro i
    simp only [List.getElem?_map, List.getElem?_set]
    by_cases hi : j = i
    · subst hi; simp [hl, hj']
    · simp [hi]
  refine ⟨F1.wr W, fun f hf => ?_, by rw [hm]; exact F3⟩
  obtain ⟨i, hi⟩ := List.mem_iff_getElem?.mp hf
  rw [List.getElem?_set] at hi
  by_cases q : j = i
  · subst q
    simp [hl] at hi
    subst hi
    exact (F2 _ (List.mem_of_getElem? hj)).same W
  · simp only [q, if_false] at hi
    refine (F2 f (List.mem_of_getElem? hi)).other W (Or.inr fun e => q ?_)
    exact nd_eq F3 (i := j) (j := i) (x := slotOf Z O nm d) (by simp [hj]) (by simp [hi, e])
theorem OEntOk.lt {e : OEnt} (F : OEntOk Z h e) : e.1 < h.size := by
  obtain ⟨a, C, fs, o⟩ := e
  cases o with
  | none => exact OObjOk.lt F
  | some q => exact OAL.lt F
theorem OEntOk.ext {e : OEnt} (F : OEntOk Z h e) (E : Ext h h') : OEntOk Z h' e := by
  obtain ⟨a, C, fs, o⟩ := e
  cases o with
  | none => exact OObjOk.ext F E
  | some q => exact OAL.ext F E
theorem OEntOk.other {e : OEnt} (F : OEntOk Z h e) (W : Wr h h' a sl v) (q : e.1 ≠ a) : OEntOk Z h' e := by
  obtain ⟨a, C, fs, o⟩ := e
  cases o with
  | none => exact OObjOk.other F W q
  | some r => exact OAL.other F W q
theorem OWorld.start (s : State) : OWorld s s.heap.size s.heap [] := ⟨Old.start s, (fun _ q => nomatch q), List.nodup_nil⟩
theorem OWorld.nil {es : List OEnt} (W : OWorld Z n0 h es) : OWorld Z n0 h [] := ⟨W.1, (fun _ q => nomatch q), List.nodup_nil⟩
theorem OWorld.at {es : List OEnt} {k : Nat} {e : OEnt} (W : OWorld Z n0 h es) (hk : es[k]? = some e) : n0 ≤ e.1 ∧ OEntOk Z h e := W.2.1 e (List.mem_of_getElem? hk)
theorem OWorld.obj {es : List OEnt} {k : Nat} {fs : List OFEnt} (W : OWorld Z n0 h es) (hk : es[k]? = some (eO a C fs)) : OObjOk Z h a C fs := (W.at hk).2
theorem OWorld.arr {es : List OEnt} {k : Nat} (W : OWorld Z n0 h es) (hk : es[k]? = some (eA a ty vs)) : OAL Z h a ty vs := (W.at hk).2
theorem OWorld.fld {es : List OEnt} {k j : Nat} {fs : List OFEnt} (W : OWorld Z n0 h es) (hk : es[k]? = some (eO a C fs)) (hj : fs[j]? = some (O, nm, d, v)) : Fld Z h a O nm d v := (W.obj hk).2.1 _ (List.mem_of_getElem? hj)
theorem OWorld.ext {es : List OEnt} (W : OWorld Z n0 h es) (E : Ext h h') : OWorld Z n0 h' es := ⟨W.1.ext E, fun e he => ⟨(W.2.1 e he).1, (W.2.1 e he).2.ext E⟩, W.2.2⟩
theorem OWorld.push {es : List OEnt} (W : OWorld Z n0 h es) (E : Ext h h') {r : String × List OFEnt × Option (FieldType × List Value)} (hr : OEntOk Z h' (h.size, r)) : OWorld Z n0 h' (es ++ [(h.size, r)]) := by
  have hn : n0 ≤ h.size := by rw [← W.1.1]; exact W.1.2.1
  refine ⟨W.1.ext E, fun e he => ?_, ?_⟩
  · rcases List.mem_append.mp he with he | he
    · exact ⟨(W.2.1 e he).1, (W.2.1 e he).2.ext E⟩
    · cases List.mem_singleton.mp he; exact ⟨hn, hr⟩
  · rw [List.map_append, List.nodup_append]
    refine ⟨W.2.2, by simp, fun x hx y hy => ?_⟩
    obtain ⟨e, he, rfl⟩ := List.mem_map.mp hx
    simp at hy
    subst hy
    exact Nat.ne_of_lt (W.2.1 e he).2.lt
theorem nodup_at {es : List OEnt} (N : (es.map (·.1)).Nodup) {k i : Nat} {e f : OEnt} (hk : es[k]? = some e) (hi : es[i]? = some f) (q : k ≠ i) : f.1 ≠ e.1 := fun e1 => q (nd_eq N (i := k) (j := i) (x := e.1) (by simp [hk]) (by simp [hi, e1]))
theorem OWorld.upd {es : List OEnt} {k : Nat} {e e' : OEnt} (W : OWorld Z n0 h es) (hk : es[k]? = some e) (Wr' : Wr h h' e.1 sl v) (he : e'.1 = e.1) (hok : OEntOk Z h' e') : OWorld Z n0 h' (es.set k e') := by
  obtain ⟨hl, hk'⟩ := List.getElem?_eq_some_iff.mp hk
  have hm : (es.set k e').map (·.1) = es.map (·.1) := by
    apply List.ext_getElem?
    intro i
    simp only [List.getElem?_map, List.getElem?_set]
    by_cases hi : k = i
    · subst hi; simp [hl, hk', he]
    · simp [hi]
  refine ⟨W.1.wr Wr' (W.at hk).1, fun f hf => ?_, by rw [hm]; exact W.2.2⟩
  obtain ⟨i, hi⟩ := List.mem_iff_getElem?.mp hf
  rw [List.getElem?_set] at hi
  by_cases q : k = i
  · subst q
    simp [hl] at hi
    subst hi
    exact ⟨by rw [he]; exact (W.at hk).1, hok⟩
  · simp only [q, if_false] at hi
    exact ⟨(W.at hi).1, (W.at hi).2.other Wr' (nodup_at W.2.2 hk hi q)⟩
theorem OWorld.wrA {es : List OEnt} {k : Nat} (W : OWorld Z n0 h es) (hk : es[k]? = some (eA a ty vs)) (Wr' : Wr h h' a sl v) : OWorld Z n0 h' (es.set k (eA a ty (vs.set sl v))) :=
  W.upd hk Wr' rfl (OAL.same (W.arr hk) Wr')
theorem OWorld.wrO {es : List OEnt} {k j : Nat} {fs : List OFEnt} (W : OWorld Z n0 h es) (hk : es[k]? = some (eO a C fs)) (hj : fs[j]? = some (O, nm, d, old)) (Wr' : Wr h h' a (slotOf Z O nm d) v) : OWorld Z n0 h' (es.set k (eO a C (fs.set j (O, nm, d, v)))) :=
  W.upd hk Wr' rfl (OObjOk.same (W.obj hk) hj Wr')
/-- the fields of a class as the sheet lays them, at their first values -/
def OLaidAll (Z : State) (a0 : Array Value) (C : String) : List OFEnt → Prop
  | [] => True
  | f :: fs => (Laid Z a0 C f.1 f.2.1 f.2.2.1 ∧ ∃ ty, parseFieldDescriptor f.2.2.1 = some ty ∧ f.2.2.2 = defaultValue ty) ∧ OLaidAll Z a0 C fs
theorem OLaidAll.mem {a0 : Array Value} : ∀ {fs : List OFEnt}, OLaidAll Z a0 C fs → ∀ f ∈ fs, Laid Z a0 C f.1 f.2.1 f.2.2.1 ∧ ∃ ty, parseFieldDescriptor f.2.2.1 = some ty ∧ f.2.2.2 = defaultValue ty
  | _ :: _, H, f, hf => (List.mem_cons.mp hf).elim (fun e => by subst e; exact H.1) (fun q => OLaidAll.mem H.2 f q)
theorem OLaidAll.nodup {a0 : Array Value} : ∀ {fs : List OFEnt}, OLaidAll Z a0 C fs → (fs.map fun f => f.2.1).Nodup → (fs.map fun f => slotOf Z f.1 f.2.1 f.2.2.1).Nodup
  | [], _, _ => List.nodup_nil
  | g :: gs, H, N => by
    rw [List.map_cons, List.nodup_cons] at N ⊢
    refine ⟨fun q => ?_, OLaidAll.nodup H.2 N.2⟩
    obtain ⟨f, hf, e⟩ := List.mem_map.mp q
    obtain ⟨L, t, ht, -⟩ := OLaidAll.mem H.2 f hf
    obtain ⟨L', t', ht', -⟩ := H.1
    exact slot_ne L L' (fun e => N.1 (List.mem_map.mpr ⟨f, hf, e⟩)) ht ht' e
end OWorld
/-- a class, no interface -/
def OIsCls (Z : State) (C : String) : Prop := ∀ s : State, Z.Warmed39 s.vm → ∃ c k, s.vm.findClass C = some c ∧ s.vm.classes[c]? = some k ∧ k.isInterface = false
theorem nf_sel {Z : State} {a0 : Array Value} {C D : String} {x z : MethodName} (w : (Cond.selects C x z).before a0 Z = true) (hD : z.cls = D) : OIsCls Z D := fun s hZ => by
  subst hD
  obtain ⟨c2, r2, m2, q1, q2, q3, q4, kP, hkP, hkPi⟩ := Cond.selects_spec (mvT (args := #[]) hZ w)
  exact ⟨m2.cls, kP, findClass_of_methodNamed q3, hkP, hkPi⟩
theorem OIsCls.nf {Z s : State} {y : MethodName} (h : OIsCls Z y.cls) (hZ : Z.Warmed39 s.vm) : NotFace s y := fun r0 h0 => by
  obtain ⟨c, k, e1, e2, e3⟩ := h s hZ
  cases (findClass_of_methodNamed h0).symm.trans e1
  exact ⟨k, e2, e3⟩
/-! where the walk stands, with what it knows -/
section OHere
variable {p : Program} {l : Launch} {e : Env} {R : Room} {s : State} {m : MethodId} {args : Array Value} {below : List Frame} {meth : Method} {c : Code} {T : State} {cells slots : Nat} {k n : Nat} {Q : Option Value → Heap → List Loc → Prop} {Z : State} {a0 : Array Value} {n0 : Nat} {es : List OEnt} {a : Addr} {vs : List Value} {rest : List Value} {pc : Nat} {Ls : Array Slot} {i : Nat} {j : Int32} {q : Nat} {target : State} {g : JFrame}
def OHere (p : Program) (l : Launch) (e : Env) (R : Room) (s : State) (m : MethodId) (args : Array Value) (below : List Frame) (meth : Method) (c : Code) (Z : State) (n0 : Nat) (T : State) (cells slots : Nat) (es : List OEnt) : Prop :=
  ∃ locs, Stand p l e R s m args below meth c T locs cells slots ∧ OWorld Z n0 T.heap es ∧ Fr n0 locs
theorem OHere.here (H : OHere p l e R s m args below meth c Z n0 T cells slots es) : At T m c below := H.elim fun _ h => h.1.here
theorem OHere.more {cells' slots' : Nat} (H : OHere p l e R s m args below meth c Z n0 T cells slots es) (h1 : cells ≤ cells') (h2 : slots ≤ slots') : OHere p l e R s m args below meth c Z n0 T cells' slots' es := by
  obtain ⟨locs, X, W, N⟩ := H; exact ⟨locs, X.more h1 h2, W, N⟩
theorem OHere.ldcI (H : OHere p l e R s m args below meth c Z n0 T cells slots es) (hx : p.tables.exec = Jvm.exec) {own : String} {index : Nat} {v : Int32} (hown : s.vm.findClass own = some m.cls) (hc : (Cond.constant own index v).before args s = true) (hg : g.method = m) (hd : decode c.code g.pc = .ok (.ldc index, 2))
    (hr : Steps p.tables e below (T.setTop { g with pc := g.pc + 2, stack := .int v :: g.stack }) target) : Steps p.tables e below (T.setTop g) target := by
  obtain ⟨locs, X, W, N⟩ := H; exact X.ldcI hx hown hc hg hd hr
theorem OHere.ldc2J (H : OHere p l e R s m args below meth c Z n0 T cells slots es) (hx : p.tables.exec = Jvm.exec) {own : String} {index : Nat} {v : Int64} (hown : s.vm.findClass own = some m.cls) (hc : (Cond.constantLong own index v).before args s = true) (hg : g.method = m) (hd : decode c.code g.pc = .ok (.ldc2_w index, 3))
    (hr : Steps p.tables e below (T.setTop { g with pc := g.pc + 3, stack := .long v :: g.stack }) target) : Steps p.tables e below (T.setTop g) target := by
  obtain ⟨locs, X, W, N⟩ := H; exact X.ldc2J hx hown hc hg hd hr
theorem OHere.irem (H : OHere p l e R s m args below meth c Z n0 T cells slots es) (hx : p.tables.exec = Jvm.exec) (hg : g.method = m) {x y : Int32} (hd : decode c.code g.pc = .ok (.irem, 1)) (hs : g.stack = .int y :: .int x :: rest) (hy : y ≠ 0)
    (hr : Steps p.tables e below (T.setTop { g with pc := g.pc + 1, stack := .int (x % y) :: rest }) target) : Steps p.tables e below (T.setTop g) target := by
  obtain ⟨locs, X, W, N⟩ := H; exact iremM X hx hg hd hs hy hr
theorem inside (A : Cell) (hA : A.slots = vs.toArray) (hj : ¬ j < 0) (hi : j.toNatClampNeg = i) (hl : i < vs.length) : ¬ (j < 0 ∨ A.slots.size ≤ j.toNatClampNeg) := by
  rw [hA, hi]; rintro (h | h)
  · exact hj h
  · simp at h; omega
/-- loads from an array: iaload, laload, baload -/
theorem OHere.iaload (H : OHere p l e R s m args below meth c Z n0 T cells slots es) (hx : p.tables.exec = Jvm.exec) (hZ : Z.Warmed39 s.vm) (hq : es[q]? = some (eA a .int vs)) {v : Value} (hj : ¬ j < 0) (hi : j.toNatClampNeg = i) (hv : vs[i]? = some v) (hd : decode c.code pc = .ok (.iaload, 1))
    (hr : Steps p.tables e below (T.setTop (mkF m (pc + 1) Ls (v :: rest))) target) : Steps p.tables e below (T.setTop (mkF m pc Ls (.int j :: .ref a :: rest))) target := by
  obtain ⟨locs, X, W, N⟩ := H
  obtain ⟨A, ⟨h1, h2, h3⟩, hA⟩ := W.arr hq
  exact X.iaload hx h1 (State.isArrayOf_alike hZ.alike h2) h3 (inside A hA hj hi (List.getElem?_eq_some_iff.mp hv).1) (by rw [hA, hi]; simpa using hv) (g := mkF m pc Ls (.int j :: .ref a :: rest)) rfl rfl hd target hr
theorem OHere.laload (H : OHere p l e R s m args below meth c Z n0 T cells slots es) (hx : p.tables.exec = Jvm.exec) (hZ : Z.Warmed39 s.vm) (hq : es[q]? = some (eA a .long vs)) {v : Value} (hj : ¬ j < 0) (hi : j.toNatClampNeg = i) (hv : vs[i]? = some v) (hd : decode c.code pc = .ok (.laload, 1))
    (hr : Steps p.tables e below (T.setTop (mkF m (pc + 1) Ls (v :: rest))) target) : Steps p.tables e below (T.setTop (mkF m pc Ls (.int j :: .ref a :: rest))) target := by
  obtain ⟨locs, X, W, N⟩ := H
  obtain ⟨A, ⟨h1, h2, h3⟩, hA⟩ := W.arr hq
  exact X.laload hx h1 (State.isArrayOf_alike hZ.alike h2) h3 (inside A hA hj hi (List.getElem?_eq_some_iff.mp hv).1) (by rw [hA, hi]; simpa using hv) (g := mkF m pc Ls (.int j :: .ref a :: rest)) rfl rfl hd target hr
theorem OHere.baload (H : OHere p l e R s m args below meth c Z n0 T cells slots es) (hx : p.tables.exec = Jvm.exec) (hZ : Z.Warmed39 s.vm) (hq : es[q]? = some (eA a .byte vs)) {v : Value} (hj : ¬ j < 0) (hi : j.toNatClampNeg = i) (hv : vs[i]? = some v) (hd : decode c.code pc = .ok (.baload, 1))
    (hr : Steps p.tables e below (T.setTop (mkF m (pc + 1) Ls (v :: rest))) target) : Steps p.tables e below (T.setTop (mkF m pc Ls (.int j :: .ref a :: rest))) target := by
  obtain ⟨locs, X, W, N⟩ := H
  obtain ⟨A, ⟨h1, h2, h3⟩, hA⟩ := W.arr hq
  exact X.baloadBytes hx h1 (State.isArrayOf_alike hZ.alike h2) h3 (inside A hA hj hi (List.getElem?_eq_some_iff.mp hv).1) (by rw [hA, hi]; simpa using hv) (g := mkF m pc Ls (.int j :: .ref a :: rest)) rfl rfl hd target hr
theorem OHere.len (H : OHere p l e R s m args below meth c Z n0 T cells slots es) (hx : p.tables.exec = Jvm.exec) (hZ : Z.Warmed39 s.vm) {ty : FieldType} (hq : es[q]? = some (eA a ty vs)) {z : Int32} (hz : vs.length.toInt32 = z) (hd : decode c.code pc = .ok (.arraylength, 1))
    (hr : Steps p.tables e below (T.setTop (mkF m (pc + 1) Ls (.int z :: rest))) target) : Steps p.tables e below (T.setTop (mkF m pc Ls (.ref a :: rest))) target := by
  obtain ⟨locs, X, W, N⟩ := H
  obtain ⟨A, ⟨h1, h2, h3⟩, hA⟩ := W.arr hq
  refine X.arraylength hx h1 (State.isArrayOf_alike hZ.alike h2) (g := mkF m pc Ls (.ref a :: rest)) rfl rfl hd target ?_
  have : A.slots.size.toInt32 = z := by rw [hA, ← hz]; simp
  rw [this]; exact hr
/-- stores into an array -/
theorem OHere.iastore (H : OHere p l e R s m args below meth c Z n0 T cells slots es) (hx : p.tables.exec = Jvm.exec) (hZ : Z.Warmed39 s.vm) (hq : es[q]? = some (eA a .int vs)) {x : Int32} (hj : ¬ j < 0) (hi : j.toNatClampNeg = i) (hl : i < vs.length) (hd : decode c.code pc = .ok (.iastore, 1)) :
    ∃ T', OHere p l e R s m args below meth c Z n0 T' cells slots (es.set q (eA a .int (vs.set i (.int x)))) ∧ ∀ target, Steps p.tables e below (T'.setTop (mkF m (pc + 1) Ls rest)) target → Steps p.tables e below (T.setTop (mkF m pc Ls (.int x :: .int j :: .ref a :: rest))) target := by
  obtain ⟨locs, X, W, N⟩ := H
  obtain ⟨A, hAr, hA⟩ := W.arr hq
  obtain ⟨T', h', X', e', Wr', st⟩ := stI X hx hZ rfl hAr (inside A hA hj hi hl) (g := mkF m pc Ls (.int x :: .int j :: .ref a :: rest)) rfl rfl hd
  subst e'
  rw [hi] at Wr' X'
  exact ⟨T', ⟨_, X', W.wrA hq Wr', N.app fun y hy => by cases List.mem_singleton.mp hy; exact (W.at hq).1⟩, st⟩
theorem OHere.lastore (H : OHere p l e R s m args below meth c Z n0 T cells slots es) (hx : p.tables.exec = Jvm.exec) (hZ : Z.Warmed39 s.vm) (hq : es[q]? = some (eA a .long vs)) {x : Int64} (hj : ¬ j < 0) (hi : j.toNatClampNeg = i) (hl : i < vs.length) (hd : decode c.code pc = .ok (.lastore, 1)) :
    ∃ T', OHere p l e R s m args below meth c Z n0 T' cells slots (es.set q (eA a .long (vs.set i (.long x)))) ∧ ∀ target, Steps p.tables e below (T'.setTop (mkF m (pc + 1) Ls rest)) target → Steps p.tables e below (T.setTop (mkF m pc Ls (.long x :: .int j :: .ref a :: rest))) target := by
  obtain ⟨locs, X, W, N⟩ := H
  obtain ⟨A, hAr, hA⟩ := W.arr hq
  obtain ⟨T', h', X', e', Wr', st⟩ := stJ X hx hZ rfl hAr (inside A hA hj hi hl) (g := mkF m pc Ls (.long x :: .int j :: .ref a :: rest)) rfl rfl hd
  subst e'
  rw [hi] at Wr' X'
  exact ⟨T', ⟨_, X', W.wrA hq Wr', N.app fun y hy => by cases List.mem_singleton.mp hy; exact (W.at hq).1⟩, st⟩
theorem OHere.bastore (H : OHere p l e R s m args below meth c Z n0 T cells slots es) (hx : p.tables.exec = Jvm.exec) (hZ : Z.Warmed39 s.vm) (hq : es[q]? = some (eA a .byte vs)) {x : Int32} (hj : ¬ j < 0) (hi : j.toNatClampNeg = i) (hl : i < vs.length) (hd : decode c.code pc = .ok (.bastore, 1)) :
    ∃ T', OHere p l e R s m args below meth c Z n0 T' cells slots (es.set q (eA a .byte (vs.set i (.int (nar .byte x))))) ∧ ∀ target, Steps p.tables e below (T'.setTop (mkF m (pc + 1) Ls rest)) target → Steps p.tables e below (T.setTop (mkF m pc Ls (.int x :: .int j :: .ref a :: rest))) target := by
  obtain ⟨locs, X, W, N⟩ := H
  obtain ⟨A, hAr, hA⟩ := W.arr hq
  obtain ⟨T', h', X', e', Wr', st⟩ := stB X hx hZ rfl hAr (inside A hA hj hi hl) (g := mkF m pc Ls (.int x :: .int j :: .ref a :: rest)) rfl rfl hd
  subst e'
  rw [hi] at Wr' X'
  exact ⟨T', ⟨_, X', W.wrA hq Wr', N.app fun y hy => by cases List.mem_singleton.mp hy; exact (W.at hq).1⟩, st⟩
/-- a new array of a primitive type; its address gets a name -/
theorem OHere.newarray (H : OHere p l e R s m args below meth c Z n0 T cells slots es) (hx : p.tables.exec = Jvm.exec) (hZ : Z.Warmed39 s.vm) {aty : ArrayType} (w : (Cond.arrayClass (newarray.typeOf aty)).before a0 Z = true) (hd : decode c.code pc = .ok (.newarray aty, 2)) {z : Int32} (hn : ¬ z < 0) {cap : Nat} (hcap : z.toNatClampNeg = cap) (hb : cap * 8 ≤ 536870912) (hc : cells + 1 ≤ R.cells) (hl : slots + cap ≤ R.slots) :
    ∃ T' b, OHere p l e R s m args below meth c Z n0 T' (cells + 1) (slots + cap) (es ++ [eA b (newarray.typeOf aty) (List.replicate cap (defaultValue (newarray.typeOf aty)))]) ∧ ∀ target, Steps p.tables e below (T'.setTop (mkF m (pc + 2) Ls (.ref b :: rest))) target → Steps p.tables e below (T.setTop (mkF m pc Ls (.int z :: rest))) target := by
  obtain ⟨locs, X, W, N⟩ := H
  obtain ⟨T', h', cA, X', e', E', A', st⟩ := newP X hx hZ w rfl (g := mkF m pc Ls (.int z :: rest)) rfl hd rfl hn (Nat.le_of_eq hcap) hb hc hl
  subst e'
  have A2 := OAL.new A'
  rw [hcap] at A2
  exact ⟨T', T.heap.size, ⟨_, X', W.push E' A2, N⟩, st⟩
/-- a new object -/
theorem OHere.new (H : OHere p l e R s m args below meth c Z n0 T cells slots es) (hx : p.tables.exec = Jvm.exec) (hZ : Z.Warmed39 s.vm) {own C : String} {index sz : Nat} (hown : s.vm.findClass own = some m.cls) (w : (Cond.classLink own index C).before a0 Z = true) (wi : (Cond.instantiable C sz).before a0 Z = true) (wz : (Cond.initialized C).before a0 Z = true) (fs : List OFEnt) (hfs : OLaidAll Z a0 C fs) (hnd : (fs.map fun f => f.2.1).Nodup) (hd : decode c.code pc = .ok (.new index, 3)) (hc : cells + 1 ≤ R.cells) (hl : slots + sz ≤ R.slots) :
    ∃ T' b, OHere p l e R s m args below meth c Z n0 T' (cells + 1) (slots + sz) (es ++ [eO b C fs]) ∧ ∀ target, Steps p.tables e below (T'.setTop (mkF m (pc + 3) Ls (.ref b :: rest))) target → Steps p.tables e below (T.setTop (mkF m pc Ls rest)) target := by
  obtain ⟨locs, X, W, N⟩ := H
  obtain ⟨T', h', X', e', E', A', D', -, st⟩ := newO X hx hZ hown w wi wz rfl (g := mkF m pc Ls rest) rfl hd hc hl
  subst e'
  refine ⟨T', T.heap.size, ⟨_, X', W.push E' ⟨A', fun f hf => ?_, hfs.nodup hnd⟩, N⟩, st⟩
  obtain ⟨L, ty, ht, hv⟩ := hfs.mem f hf
  rw [hv]; exact D' L ht
theorem OHere.initO (H : OHere p l e R s m args below meth c Z n0 T cells slots es) (hx : p.tables.exec = Jvm.exec) (hZ : Z.Warmed39 s.vm) {own : String} {index : Nat} (hown : s.vm.findClass own = some m.cls) (w1 : (Cond.methodLink own index Lib.objectInit).before a0 Z = true) (w2 : (Cond.instanceMethod Lib.objectInit).before a0 Z = true)
    (w3 : (Cond.code Lib.objectInit ⟨#[0xb1]⟩ 1 none).before a0 Z = true) (hsize : Ls.size = c.maxLocals) (hd : decode c.code pc = .ok (.invokespecial index, 3)) (hf : 1 ≤ R.frames) {W : Nat} (hW : (rest.map fun v => v.category).sum ≤ W) (hl : W + 12 ≤ R.locals) :
    ∃ T', OHere p l e R s m args below meth c Z n0 T' cells slots es ∧ ∀ target, Steps p.tables e below (T'.setTop (mkF m (pc + 3) Ls rest)) target → Steps p.tables e below (T.setTop (mkF m pc Ls (.ref a :: rest))) target := by
  obtain ⟨locs, X, W', N⟩ := H
  obtain ⟨T', X', e', st⟩ := RoadKit.initO X hx hZ hown w1 w2 w3 rfl (g := mkF m pc Ls (.ref a :: rest)) rfl hsize rfl hd hf (W := W) (by show 2 * 0 + _ ≤ _; rw [Nat.mul_zero, Nat.zero_add]; exact hW) hl
  exact ⟨T', ⟨_, X', by rw [e']; exact W', N⟩, st⟩
theorem OHere.getfield (H : OHere p l e R s m args below meth c Z n0 T cells slots es) (hx : p.tables.exec = Jvm.exec) (hZ : Z.Warmed39 s.vm) {own R0 O nm d C : String} {index f : Nat} {fs : List OFEnt} {v : Value} (hown : s.vm.findClass own = some m.cls) (w : (Cond.fieldLink own index R0 nm d).before a0 Z = true) (via : Via Z R0 O nm d) (hq : es[q]? = some (eO a C fs)) (hf : fs[f]? = some (O, nm, d, v)) (hd : decode c.code pc = .ok (.getfield index, 3)) :
    ∃ T', OHere p l e R s m args below meth c Z n0 T' cells slots es ∧ ∀ target, Steps p.tables e below (T'.setTop (mkF m (pc + 3) Ls (v :: rest))) target → Steps p.tables e below (T.setTop (mkF m pc Ls (.ref a :: rest))) target := by
  obtain ⟨locs, X, W, N⟩ := H
  obtain ⟨T', X', e', st⟩ := getF X hx hZ hown (host := "") (Or.inl w) via rfl (W.fld hq hf) (g := mkF m pc Ls (.ref a :: rest)) rfl rfl hd
  exact ⟨T', ⟨_, X', by rw [e']; exact W, N⟩, st⟩
theorem OHere.putfield (H : OHere p l e R s m args below meth c Z n0 T cells slots es) (hx : p.tables.exec = Jvm.exec) (hZ : Z.Warmed39 s.vm) {own R0 O nm d C : String} {index f kk : Nat} {fs : List OFEnt} {v old : Value} {ty : FieldType} (hown : s.vm.findClass own = some m.cls) (w : (Cond.fieldLink own index R0 nm d).before a0 Z = true) (via : Via Z R0 O nm d) (hq : es[q]? = some (eO a C fs)) (hf : fs[f]? = some (O, nm, d, old))
    (L : (Cond.lays C O nm d).before a0 Z = true ∨ ((Cond.laysFinal C O nm d).before a0 Z = true ∧ own = O ∧ meth.name = "<init>")) (wi : (Cond.instantiable C kk).before a0 Z = true) (hty : parseFieldDescriptor d = some ty) (hn : narrow ty v = v) (hfit : fits ty v = true) (hd : decode c.code pc = .ok (.putfield index, 3)) :
    ∃ T', OHere p l e R s m args below meth c Z n0 T' cells slots (es.set q (eO a C (fs.set f (O, nm, d, v)))) ∧ ∀ target, Steps p.tables e below (T'.setTop (mkF m (pc + 3) Ls rest)) target → Steps p.tables e below (T.setTop (mkF m pc Ls (v :: .ref a :: rest))) target := by
  obtain ⟨locs, X, W, N⟩ := H
  obtain ⟨T', h', X', e', Wr', st⟩ := putF X hx hZ hown (host := "") (Or.inl w) via rfl (W.fld hq hf) (W.obj hq).1 L wi hty hn hfit (g := mkF m pc Ls (v :: .ref a :: rest)) rfl rfl hd
  subst e'
  exact ⟨T', ⟨_, X', W.wrO hq hf Wr', N.app fun y hy => by cases List.mem_singleton.mp hy; exact (W.at hq).1⟩, st⟩
/-! the ends -/
theorem OHere.int (H : OHere p l e R s m args below meth c Z n0 T cells slots es) (hx : p.tables.exec = Jvm.exec) (hlocks : meth.locks = false) (hret : meth.sig.returnType = some .int) {z : Int32} (hd : decode c.code pc = .ok (.ireturn, 1)) (hk : cells ≤ k) (hn : slots ≤ n)
    (hQ : ∀ h L, OWorld Z n0 h es → Fr n0 L → Q (some (.int z)) h L) : OEnds p e below s k n Q (T.setTop (mkF m pc Ls (.int z :: rest))) := by
  obtain ⟨locs, X, W, N⟩ := H; exact OEnds.int X hx hlocks hret hd hk hn (hQ _ _ W N)
theorem OHere.nrw {ty : FieldType} (H : OHere p l e R s m args below meth c Z n0 T cells slots es) (hx : p.tables.exec = Jvm.exec) (hlocks : meth.locks = false) (hret : meth.sig.returnType = some ty) (ht : ty = .boolean ∨ ty = .byte ∨ ty = .char ∨ ty = .short) {z : Int32} (hd : decode c.code pc = .ok (.ireturn, 1)) (hk : cells ≤ k) (hn : slots ≤ n)
    (hQ : ∀ h L, OWorld Z n0 h es → Fr n0 L → Q (some (.int (nar ty z))) h L) : OEnds p e below s k n Q (T.setTop (mkF m pc Ls (.int z :: rest))) := by
  obtain ⟨locs, X, W, N⟩ := H; exact OEnds.nrw X hx hlocks hret ht hd hk hn (hQ _ _ W N)
theorem OHere.long (H : OHere p l e R s m args below meth c Z n0 T cells slots es) (hx : p.tables.exec = Jvm.exec) (hlocks : meth.locks = false) (hret : meth.sig.returnType = some .long) {z : Int64} (hd : decode c.code pc = .ok (.lreturn, 1)) (hk : cells ≤ k) (hn : slots ≤ n)
    (hQ : ∀ h L, OWorld Z n0 h es → Fr n0 L → Q (some (.long z)) h L) : OEnds p e below s k n Q (T.setTop (mkF m pc Ls [.long z])) := by
  obtain ⟨locs, X, W, N⟩ := H; exact OEnds.long X hx hlocks hret hd hk hn (hQ _ _ W N)
theorem OHere.ret (H : OHere p l e R s m args below meth c Z n0 T cells slots es) (hx : p.tables.exec = Jvm.exec) (hlocks : meth.locks = false) (hret : meth.sig.returnType = none) (hd : decode c.code pc = .ok (.return_, 1)) (hk : cells ≤ k) (hn : slots ≤ n)
    (hQ : ∀ h L, OWorld Z n0 h es → Fr n0 L → Q none h L) : OEnds p e below s k n Q (T.setTop (mkF m pc Ls [])) := by
  obtain ⟨locs, X, W, N⟩ := H
  obtain ⟨fs, hr, hrun, hended, hW, hsame⟩ := X.leave (v := none) (fun _ => rfl) hlocks
  exact ⟨_, _, X.returnOut hx hret hd hr, hrun, hended, _, _, rfl, hQ _ _ W N, ⟨_, rfl⟩, hW, hsame.mono hk hn⟩
/-! a callee's contract, and the calls -/
def OCon (l : Launch) (Z : State) (n0 : Nat) (y : MethodName) (bytes : ByteArray) (maxL : Nat) (ret : Option FieldType) (ws : List Cond) (rm : Room) (as : Array Value) (es : List OEnt) (P : Option Value → List OEnt → Prop) : Prop :=
  ∀ h, OWorld Z n0 h es → MetFree l y (head1 (Cond.code y bytes maxL ret :: ws) rm) (fun a U => a = as ∧ Z.Warmed39 U.vm ∧ U.heap = h) (fun _ _ _ _ _ => True) (fun _ U o U' => ∃ v' L, o = .returned v' ∧ (Fr n0 L ∧ ∃ es', P v' es' ∧ OWorld Z n0 U'.heap es') ∧ FrameEnd U o U' L rm.cells rm.slots)
theorem OHere.static (H : OHere p l e R s m args below meth c Z n0 T cells slots es) (hx : p.tables.exec = Jvm.exec) (hZ : Z.Warmed39 s.vm) {own : String} {index : Nat} {y : MethodName} {bytes : ByteArray} {maxL : Nat} {ret : Option FieldType} {rm : Room} {as' : Array Value} {P : Option Value → List OEnt → Prop} {W : Nat}
    (hown : s.vm.findClass own = some m.cls) (w1 : (Cond.methodLink own index y).before a0 Z = true) (w2 : (Cond.static y).before a0 Z = true) (w3 : (Cond.initialized y.cls).before a0 Z = true) (w4 : (Cond.code y bytes maxL ret).before a0 Z = true) (hy : y.cls ≠ "java/lang/invoke/MethodHandle" ∧ y.cls ≠ "java/lang/invoke/VarHandle")
    (hM : OCon l Z n0 y bytes maxL ret [] rm as' es P) (hf : rm.frames + 1 ≤ R.frames) (hl : W + (maxL + 11) + rm.locals ≤ R.locals)
    {argsL : List Value} (hsize : Ls.size = c.maxLocals) (hlen : ∀ sig, parseMethodDescriptor y.desc = some sig → argsL.length = sig.parameters.length) (has : argsL.toArray = as') (hW : (rest.map fun v => v.category).sum ≤ W)
    (hd : decode c.code pc = .ok (.invokestatic index, 3)) (hcells : cells + rm.cells ≤ R.cells) (hslots : slots + rm.slots ≤ R.slots) :
    ∃ T' v es', P v es' ∧ OHere p l e R s m args below meth c Z n0 T' (cells + rm.cells) (slots + rm.slots) es' ∧
      ∀ target, Steps p.tables e below (T'.setTop (mkF m (pc + 3) Ls (v.toList ++ rest))) target → Steps p.tables e below (T.setTop (mkF m pc Ls (argsL.reverse ++ rest))) target := by
  obtain ⟨locs, X, W', N⟩ := H
  obtain ⟨v', vm₁, ⟨T1, L1, k1, n1⟩, -, X1, ⟨Lc, ⟨e2, es', hP, e3⟩, l1, y1, z1⟩, st⟩ := Jvm.LawKit.callS X hx (y := y) hown (mvT hZ w1) (mvT hZ w2) (mvT hZ w3) (mvT hZ w4) hy
    (backOf (W := W) (Q := fun v' h' L => Fr n0 L ∧ ∃ es', P v' es' ∧ OWorld Z n0 h' es') (hM T.heap W') hZ w4 w3 hf hl) (g := mkF m pc Ls (argsL.reverse ++ rest)) rfl hsize (argsL := argsL) (rest := rest) hlen rfl
    (by show 2 * 0 + _ ≤ _; rw [Nat.mul_zero, Nat.zero_add]; exact hW) hd (fun _ _ => ⟨has, rfl, hcells, hslots⟩)
  dsimp only [Pt.U, Pt.locs, Pt.cells, Pt.slots] at X1 l1 y1 z1 st e3
  subst l1 y1 z1
  exact ⟨T1, v', es', hP, ⟨_, X1, e3, N.app e2⟩, st⟩
theorem OHere.special (H : OHere p l e R s m args below meth c Z n0 T cells slots es) (hx : p.tables.exec = Jvm.exec) (hZ : Z.Warmed39 s.vm) {own : String} {index : Nat} {y : MethodName} (hy1 : y.name = "<init>") {bytes : ByteArray} {maxL : Nat} {rm : Room} {as' : Array Value} {P : Option Value → List OEnt → Prop} {W : Nat}
    (hown : s.vm.findClass own = some m.cls) (w1 : (Cond.methodLink own index y).before a0 Z = true) (w2 : (Cond.instanceMethod y).before a0 Z = true) (w3 : (Cond.initialized y.cls).before a0 Z = true) (w4 : (Cond.code y bytes maxL none).before a0 Z = true) (hy : y.cls ≠ "java/lang/invoke/MethodHandle" ∧ y.cls ≠ "java/lang/invoke/VarHandle")
    (hM : OCon l Z n0 y bytes maxL none [] rm as' es P) (hf : rm.frames + 1 ≤ R.frames) (hl : W + (maxL + 11) + rm.locals ≤ R.locals)
    {argsL : List Value} (hsize : Ls.size = c.maxLocals) (hlen : ∀ sig, parseMethodDescriptor y.desc = some sig → argsL.length = sig.parameters.length) (has : (.ref a :: argsL).toArray = as') (hW : (rest.map fun v => v.category).sum ≤ W)
    (hd : decode c.code pc = .ok (.invokespecial index, 3)) (hcells : cells + rm.cells ≤ R.cells) (hslots : slots + rm.slots ≤ R.slots) :
    ∃ T' v es', P v es' ∧ OHere p l e R s m args below meth c Z n0 T' (cells + rm.cells) (slots + rm.slots) es' ∧
      ∀ target, Steps p.tables e below (T'.setTop (mkF m (pc + 3) Ls (v.toList ++ rest))) target → Steps p.tables e below (T.setTop (mkF m pc Ls (argsL.reverse ++ .ref a :: rest))) target := by
  obtain ⟨locs, X, W', N⟩ := H
  obtain ⟨v', vm₁, ⟨T1, L1, k1, n1⟩, -, X1, ⟨Lc, ⟨e2, es', hP, e3⟩, l1, y1, z1⟩, st⟩ := X.specialBack hx (y := y) hy1 hown (mvT hZ w1) (mvT hZ w2) (mvT hZ w4) hy
    (backOf (W := W) (Q := fun v' h' L => Fr n0 L ∧ ∃ es', P v' es' ∧ OWorld Z n0 h' es') (hM T.heap W') hZ w4 w3 hf hl) (g := mkF m pc Ls (argsL.reverse ++ .ref a :: rest)) rfl hsize (Steps.refl _) (a := a) (argsL := argsL) (rest := rest) hlen rfl
    (by show 2 * 0 + _ ≤ _; rw [Nat.mul_zero, Nat.zero_add]; exact hW) hd (fun _ _ => ⟨has, rfl, hcells, hslots⟩)
  dsimp only [Pt.U, Pt.locs, Pt.cells, Pt.slots] at X1 l1 y1 z1 st e3
  subst l1 y1 z1
  exact ⟨T1, v', es', hP, ⟨_, X1, e3, N.app e2⟩, fun target k => st.trans k⟩
theorem OHere.virtual (H : OHere p l e R s m args below meth c Z n0 T cells slots es) (hx : p.tables.exec = Jvm.exec) (hZ : Z.Warmed39 s.vm) {own C : String} {index : Nat} {y z : MethodName} {bytes : ByteArray} {maxL : Nat} {ret : Option FieldType} {rm : Room} {as' : Array Value} {P : Option Value → List OEnt → Prop} {fs : List OFEnt} {W : Nat}
    (hown : s.vm.findClass own = some m.cls) (w1 : (Cond.methodLink own index y).before a0 Z = true) (w2 : (Cond.declares y).before a0 Z = true) (nf : OIsCls Z y.cls) (w3 : (Cond.selects C y z).before a0 Z = true) (w4 : (Cond.instanceMethod z).before a0 Z = true) (w5 : (Cond.initialized z.cls).before a0 Z = true) (w6 : (Cond.code z bytes maxL ret).before a0 Z = true) (hy : y.cls ≠ "java/lang/invoke/MethodHandle" ∧ y.cls ≠ "java/lang/invoke/VarHandle")
    (hq : es[q]? = some (eO a C fs)) (hM : OCon l Z n0 z bytes maxL ret [] rm as' es P) (hf : rm.frames + 1 ≤ R.frames) (hl : W + (maxL + 11) + rm.locals ≤ R.locals)
    {argsL : List Value} (hsize : Ls.size = c.maxLocals) (hlen : ∀ sig, parseMethodDescriptor y.desc = some sig → argsL.length = sig.parameters.length) (has : (.ref a :: argsL).toArray = as') (hW : (rest.map fun v => v.category).sum ≤ W)
    (hd : decode c.code pc = .ok (.invokevirtual index, 3)) (hcells : cells + rm.cells ≤ R.cells) (hslots : slots + rm.slots ≤ R.slots) :
    ∃ T' v es', P v es' ∧ OHere p l e R s m args below meth c Z n0 T' (cells + rm.cells) (slots + rm.slots) es' ∧
      ∀ target, Steps p.tables e below (T'.setTop (mkF m (pc + 3) Ls (v.toList ++ rest))) target → Steps p.tables e below (T.setTop (mkF m pc Ls (argsL.reverse ++ .ref a :: rest))) target := by
  obtain ⟨locs, X, W', N⟩ := H
  obtain ⟨cB, kB, qa, qb, qc⟩ := isOf hZ (T := T) rfl (W'.obj hq).1
  obtain ⟨v', vm₁, ⟨T1, L1, k1, n1⟩, -, X1, ⟨Lc, ⟨e2, es', hP, e3⟩, l1, y1, z1⟩, st⟩ := X.virtualBack hx (y := y) (z := z) hown (mvT hZ w1) (mvT hZ w2) (nf.nf hZ) (mvT hZ w3) (mvT hZ w4) hy
    (backOf (W := W) (Q := fun v' h' L => Fr n0 L ∧ ∃ es', P v' es' ∧ OWorld Z n0 h' es') (hM T.heap W') hZ w6 w5 hf hl) qa qc (g := mkF m pc Ls (argsL.reverse ++ .ref a :: rest)) rfl hsize (Steps.refl _) (argsL := argsL) (rest := rest) hlen rfl
    (by show 2 * 0 + _ ≤ _; rw [Nat.mul_zero, Nat.zero_add]; exact hW) hd (fun _ _ => ⟨has, rfl, hcells, hslots⟩)
  dsimp only [Pt.U, Pt.locs, Pt.cells, Pt.slots] at X1 l1 y1 z1 st e3
  subst l1 y1 z1
  exact ⟨T1, v', es', hP, ⟨_, X1, e3, N.app e2⟩, fun target k => st.trans k⟩
theorem OHere.virtualUp (H : OHere p l e R s m args below meth c Z n0 T cells slots es) (hx : p.tables.exec = Jvm.exec) (hZ : Z.Warmed39 s.vm) {own C owner : String} {index : Nat} {x y : MethodName} {bytes : ByteArray} {maxL : Nat} {ret : Option FieldType} {rm : Room} {as' : Array Value} {P : Option Value → List OEnt → Prop} {fs : List OFEnt} {W : Nat}
    (hown : s.vm.findClass own = some m.cls) (w1 : (Cond.methodLink own index x).before a0 Z = true) (w2 : (Cond.sameMethod x.cls owner x.name x.desc).before a0 Z = true) (w2' : (Cond.declares ⟨owner, x.name, x.desc⟩).before a0 Z = true) (w3 : (Cond.selects C x y).before a0 Z = true) (w4 : (Cond.instanceMethod y).before a0 Z = true) (w5 : (Cond.initialized y.cls).before a0 Z = true) (w6 : (Cond.code y bytes maxL ret).before a0 Z = true) (hy : owner ≠ "java/lang/invoke/MethodHandle" ∧ owner ≠ "java/lang/invoke/VarHandle")
    (hq : es[q]? = some (eO a C fs)) (hM : OCon l Z n0 y bytes maxL ret [] rm as' es P) (hf : rm.frames + 1 ≤ R.frames) (hl : W + (maxL + 11) + rm.locals ≤ R.locals)
    {argsL : List Value} (hsize : Ls.size = c.maxLocals) (hlen : ∀ sig, parseMethodDescriptor x.desc = some sig → argsL.length = sig.parameters.length) (has : (.ref a :: argsL).toArray = as') (hW : (rest.map fun v => v.category).sum ≤ W)
    (hd : decode c.code pc = .ok (.invokevirtual index, 3)) (hcells : cells + rm.cells ≤ R.cells) (hslots : slots + rm.slots ≤ R.slots) :
    ∃ T' v es', P v es' ∧ OHere p l e R s m args below meth c Z n0 T' (cells + rm.cells) (slots + rm.slots) es' ∧
      ∀ target, Steps p.tables e below (T'.setTop (mkF m (pc + 3) Ls (v.toList ++ rest))) target → Steps p.tables e below (T.setTop (mkF m pc Ls (argsL.reverse ++ .ref a :: rest))) target := by
  obtain ⟨locs, X, W', N⟩ := H
  obtain ⟨cB, kB, qa, qb, qc⟩ := isOf hZ (T := T) rfl (W'.obj hq).1
  obtain ⟨v', vm₁, ⟨T1, L1, k1, n1⟩, -, X1, ⟨Lc, ⟨e2, es', hP, e3⟩, l1, y1, z1⟩, st⟩ := X.virtualBackUp hx (x := x) (y := y) (owner := owner) hown (mvT hZ w1) (mvT hZ w2) (mvT hZ w2') hy (mvT hZ w3) (mvT hZ w4)
    (backOf (W := W) (Q := fun v' h' L => Fr n0 L ∧ ∃ es', P v' es' ∧ OWorld Z n0 h' es') (hM T.heap W') hZ w6 w5 hf hl) qa qc (g := mkF m pc Ls (argsL.reverse ++ .ref a :: rest)) rfl hsize (Steps.refl _) (argsL := argsL) (rest := rest) hlen rfl
    (by show 2 * 0 + _ ≤ _; rw [Nat.mul_zero, Nat.zero_add]; exact hW) hd (fun _ _ => ⟨has, rfl, hcells, hslots⟩)
  dsimp only [Pt.U, Pt.locs, Pt.cells, Pt.slots] at X1 l1 y1 z1 st e3
  subst l1 y1 z1
  exact ⟨T1, v', es', hP, ⟨_, X1, e3, N.app e2⟩, fun target k => st.trans k⟩
/-- a private method, called by invokevirtual -/
theorem OHere.priv (H : OHere p l e R s m args below meth c Z n0 T cells slots es) (hx : p.tables.exec = Jvm.exec) (hZ : Z.Warmed39 s.vm) {own C : String} {index : Nat} {y : MethodName} {bytes : ByteArray} {maxL : Nat} {ret : Option FieldType} {rm : Room} {as' : Array Value} {P : Option Value → List OEnt → Prop} {fs : List OFEnt} {W : Nat}
    (hown : s.vm.findClass own = some m.cls) (w1 : (Cond.methodLink own index y).before a0 Z = true) (w4 : (Cond.instanceMethod y).before a0 Z = true) (nf : OIsCls Z y.cls) (w3 : (Cond.privateMethod y).before a0 Z = true) (w5 : (Cond.initialized y.cls).before a0 Z = true) (w6 : (Cond.code y bytes maxL ret).before a0 Z = true) (hy : y.cls ≠ "java/lang/invoke/MethodHandle" ∧ y.cls ≠ "java/lang/invoke/VarHandle")
    (hq : es[q]? = some (eO a C fs)) (hM : OCon l Z n0 y bytes maxL ret [] rm as' es P) (hf : rm.frames + 1 ≤ R.frames) (hl : W + (maxL + 11) + rm.locals ≤ R.locals)
    {argsL : List Value} (hsize : Ls.size = c.maxLocals) (hlen : ∀ sig, parseMethodDescriptor y.desc = some sig → argsL.length = sig.parameters.length) (has : (.ref a :: argsL).toArray = as') (hW : (rest.map fun v => v.category).sum ≤ W)
    (hd : decode c.code pc = .ok (.invokevirtual index, 3)) (hcells : cells + rm.cells ≤ R.cells) (hslots : slots + rm.slots ≤ R.slots) :
    ∃ T' v es', P v es' ∧ OHere p l e R s m args below meth c Z n0 T' (cells + rm.cells) (slots + rm.slots) es' ∧
      ∀ target, Steps p.tables e below (T'.setTop (mkF m (pc + 3) Ls (v.toList ++ rest))) target → Steps p.tables e below (T.setTop (mkF m pc Ls (argsL.reverse ++ .ref a :: rest))) target := by
  obtain ⟨locs, X, W', N⟩ := H
  obtain ⟨cq, q1, q2⟩ := (W'.obj hq).1.cell
  have hpr := Cond.privateMethod_at (mvP hZ w3 (args := args))
  obtain ⟨cC, kC, f1, f2, f3⟩ := nf s hZ
  obtain ⟨v', vm₁, ⟨T1, L1, k1, n1⟩, -, X1, ⟨Lc, ⟨e2, es', hP, e3⟩, l1, y1, z1⟩, st⟩ := X.privateBack hx (y := y) hown (mvT hZ w1) (mvT hZ w4) (selects_self_of_private f1 f2 f3 hpr (mvT hZ w4) hy) hpr (mvT hZ w6) hy
    (backOf (W := W) (Q := fun v' h' L => Fr n0 L ∧ ∃ es', P v' es' ∧ OWorld Z n0 h' es') (hM T.heap W') hZ w6 w5 hf hl) (g := mkF m pc Ls (argsL.reverse ++ .ref a :: rest)) rfl hsize (Steps.refl _) (a := a) q1 q2 (argsL := argsL) (rest := rest) hlen rfl
    (by show 2 * 0 + _ ≤ _; rw [Nat.mul_zero, Nat.zero_add]; exact hW) hd (fun _ _ => ⟨has, rfl, hcells, hslots⟩)
  dsimp only [Pt.U, Pt.locs, Pt.cells, Pt.slots] at X1 l1 y1 z1 st e3
  subst l1 y1 z1
  exact ⟨T1, v', es', hP, ⟨_, X1, e3, N.app e2⟩, fun target k => st.trans k⟩
theorem OCon.of_pure {y : MethodName} {bytes : ByteArray} {maxL : Nat} {ret : Option FieldType} {ws : List Cond} {rm : Room} {as' : Array Value} {v : Option Value}
    (hM : ∀ h, MetFree l y (head1 (Cond.code y bytes maxL ret :: ws) rm) (fun a U => a = as' ∧ Z.Warmed39 U.vm ∧ U.heap = h) (fun _ _ _ _ _ => True) (fun _ U o U' => ∃ v' L, o = .returned v' ∧ (v' = v ∧ L = [] ∧ U'.heap = h) ∧ FrameEnd U o U' L rm.cells rm.slots)) : OCon l Z n0 y bytes maxL ret ws rm as' es (fun v' es' => v' = v ∧ es' = es) := fun h W p e a1 a2 a3 s m args below hf ha hP hK => by
  obtain ⟨n, o, h1, h2, h3, v', L, h4, ⟨h5, h6, h7⟩, h8⟩ := hM h p e a1 a2 a3 s m args below hf ha hP hK
  exact ⟨n, o, h1, h2, h3, v', L, h4, ⟨by rw [h6]; exact Fr.nil _, es, ⟨h5, rfl⟩, by rw [h7]; exact W⟩, h8⟩
end OHere
end Jvm.RoadKit
namespace Jvm.Own
open Jvm.RoadKit Jvm.Free
theorem nat_or32 (n : Nat) : n ||| 32 = if n / 32 % 2 = 0 then n + 32 else n := by
  have h1 : (n ||| 32) / 64 = n / 64 := by
    have := Nat.or_div_two_pow (a := n) (b := 32) (n := 6)
    simpa using this
  have h2 : (n ||| 32) % 64 = (n % 64) ||| 32 := by
    have := Nat.or_mod_two_pow (a := n) (b := 32) (n := 6)
    simpa using this
  have h3 : ∀ r < 64, r ||| 32 = if r / 32 % 2 = 0 then r + 32 else r := by decide
  have h4 := h3 (n % 64) (Nat.mod_lt _ (by decide))
  rw [h4] at h2
  split at h2 <;> split <;> omega
theorem toInt_nat (u : Int32) : u.toInt = if u.toBitVec.toNat < 2 ^ 31 then (u.toBitVec.toNat : Int) else (u.toBitVec.toNat : Int) - 2 ^ 32 := by
  have : u.toInt = u.toBitVec.toInt := rfl
  rw [this, BitVec.toInt_eq_toNat_cond]
  split <;> split <;> omega
theorem or32 (u : Int32) : (u ||| 32).toInt = if u.toInt / 32 % 2 = 0 then u.toInt + 32 else u.toInt := by
  have e : (u ||| 32).toBitVec.toNat = u.toBitVec.toNat ||| 32 := by simp [Int32.toBitVec_or, BitVec.toNat_or]
  have hb := u.toBitVec.isLt
  rw [toInt_nat, toInt_nat u, e, nat_or32]
  repeat' split
  all_goals omega
theorem i64_nat (u : Int64) : u.toInt = if u.toBitVec.toNat < 2 ^ 63 then (u.toBitVec.toNat : Int) else (u.toBitVec.toNat : Int) - 2 ^ 64 := by
  have : u.toInt = u.toBitVec.toInt := rfl
  rw [this, BitVec.toInt_eq_toNat_cond]
  split <;> split <;> omega
theorem or_neg64 (x y : Int64) : (x ||| y) < 0 ↔ x < 0 ∨ y < 0 := by
  have h : ∀ z : Int64, z < 0 ↔ z.toBitVec.msb = true := fun z => by
    rw [Int64.lt_iff_toInt_lt, Int64.toInt_zero]
    show z.toBitVec.toInt < 0 ↔ _
    rw [BitVec.toInt_neg_iff, BitVec.msb_eq_decide]; simp; omega
  simp [h, Int64.toBitVec_or, BitVec.msb_or]
theorem ushr_le (x : Int64) (y : Int32) : (XT.ushrL x y).toBitVec.toNat ≤ x.toBitVec.toNat := by
  simp only [XT.ushrL, UInt64.toBitVec_toInt64, UInt64.toBitVec_shiftRight, Int64.toBitVec_toUInt64]
  rw [BitVec.ushiftRight_eq', BitVec.toNat_ushiftRight, Nat.shiftRight_eq_div_pow]
  exact Nat.div_le_self _ _
theorem ushr_nonneg (x : Int64) (y : Int32) (h : 0 ≤ x.toInt) : 0 ≤ (XT.ushrL x y).toInt := by
  have h1 := ushr_le x y
  rw [i64_nat] at *
  have := x.toBitVec.isLt
  have := (XT.ushrL x y).toBitVec.isLt
  split at h <;> split <;> omega
theorem ushr44 (x : Int64) : 0 ≤ (XT.ushrL x 44).toInt ∧ (XT.ushrL x 44).toInt < 2 ^ 20 := by
  have e : (XT.ushrL x 44).toBitVec.toNat = x.toBitVec.toNat / 2 ^ 44 := by
    simp only [XT.ushrL, UInt64.toBitVec_toInt64, UInt64.toBitVec_shiftRight, Int64.toBitVec_toUInt64]
    rw [BitVec.ushiftRight_eq', BitVec.toNat_ushiftRight, Nat.shiftRight_eq_div_pow]
    rfl
  have := x.toBitVec.isLt
  rw [i64_nat, e]
  split <;> omega
theorem narc_toInt (x : Int32) : (nar .char x).toInt = x.toInt % 65536 := by
  have e : (nar .char x).toBitVec.toNat = x.toBitVec.toNat % 65536 := by
    show x.toUInt32.toUInt16.toUInt32.toInt32.toBitVec.toNat = _
    simp
  rw [toInt_nat, e, toInt_nat x]
  have := x.toBitVec.isLt
  repeat' split
  all_goals omega
theorem and_max64 (x : Int64) : 0 ≤ (x &&& 9223372036854775807).toInt := by
  have e : (x &&& 9223372036854775807).toBitVec.toNat = x.toBitVec.toNat &&& 9223372036854775807 := by simp [Int64.toBitVec_and, BitVec.toNat_and]
  have h : x.toBitVec.toNat &&& 9223372036854775807 ≤ 9223372036854775807 := Nat.and_le_right
  rw [i64_nat, e]
  split <;> omega
theorem and_max32 (x : Int32) : 0 ≤ (x &&& 2147483647).toInt := by
  have e : (x &&& 2147483647).toBitVec.toNat = x.toBitVec.toNat &&& 2147483647 := by simp [Int32.toBitVec_and, BitVec.toNat_and]
  have h : x.toBitVec.toNat &&& 2147483647 ≤ 2147483647 := Nat.and_le_right
  rw [toInt_nat, e]
  split <;> omega
theorem bv_toInt (b : BitVec 64) (k : Nat) (hb : b.toNat = k) (hk : k < 64) : b.toInt = k := by
  rw [BitVec.toInt_eq_toNat_of_lt (by omega), hb]
theorem bv_smod (b : BitVec 64) (k : Nat) (hb : b.toNat = k) (hk : k < 64) : (b.smod 64).toNat = k := by
  have h1 := bv_toInt b k hb hk
  have e : b.smod 64 = BitVec.ofNat 64 k := by
    apply BitVec.eq_of_toInt_eq
    rw [bv_toInt (BitVec.ofNat 64 k) k (by simp; omega) hk, BitVec.toInt_smod, h1, show (64 : BitVec 64).toInt = 64 from by decide, Int.fmod_eq_emod_of_nonneg _ (by omega)]; omega
  rw [e]; simp; omega
theorem and63 (y : Int64) : (y &&& 63).toBitVec.toNat = y.toBitVec.toNat % 64 := by
  rw [Int64.toBitVec_and, BitVec.toNat_and]
  have : (63 : Int64).toBitVec.toNat = 2 ^ 6 - 1 := rfl
  rw [this, Nat.and_two_pow_sub_one_eq_mod]
theorem shl_bv (x y : Int64) (k : Nat) (hy : y.toBitVec.toNat % 64 = k) : (x <<< (y &&& 63)).toBitVec = x.toBitVec <<< k := by
  have : (x <<< (y &&& 63)).toBitVec = x.toBitVec <<< ((y &&& 63).toBitVec.smod 64) := rfl
  rw [this, BitVec.shiftLeft_eq', bv_smod _ k (by rw [and63, hy]) (by omega)]
theorem neg_msb (z : Int64) : z < 0 ↔ z.toBitVec.msb = true := by
  rw [Int64.lt_iff_toInt_lt, Int64.toInt_zero]
  show z.toBitVec.toInt < 0 ↔ _
  rw [BitVec.toInt_neg_iff, BitVec.msb_eq_decide]; simp; omega
theorem shl_neg (x y : Int64) (k : Nat) (hk : k < 64) (hy : y.toBitVec.toNat % 64 = 63 - k) : (x <<< (y &&& 63)) < 0 ↔ x.toBitVec.getLsbD k = true := by
  rw [neg_msb, shl_bv x y (63 - k) hy, BitVec.msb_eq_getLsbD_last, BitVec.getLsbD_shiftLeft]
  have e : 63 - (63 - k) = k := by omega
  simp [e]
theorem mask_zero (x y : Int64) (k : Nat) (hy : y.toBitVec.toNat % 64 = k) : (x &&& ((1 : Int64) <<< (y &&& 63))) = 0 ↔ x.toBitVec.getLsbD k = false := by
  have hk : k < 64 := by omega
  rw [← Int64.toBitVec_inj, Int64.toBitVec_and, shl_bv _ _ k hy]
  constructor
  · intro h
    have := congrArg (fun z : BitVec 64 => z.getLsbD k) h
    simp [hk] at this
    exact this
  · intro h
    apply BitVec.eq_of_getLsbD_eq
    intro i hi
    simp only [BitVec.getLsbD_and, BitVec.getLsbD_shiftLeft, Int64.toBitVec_zero, BitVec.getLsbD_zero]
    show (x.toBitVec.getLsbD i && (decide (i < 64) && !decide (i < k) && (1#64).getLsbD (i - k))) = false
    by_cases q : i = k
    · subst q; simp [h]
    · by_cases q2 : i < k
      · simp [q2]
      · have : (1#64).getLsbD (i - k) = false := by
          rw [BitVec.getLsbD_one]; simp; omega
        simp [this]
theorem ushrL_bv (x : Int64) (y : Int32) (k : Nat) (hy : y.toInt64.toBitVec.toNat % 64 = k) : (XT.ushrL x y).toBitVec = x.toBitVec >>> k := by
  have e : (XT.ushrL x y).toBitVec = x.toBitVec >>> ((y.toInt64.toBitVec &&& 63) % 64) := by
    simp [XT.ushrL]
  rw [e, BitVec.ushiftRight_eq']
  congr 1
  have := and63 y.toInt64
  rw [Int64.toBitVec_and] at this
  have h2 : ((y.toInt64.toBitVec &&& 63) % 64).toNat = (y.toInt64.toBitVec &&& 63).toNat % 64 := by simp [BitVec.toNat_umod]
  rw [h2]
  have h3 : (y.toInt64.toBitVec &&& 63).toNat = y.toInt64.toBitVec.toNat % 64 := this
  rw [h3]; omega
end Jvm.Own
namespace Jvm.Pilot.@@N@@
open Jvm Jvm.ClassFile Sem Op Lib Jvm.Free Jvm.Stand Jvm.LawKit Jvm.RoadKit Bundle Jvm.Pilot.@@N@@.Jvm.D
open Jvm.Own
open Jvm.Kit (i64_add i64_sub i64_mul i64_div i32_mask i64_mask)
def fbit (w u1 : Int64) : Int32 := if (w &&& ((1 : Int64) <<< (Int32.toInt64 (Int64.toInt32 u1) &&& 63))) = (0 : Int64) then 0 else 1
abbrev idx (u3 : Int32) : Int32 := (u3 &&& (2147483647 : Int32)) % (192 : Int32)
theorem idx_rng (u3 : Int32) : 0 ≤ (idx u3).toInt ∧ (idx u3).toInt < 192 := by
  unfold idx
  have h0 := and_max32 u3
  rw [Jvm.Kit.i32_rem_nonneg h0, show (192 : Int32).toInt = 192 from rfl]
  omega
theorem i2l_nat (y : Int32) (h : 0 ≤ y.toInt) : y.toInt64.toBitVec.toNat = y.toInt.toNat := by
  have e : y.toInt64.toInt = y.toInt := Int32.toInt_toInt64 y
  have e2 := i64_nat y.toInt64
  have := y.toInt64.toBitVec.isLt
  split at e2 <;> omega
theorem blk (y : Int32) (k : Nat) (h0 : 64 * (k : Int) ≤ y.toInt) (h1 : y.toInt < 64 * k + 64) (hk : k < 3) : ¬ (Int64.toInt32 (XT.ushrL (Int32.toInt64 y) (6 : Int32))) < 0 ∧ (Int64.toInt32 (XT.ushrL (Int32.toInt64 y) (6 : Int32))).toNatClampNeg = k := by
  have e1 : (XT.ushrL (Int32.toInt64 y) (6 : Int32)).toBitVec.toNat = k := by
    rw [ushrL_bv _ _ 6 (by decide), BitVec.toNat_ushiftRight, i2l_nat y (by omega), Nat.shiftRight_eq_div_pow]; omega
  have e2 : (XT.ushrL (Int32.toInt64 y) (6 : Int32)).toInt = k := by
    rw [i64_nat, e1]; split <;> omega
  have e3 : (Int64.toInt32 (XT.ushrL (Int32.toInt64 y) (6 : Int32))).toInt = k := by
    rw [Jvm.Kit.i32_of_i64 (by omega) (by omega), e2]
  refine ⟨by rw [Int32.lt_iff_toInt_lt, e3, Int32.toInt_zero]; omega, ?_⟩
  show (Int64.toInt32 (XT.ushrL (Int32.toInt64 y) (6 : Int32))).toInt.toNat = k
  rw [e3]; rfl
theorem low6 (y : Int32) (h0 : 0 ≤ y.toInt) (k : Nat) (hk : y.toInt % 64 = k) : (Int32.toInt64 (Int64.toInt32 (Int32.toInt64 y))).toBitVec.toNat % 64 = k := by
  have e : Int64.toInt32 (Int32.toInt64 y) = y := by
    rw [← Int32.toInt_inj, Jvm.Kit.i32_of_i64, Int32.toInt_toInt64]
    · rw [Int32.toInt_toInt64]; have := y.le_toInt; omega
    · rw [Int32.toInt_toInt64]; have := y.toInt_lt; omega
  rw [e, i2l_nat y h0]; omega
theorem fbit_eq (w : Int64) (y s : Int32) (h0 : 0 ≤ y.toInt) (k : Nat) (hk : y.toInt % 64 = k) (hs : s.toInt = k) : fbit w (Int32.toInt64 y) = if (w <<< (Int32.toInt64 ((63 : Int32) - s) &&& 63)) < (0 : Int64) then 1 else 0 := by
  have e1 : ((63 : Int32) - s).toInt = 63 - k := by
    rw [Jvm.Kit.i32_sub, hs]; rfl
    · rw [hs, show (63 : Int32).toInt = 63 from rfl]; omega
    · rw [hs, show (63 : Int32).toInt = 63 from rfl]; omega
  have e2 : ((63 : Int32) - s).toInt64.toBitVec.toNat % 64 = 63 - k := by
    rw [i2l_nat _ (by omega), e1]; omega
  have a1 := shl_neg w _ k (by omega) e2
  have a2 := mask_zero w _ k (low6 y h0 k hk)
  unfold fbit
  by_cases q : w.toBitVec.getLsbD k = true
  · rw [if_neg (fun h => by rw [a2.mp h] at q; cases q), if_pos (a1.mpr q)]
  · rw [if_pos (a2.mpr (by simpa using q)), if_neg (fun h => q (a1.mp h))]
theorem lt64 {y : Int32} (h : y < (64 : Int32)) : y.toInt < 64 := by rw [Int32.lt_iff_toInt_lt] at h; exact h
theorem ge64 {y : Int32} (h : ¬ y < (64 : Int32)) : 64 ≤ y.toInt := by rw [Int32.lt_iff_toInt_lt, show (64 : Int32).toInt = 64 from rfl] at h; omega
theorem lt128 {y : Int32} (h : y < (128 : Int32)) : y.toInt < 128 := by rw [Int32.lt_iff_toInt_lt] at h; exact h
theorem ge128 {y : Int32} (h : ¬ y < (128 : Int32)) : 128 ≤ y.toInt := by rw [Int32.lt_iff_toInt_lt, show (128 : Int32).toInt = 128 from rfl] at h; omega
theorem blk0 (u3 : Int32) (c1 : idx u3 < (64 : Int32)) : ¬ (Int64.toInt32 (XT.ushrL (Int32.toInt64 (idx u3)) (6 : Int32))) < 0 ∧ (Int64.toInt32 (XT.ushrL (Int32.toInt64 (idx u3)) (6 : Int32))).toNatClampNeg = 0 := blk (idx u3) 0 (by have := (idx_rng u3).1; omega) (by have := lt64 c1; omega) (by decide)
theorem blk1 (u3 : Int32) (c1 : ¬ idx u3 < (64 : Int32)) (c2 : idx u3 < (128 : Int32)) : ¬ (Int64.toInt32 (XT.ushrL (Int32.toInt64 (idx u3)) (6 : Int32))) < 0 ∧ (Int64.toInt32 (XT.ushrL (Int32.toInt64 (idx u3)) (6 : Int32))).toNatClampNeg = 1 := blk (idx u3) 1 (by have := ge64 c1; omega) (by have := lt128 c2; omega) (by decide)
theorem blk2 (u3 : Int32) (c1 : ¬ idx u3 < (64 : Int32)) (c2 : ¬ idx u3 < (128 : Int32)) : ¬ (Int64.toInt32 (XT.ushrL (Int32.toInt64 (idx u3)) (6 : Int32))) < 0 ∧ (Int64.toInt32 (XT.ushrL (Int32.toInt64 (idx u3)) (6 : Int32))).toNatClampNeg = 2 := blk (idx u3) 2 (by have := ge128 c2; omega) (by have := (idx_rng u3).2; omega) (by decide)
theorem sub_s (y : Int32) (z : Int32) (n : Int) (hz : z.toInt = n) (h1 : -2 ^ 31 ≤ y.toInt - n) (h2 : y.toInt - n < 2 ^ 31) : (y - z).toInt = y.toInt - n := by
  subst hz; exact Jvm.Kit.i32_sub h1 h2
theorem fx0 (u3 : Int32) (w : Int64) (c1 : idx u3 < (64 : Int32)) : fbit w (Int32.toInt64 (idx u3)) = if (w <<< (Int32.toInt64 ((63 : Int32) - idx u3) &&& 63)) < (0 : Int64) then 1 else 0 := by
  have r := idx_rng u3; have q := lt64 c1
  exact fbit_eq w _ _ r.1 (idx u3).toInt.toNat (by omega) (by omega)
theorem fx1 (u3 : Int32) (w : Int64) (c1 : ¬ idx u3 < (64 : Int32)) (c2 : idx u3 < (128 : Int32)) : fbit w (Int32.toInt64 (idx u3)) = if (w <<< (Int32.toInt64 ((63 : Int32) - (idx u3 - (64 : Int32))) &&& 63)) < (0 : Int64) then 1 else 0 := by
  have r := idx_rng u3; have q := ge64 c1; have q2 := lt128 c2
  exact fbit_eq w _ _ r.1 ((idx u3).toInt - 64).toNat (by omega) (by rw [sub_s _ _ 64 rfl (by omega) (by omega)]; omega)
theorem fx2 (u3 : Int32) (w : Int64) (c1 : ¬ idx u3 < (64 : Int32)) (c2 : ¬ idx u3 < (128 : Int32)) : fbit w (Int32.toInt64 (idx u3)) = if (w <<< (Int32.toInt64 ((63 : Int32) - (idx u3 - (128 : Int32))) &&& 63)) < (0 : Int64) then 1 else 0 := by
  have r := idx_rng u3; have q2 := ge128 c2
  exact fbit_eq w _ _ r.1 ((idx u3).toInt - 128).toNat (by omega) (by rw [sub_s _ _ 128 rfl (by omega) (by omega)]; omega)
theorem ft0 (u3 : Int32) (w : Int64) (c1 : idx u3 < (64 : Int32)) (h : (w <<< (Int32.toInt64 ((63 : Int32) - idx u3) &&& 63)) < (0 : Int64)) : fbit w (Int32.toInt64 (idx u3)) = 1 := by rw [fx0 u3 w c1, if_pos h]
theorem ff0 (u3 : Int32) (w : Int64) (c1 : idx u3 < (64 : Int32)) (h : ¬ (w <<< (Int32.toInt64 ((63 : Int32) - idx u3) &&& 63)) < (0 : Int64)) : fbit w (Int32.toInt64 (idx u3)) = 0 := by rw [fx0 u3 w c1, if_neg h]
theorem ft1 (u3 : Int32) (w : Int64) (c1 : ¬ idx u3 < (64 : Int32)) (c2 : idx u3 < (128 : Int32)) (h : (w <<< (Int32.toInt64 ((63 : Int32) - (idx u3 - (64 : Int32))) &&& 63)) < (0 : Int64)) : fbit w (Int32.toInt64 (idx u3)) = 1 := by rw [fx1 u3 w c1 c2, if_pos h]
theorem ff1 (u3 : Int32) (w : Int64) (c1 : ¬ idx u3 < (64 : Int32)) (c2 : idx u3 < (128 : Int32)) (h : ¬ (w <<< (Int32.toInt64 ((63 : Int32) - (idx u3 - (64 : Int32))) &&& 63)) < (0 : Int64)) : fbit w (Int32.toInt64 (idx u3)) = 0 := by rw [fx1 u3 w c1 c2, if_neg h]
theorem ft2 (u3 : Int32) (w : Int64) (c1 : ¬ idx u3 < (64 : Int32)) (c2 : ¬ idx u3 < (128 : Int32)) (h : (w <<< (Int32.toInt64 ((63 : Int32) - (idx u3 - (128 : Int32))) &&& 63)) < (0 : Int64)) : fbit w (Int32.toInt64 (idx u3)) = 1 := by rw [fx2 u3 w c1 c2, if_pos h]
theorem ff2 (u3 : Int32) (w : Int64) (c1 : ¬ idx u3 < (64 : Int32)) (c2 : ¬ idx u3 < (128 : Int32)) (h : ¬ (w <<< (Int32.toInt64 ((63 : Int32) - (idx u3 - (128 : Int32))) &&& 63)) < (0 : Int64)) : fbit w (Int32.toInt64 (idx u3)) = 0 := by rw [fx2 u3 w c1 c2, if_neg h]
theorem d1_0 : decode prog_5_method_19_code 0 = .ok (.aload_n 0, 1) := by decide +kernel
theorem d1_1 : decode prog_5_method_19_code 1 = .ok (.lload_n 1, 1) := by decide +kernel
theorem d1_2 : decode prog_5_method_19_code 2 = .ok (.bipush 6, 2) := by decide +kernel
theorem d1_4 : decode prog_5_method_19_code 4 = .ok (.lushr, 1) := by decide +kernel
theorem d1_5 : decode prog_5_method_19_code 5 = .ok (.l2i, 1) := by decide +kernel
theorem d1_6 : decode prog_5_method_19_code 6 = .ok (.laload, 1) := by decide +kernel
theorem d1_7 : decode prog_5_method_19_code 7 = .ok (.lconst 1, 1) := by decide +kernel
theorem d1_8 : decode prog_5_method_19_code 8 = .ok (.lload_n 1, 1) := by decide +kernel
theorem d1_9 : decode prog_5_method_19_code 9 = .ok (.l2i, 1) := by decide +kernel
theorem d1_10 : decode prog_5_method_19_code 10 = .ok (.lshl, 1) := by decide +kernel
theorem d1_11 : decode prog_5_method_19_code 11 = .ok (.land, 1) := by decide +kernel
theorem d1_12 : decode prog_5_method_19_code 12 = .ok (.lconst 0, 1) := by decide +kernel
theorem d1_13 : decode prog_5_method_19_code 13 = .ok (.lcmp, 1) := by decide +kernel
theorem d1_14 : decode prog_5_method_19_code 14 = .ok (.ifCond .eq 7, 3) := by decide +kernel
theorem d1_17 : decode prog_5_method_19_code 17 = .ok (.iconst 1, 1) := by decide +kernel
theorem d1_18 : decode prog_5_method_19_code 18 = .ok (.goto 4, 3) := by decide +kernel
theorem d1_21 : decode prog_5_method_19_code 21 = .ok (.iconst 0, 1) := by decide +kernel
theorem d1_22 : decode prog_5_method_19_code 22 = .ok (.ireturn, 1) := by decide +kernel
theorem pn_1 : plainFor (⟨"com/example/syndral/syndral/code/Bits", "bit", "([JJ)Z"⟩ : MethodName) = true := by first | exact plainFor_of_name (by first | (simp [plainName, overriddenIn]; done) | decide +kernel) | decide +kernel
theorem ef_1 (m : MethodId) (x0 : Addr) (x1 : Int64) : entryFrame m #[(.ref x0), (.long x1)] 3 = mkF m 0 #[.val (.ref x0), .val (.long x1), .second] [] := by first | (simp [entryFrame, mkF, argsToLocals, Value.category]; done) | rfl
set_option maxRecDepth 65536 in
set_option maxHeartbeats 40000000 in
theorem con1 (l : Launch) (Z : State) (a0 : Array Value) (hw : ∀ d ∈ tables_1, d.before a0 Z = true) (n0 : Nat) (ws : List Jvm.Cond) (u0 : Addr) (u1 : Int64) (es : List OEnt) (q : Nat) (vs : List Value) (w : Int64) (i : Nat) (hq : es[q]? = some (eA u0 .long vs)) (hj : ¬ (Int64.toInt32 (XT.ushrL u1 (6 : Int32))) < 0) (hi : (Int64.toInt32 (XT.ushrL u1 (6 : Int32))).toNatClampNeg = i) (hv : vs[i]? = some (.long w)) :
    OCon l Z n0 (⟨"com/example/syndral/syndral/code/Bits", "bit", "([JJ)Z"⟩ : MethodName) prog_5_method_19_code 3 (some .boolean) ws ({ frames := 0, cells := 0, slots := 0, locals := 0 } : Room) #[(.ref u0), (.long u1)] es (fun v' es' => v' = some (.int (fbit w u1)) ∧ es' = es) := by
  intro h0 hW0
  refine MetFree.of_bodySF pn_1 hisR ?_
  intro p e s m args below meth c s₁ Bd hml0 hP hK
  obtain ⟨rfl, hZ, hh⟩ := hP
  have hx := Bd.exec
  have hby := Bd.bytes
  have hml : c.maxLocals = 3 := hml0
  have hown : s.vm.findClass "com/example/syndral/syndral/code/Bits" = some m.cls := findClass_of_methodNamed Bd.named
  have hnm := (name_of_methodNamed Bd.named Bd.method).1
  have H0 : OHere p l e ({ frames := 0, cells := 0, slots := 0, locals := 0 } : Room) s m #[(.ref u0), (.long u1)] below meth c Z n0 s₁ 0 0 es := ⟨[], Stand.of_body Bd, by rw [show s₁.heap = h0 from by rw [← hh, Bd.state]; rfl]; exact hW0, Fr.nil _⟩
  show OEnds p e below s _ _ (fun v' h' L => Fr n0 L ∧ ∃ es', (fun v' es' => v' = some (.int (fbit w u1)) ∧ es' = es) v' es' ∧ OWorld Z n0 h' es') _
  refine OEnds.pre (fun t k => castTop (ef_1 m u0 u1) k) ?_
  show OEnds p e below s _ _ _ (s₁.setTop (mkF m 0 #[.val (.ref u0), .val (.long u1), .second] []))
  refine OEnds.pre (fun t k => XS.aloadN H0.here hx rfl (hb hby d1_0) rfl rfl k) ?_
  show OEnds p e below s _ _ _ (s₁.setTop (mkF m 1 #[.val (.ref u0), .val (.long u1), .second] [(.ref u0)]))
  refine OEnds.pre (fun t k => XT.lloadN H0.here hx rfl (hb hby d1_1) rfl k) ?_
  show OEnds p e below s _ _ _ (s₁.setTop (mkF m 2 #[.val (.ref u0), .val (.long u1), .second] [(.long u1), (.ref u0)]))
  refine OEnds.pre (fun t k => XT.bipushV H0.here hx rfl (6 : Int32) (hb hby d1_2) rfl k) ?_
  show OEnds p e below s _ _ _ (s₁.setTop (mkF m 4 #[.val (.ref u0), .val (.long u1), .second] [(.int (6 : Int32)), (.long u1), (.ref u0)]))
  refine OEnds.pre (fun t k => XT.lushr H0.here hx rfl (hb hby d1_4) rfl k) ?_
  show OEnds p e below s _ _ _ (s₁.setTop (mkF m 5 #[.val (.ref u0), .val (.long u1), .second] [(.long (XT.ushrL u1 (6 : Int32))), (.ref u0)]))
  refine OEnds.pre (fun t k => XT.l2i H0.here hx rfl (hb hby d1_5) rfl k) ?_
  show OEnds p e below s _ _ _ (s₁.setTop (mkF m 6 #[.val (.ref u0), .val (.long u1), .second] [(.int (Int64.toInt32 (XT.ushrL u1 (6 : Int32)))), (.ref u0)]))
  refine OEnds.pre (fun t k => OHere.laload H0 hx hZ (q := q) (i := i) (vs := vs) (v := .long w) hq hj hi hv (hb hby d1_6) k) ?_
  show OEnds p e below s _ _ _ (s₁.setTop (mkF m 7 #[.val (.ref u0), .val (.long u1), .second] [(.long w)]))
  refine OEnds.pre (fun t k => XT.lconstV H0.here hx rfl (1 : Int64) (hb hby d1_7) rfl k) ?_
  show OEnds p e below s _ _ _ (s₁.setTop (mkF m 8 #[.val (.ref u0), .val (.long u1), .second] [(.long (1 : Int64)), (.long w)]))
  refine OEnds.pre (fun t k => XT.lloadN H0.here hx rfl (hb hby d1_8) rfl k) ?_
  show OEnds p e below s _ _ _ (s₁.setTop (mkF m 9 #[.val (.ref u0), .val (.long u1), .second] [(.long u1), (.long (1 : Int64)), (.long w)]))
  refine OEnds.pre (fun t k => XT.l2i H0.here hx rfl (hb hby d1_9) rfl k) ?_
  show OEnds p e below s _ _ _ (s₁.setTop (mkF m 10 #[.val (.ref u0), .val (.long u1), .second] [(.int (Int64.toInt32 u1)), (.long (1 : Int64)), (.long w)]))
  refine OEnds.pre (fun t k => XT.lshl H0.here hx rfl (hb hby d1_10) rfl k) ?_
  show OEnds p e below s _ _ _ (s₁.setTop (mkF m 11 #[.val (.ref u0), .val (.long u1), .second] [(.long ((1 : Int64) <<< (Int32.toInt64 (Int64.toInt32 u1) &&& 63))), (.long w)]))
  refine OEnds.pre (fun t k => XT.land H0.here hx rfl (hb hby d1_11) rfl k) ?_
  show OEnds p e below s _ _ _ (s₁.setTop (mkF m 12 #[.val (.ref u0), .val (.long u1), .second] [(.long (w &&& ((1 : Int64) <<< (Int32.toInt64 (Int64.toInt32 u1) &&& 63))))]))
  refine OEnds.pre (fun t k => XT.lconstV H0.here hx rfl (0 : Int64) (hb hby d1_12) rfl k) ?_
  show OEnds p e below s _ _ _ (s₁.setTop (mkF m 13 #[.val (.ref u0), .val (.long u1), .second] [(.long (0 : Int64)), (.long (w &&& ((1 : Int64) <<< (Int32.toInt64 (Int64.toInt32 u1) &&& 63))))]))
  refine OEnds.pre (fun t k => XT.lcmp H0.here hx rfl (hb hby d1_13) rfl k) ?_
  show OEnds p e below s _ _ _ (s₁.setTop (mkF m 14 #[.val (.ref u0), .val (.long u1), .second] [(.int (XT.cmpL (w &&& ((1 : Int64) <<< (Int32.toInt64 (Int64.toInt32 u1) &&& 63))) (0 : Int64)))]))
  by_cases c1 : (w &&& ((1 : Int64) <<< (Int32.toInt64 (Int64.toInt32 u1) &&& 63))) = (0 : Int64)
  · refine OEnds.pre (fun t k => XS.ifYes H0.here hx rfl (pc0 := 14) (pc' := 21) rfl (hb hby d1_14) rfl (XT.ll_eq_t c1) (by decide) (by decide) k) ?_
    show OEnds p e below s _ _ _ (s₁.setTop (mkF m 21 #[.val (.ref u0), .val (.long u1), .second] []))
    refine OEnds.pre (fun t k => XT.iconstV H0.here hx rfl (0 : Int32) (hb hby d1_21) rfl k) ?_
    show OEnds p e below s _ _ _ (s₁.setTop (mkF m 22 #[.val (.ref u0), .val (.long u1), .second] [(.int (0 : Int32))]))
    exact H0.nrw hx Bd.notSynchronized Bd.returns (by simp) (hb hby d1_22) (by decide) (by decide) (fun h L W N => ⟨N, _, ⟨by unfold fbit; rw [if_pos c1]; rfl, rfl⟩, W⟩)
  · refine OEnds.pre (fun t k => XS.ifNo H0.here hx rfl (hb hby d1_14) rfl (XT.ll_eq_f c1) k) ?_
    show OEnds p e below s _ _ _ (s₁.setTop (mkF m 17 #[.val (.ref u0), .val (.long u1), .second] []))
    refine OEnds.pre (fun t k => XT.iconstV H0.here hx rfl (1 : Int32) (hb hby d1_17) rfl k) ?_
    show OEnds p e below s _ _ _ (s₁.setTop (mkF m 18 #[.val (.ref u0), .val (.long u1), .second] [(.int (1 : Int32))]))
    refine OEnds.pre (fun t k => XS.goto H0.here hx rfl (pc0 := 18) (pc' := 22) rfl (hb hby d1_18) (by decide) (by decide) k) ?_
    show OEnds p e below s _ _ _ (s₁.setTop (mkF m 22 #[.val (.ref u0), .val (.long u1), .second] [(.int (1 : Int32))]))
    exact H0.nrw hx Bd.notSynchronized Bd.returns (by simp) (hb hby d1_22) (by decide) (by decide) (fun h L W N => ⟨N, _, ⟨by unfold fbit; rw [if_neg c1]; rfl, rfl⟩, W⟩)
theorem pd_oAJJcZ : parseMethodDescriptor "([JJ)Z" = some ⟨[(.array .long), .long], some .boolean⟩ := by decide +kernel
theorem pn_0 : plainFor x = true := by first | exact plainFor_of_name (by first | (simp [plainName, overriddenIn]; done) | decide +kernel) | decide +kernel
theorem ef_0 (m : MethodId) (x0 : Int64) (x1 : Int64) (x2 : Int64) (x3 : Int32) : entryFrame m #[(.long x0), (.long x1), (.long x2), (.int x3)] maxLocals = mkF m 0 #[.val (.long x0), .second, .val (.long x1), .second, .val (.long x2), .second, .val (.int x3), .unset, .unset, .unset, .unset, .unset, .unset, .unset] [] := by first | (simp [entryFrame, mkF, argsToLocals, Value.category, maxLocals]; done) | rfl
set_option maxRecDepth 65536 in
set_option maxHeartbeats 40000000 in
theorem con0 (l : Launch) (Z : State) (a0 : Array Value) (hw : ∀ d ∈ tables_1, d.before a0 Z = true) (n0 : Nat) (ws : List Jvm.Cond) (u0 : Int64) (u1 : Int64) (u2 : Int64) (u3 : Int32)  :
    OCon l Z n0 x code maxLocals ret ws room_1 #[(.long u0), (.long u1), (.long u2), (.int u3)] [] (fun v' es' => v' = some (.int 1) ∧ es' = []) := by
  intro h0 hW0
  refine MetFree.of_bodySF pn_0 hisR ?_
  intro p e s m args below meth c s₁ Bd hml0 hP hK
  obtain ⟨rfl, hZ, hh⟩ := hP
  have hx := Bd.exec
  have hby := Bd.bytes
  have hml : c.maxLocals = 14 := hml0
  have hown : s.vm.findClass "com/example/syndral/syndral/code/BitsBitPinLaw" = some m.cls := findClass_of_methodNamed Bd.named
  have hnm := (name_of_methodNamed Bd.named Bd.method).1
  have H0 : OHere p l e room_1 s m #[(.long u0), (.long u1), (.long u2), (.int u3)] below meth c Z n0 s₁ 0 0 [] := ⟨[], Stand.of_body Bd, by rw [show s₁.heap = h0 from by rw [← hh, Bd.state]; rfl]; exact hW0, Fr.nil _⟩
  show OEnds p e below s _ _ (fun v' h' L => Fr n0 L ∧ ∃ es', (fun v' es' => v' = some (.int 1) ∧ es' = []) v' es' ∧ OWorld Z n0 h' es') _
  refine OEnds.pre (fun t k => castTop (ef_0 m u0 u1 u2 u3) k) ?_
  show OEnds p e below s _ _ _ (s₁.setTop (mkF m 0 #[.val (.long u0), .second, .val (.long u1), .second, .val (.long u2), .second, .val (.int u3), .unset, .unset, .unset, .unset, .unset, .unset, .unset] []))
  refine OEnds.pre (fun t k => XT.iconstV H0.here hx rfl (3 : Int32) (hb hby at_0) rfl k) ?_
  show OEnds p e below s _ _ _ (s₁.setTop (mkF m 1 #[.val (.long u0), .second, .val (.long u1), .second, .val (.long u2), .second, .val (.int u3), .unset, .unset, .unset, .unset, .unset, .unset, .unset] [(.int (3 : Int32))]))
  obtain ⟨T2, b1, H2, st2⟩ := OHere.newarray H0 hx hZ (cap := 3) (pc := 1) (Ls := #[.val (.long u0), .second, .val (.long u1), .second, .val (.long u2), .second, .val (.int u3), .unset, .unset, .unset, .unset, .unset, .unset, .unset]) (rest := []) (z := (3 : Int32)) (aty := .long) (hw _ (List.mem_of_getElem? (i := 0) rfl)) (hb hby at_1) (by decide) (by decide) (by decide) (by decide) (by decide)
  replace H2 : OHere p l e _ s m _ below meth c Z n0 T2 1 3 [(eA b1 .long [(.long 0), (.long 0), (.long 0)])] := H2
  refine OEnds.pre (fun t k => st2 _ k) ?_
  show OEnds p e below s _ _ _ (T2.setTop (mkF m 3 #[.val (.long u0), .second, .val (.long u1), .second, .val (.long u2), .second, .val (.int u3), .unset, .unset, .unset, .unset, .unset, .unset, .unset] [(.ref b1)]))
  refine OEnds.pre (fun t k => XS.dup H2.here hx rfl (hb hby at_3) rfl rfl k) ?_
  show OEnds p e below s _ _ _ (T2.setTop (mkF m 4 #[.val (.long u0), .second, .val (.long u1), .second, .val (.long u2), .second, .val (.int u3), .unset, .unset, .unset, .unset, .unset, .unset, .unset] [(.ref b1), (.ref b1)]))
  refine OEnds.pre (fun t k => XT.iconstV H2.here hx rfl (0 : Int32) (hb hby at_4) rfl k) ?_
  show OEnds p e below s _ _ _ (T2.setTop (mkF m 5 #[.val (.long u0), .second, .val (.long u1), .second, .val (.long u2), .second, .val (.int u3), .unset, .unset, .unset, .unset, .unset, .unset, .unset] [(.int (0 : Int32)), (.ref b1), (.ref b1)]))
  refine OEnds.pre (fun t k => XT.lloadN H2.here hx rfl (hb hby at_5) rfl k) ?_
  show OEnds p e below s _ _ _ (T2.setTop (mkF m 6 #[.val (.long u0), .second, .val (.long u1), .second, .val (.long u2), .second, .val (.int u3), .unset, .unset, .unset, .unset, .unset, .unset, .unset] [(.long u0), (.int (0 : Int32)), (.ref b1), (.ref b1)]))
  obtain ⟨T3, H3, st3⟩ := OHere.lastore H2 hx hZ (q := 0) (i := 0) (vs := [(.long 0), (.long 0), (.long 0)]) (x := u0) (j := (0 : Int32)) (pc := 6) (Ls := #[.val (.long u0), .second, .val (.long u1), .second, .val (.long u2), .second, .val (.int u3), .unset, .unset, .unset, .unset, .unset, .unset, .unset]) (rest := [(.ref b1)]) rfl (by decide) (by decide) (by simp) (hb hby at_6)
  replace H3 : OHere p l e _ s m _ below meth c Z n0 T3 1 3 [(eA b1 .long [(.long u0), (.long 0), (.long 0)])] := H3
  refine OEnds.pre (fun t k => st3 _ k) ?_
  show OEnds p e below s _ _ _ (T3.setTop (mkF m 7 #[.val (.long u0), .second, .val (.long u1), .second, .val (.long u2), .second, .val (.int u3), .unset, .unset, .unset, .unset, .unset, .unset, .unset] [(.ref b1)]))
  refine OEnds.pre (fun t k => XS.dup H3.here hx rfl (hb hby at_7) rfl rfl k) ?_
  show OEnds p e below s _ _ _ (T3.setTop (mkF m 8 #[.val (.long u0), .second, .val (.long u1), .second, .val (.long u2), .second, .val (.int u3), .unset, .unset, .unset, .unset, .unset, .unset, .unset] [(.ref b1), (.ref b1)]))
  refine OEnds.pre (fun t k => XT.iconstV H3.here hx rfl (1 : Int32) (hb hby at_8) rfl k) ?_
  show OEnds p e below s _ _ _ (T3.setTop (mkF m 9 #[.val (.long u0), .second, .val (.long u1), .second, .val (.long u2), .second, .val (.int u3), .unset, .unset, .unset, .unset, .unset, .unset, .unset] [(.int (1 : Int32)), (.ref b1), (.ref b1)]))
  refine OEnds.pre (fun t k => XT.lloadN H3.here hx rfl (hb hby at_9) rfl k) ?_
  show OEnds p e below s _ _ _ (T3.setTop (mkF m 10 #[.val (.long u0), .second, .val (.long u1), .second, .val (.long u2), .second, .val (.int u3), .unset, .unset, .unset, .unset, .unset, .unset, .unset] [(.long u1), (.int (1 : Int32)), (.ref b1), (.ref b1)]))
  obtain ⟨T4, H4, st4⟩ := OHere.lastore H3 hx hZ (q := 0) (i := 1) (vs := [(.long u0), (.long 0), (.long 0)]) (x := u1) (j := (1 : Int32)) (pc := 10) (Ls := #[.val (.long u0), .second, .val (.long u1), .second, .val (.long u2), .second, .val (.int u3), .unset, .unset, .unset, .unset, .unset, .unset, .unset]) (rest := [(.ref b1)]) rfl (by decide) (by decide) (by simp) (hb hby at_10)
  replace H4 : OHere p l e _ s m _ below meth c Z n0 T4 1 3 [(eA b1 .long [(.long u0), (.long u1), (.long 0)])] := H4
  refine OEnds.pre (fun t k => st4 _ k) ?_
  show OEnds p e below s _ _ _ (T4.setTop (mkF m 11 #[.val (.long u0), .second, .val (.long u1), .second, .val (.long u2), .second, .val (.int u3), .unset, .unset, .unset, .unset, .unset, .unset, .unset] [(.ref b1)]))
  refine OEnds.pre (fun t k => XS.dup H4.here hx rfl (hb hby at_11) rfl rfl k) ?_
  show OEnds p e below s _ _ _ (T4.setTop (mkF m 12 #[.val (.long u0), .second, .val (.long u1), .second, .val (.long u2), .second, .val (.int u3), .unset, .unset, .unset, .unset, .unset, .unset, .unset] [(.ref b1), (.ref b1)]))
  refine OEnds.pre (fun t k => XT.iconstV H4.here hx rfl (2 : Int32) (hb hby at_12) rfl k) ?_
  show OEnds p e below s _ _ _ (T4.setTop (mkF m 13 #[.val (.long u0), .second, .val (.long u1), .second, .val (.long u2), .second, .val (.int u3), .unset, .unset, .unset, .unset, .unset, .unset, .unset] [(.int (2 : Int32)), (.ref b1), (.ref b1)]))
  refine OEnds.pre (fun t k => XT.lload H4.here hx rfl (hb hby at_13) rfl k) ?_
  show OEnds p e below s _ _ _ (T4.setTop (mkF m 15 #[.val (.long u0), .second, .val (.long u1), .second, .val (.long u2), .second, .val (.int u3), .unset, .unset, .unset, .unset, .unset, .unset, .unset] [(.long u2), (.int (2 : Int32)), (.ref b1), (.ref b1)]))
  obtain ⟨T5, H5, st5⟩ := OHere.lastore H4 hx hZ (q := 0) (i := 2) (vs := [(.long u0), (.long u1), (.long 0)]) (x := u2) (j := (2 : Int32)) (pc := 15) (Ls := #[.val (.long u0), .second, .val (.long u1), .second, .val (.long u2), .second, .val (.int u3), .unset, .unset, .unset, .unset, .unset, .unset, .unset]) (rest := [(.ref b1)]) rfl (by decide) (by decide) (by simp) (hb hby at_15)
  replace H5 : OHere p l e _ s m _ below meth c Z n0 T5 1 3 [(eA b1 .long [(.long u0), (.long u1), (.long u2)])] := H5
  refine OEnds.pre (fun t k => st5 _ k) ?_
  show OEnds p e below s _ _ _ (T5.setTop (mkF m 16 #[.val (.long u0), .second, .val (.long u1), .second, .val (.long u2), .second, .val (.int u3), .unset, .unset, .unset, .unset, .unset, .unset, .unset] [(.ref b1)]))
  refine OEnds.pre (fun t k => XS.astore H5.here hx rfl (hb hby at_16) rfl rfl (l' := #[.val (.long u0), .second, .val (.long u1), .second, .val (.long u2), .second, .val (.int u3), .val (.ref b1), .unset, .unset, .unset, .unset, .unset, .unset]) rfl k) ?_
  show OEnds p e below s _ _ _ (T5.setTop (mkF m 18 #[.val (.long u0), .second, .val (.long u1), .second, .val (.long u2), .second, .val (.int u3), .val (.ref b1), .unset, .unset, .unset, .unset, .unset, .unset] []))
  refine OEnds.pre (fun t k => XS.iload H5.here hx rfl (hb hby at_18) rfl k) ?_
  show OEnds p e below s _ _ _ (T5.setTop (mkF m 20 #[.val (.long u0), .second, .val (.long u1), .second, .val (.long u2), .second, .val (.int u3), .val (.ref b1), .unset, .unset, .unset, .unset, .unset, .unset] [(.int u3)]))
  refine OEnds.pre (fun t k => OHere.ldcI H5 hx hown (mvT hZ (hw _ (List.mem_of_getElem? (i := 1) rfl))) rfl (hb hby at_20) k) ?_
  show OEnds p e below s _ _ _ (T5.setTop (mkF m 22 #[.val (.long u0), .second, .val (.long u1), .second, .val (.long u2), .second, .val (.int u3), .val (.ref b1), .unset, .unset, .unset, .unset, .unset, .unset] [(.int (2147483647 : Int32)), (.int u3)]))
  refine OEnds.pre (fun t k => XS.iand H5.here hx rfl (hb hby at_22) rfl k) ?_
  show OEnds p e below s _ _ _ (T5.setTop (mkF m 23 #[.val (.long u0), .second, .val (.long u1), .second, .val (.long u2), .second, .val (.int u3), .val (.ref b1), .unset, .unset, .unset, .unset, .unset, .unset] [(.int (u3 &&& (2147483647 : Int32)))]))
  refine OEnds.pre (fun t k => XT.sipushV H5.here hx rfl (192 : Int32) (hb hby at_23) rfl k) ?_
  show OEnds p e below s _ _ _ (T5.setTop (mkF m 26 #[.val (.long u0), .second, .val (.long u1), .second, .val (.long u2), .second, .val (.int u3), .val (.ref b1), .unset, .unset, .unset, .unset, .unset, .unset] [(.int (192 : Int32)), (.int (u3 &&& (2147483647 : Int32)))]))
  refine OEnds.pre (fun t k => OHere.irem H5 hx rfl (hb hby at_26) rfl (by decide) k) ?_
  show OEnds p e below s _ _ _ (T5.setTop (mkF m 27 #[.val (.long u0), .second, .val (.long u1), .second, .val (.long u2), .second, .val (.int u3), .val (.ref b1), .unset, .unset, .unset, .unset, .unset, .unset] [(.int ((u3 &&& (2147483647 : Int32)) % (192 : Int32)))]))
  refine OEnds.pre (fun t k => XS.istore H5.here hx rfl (hb hby at_27) rfl (l' := #[.val (.long u0), .second, .val (.long u1), .second, .val (.long u2), .second, .val (.int u3), .val (.ref b1), .val (.int ((u3 &&& (2147483647 : Int32)) % (192 : Int32))), .unset, .unset, .unset, .unset, .unset]) rfl k) ?_
  show OEnds p e below s _ _ _ (T5.setTop (mkF m 29 #[.val (.long u0), .second, .val (.long u1), .second, .val (.long u2), .second, .val (.int u3), .val (.ref b1), .val (.int ((u3 &&& (2147483647 : Int32)) % (192 : Int32))), .unset, .unset, .unset, .unset, .unset] []))
  refine OEnds.pre (fun t k => XS.iload H5.here hx rfl (hb hby at_29) rfl k) ?_
  show OEnds p e below s _ _ _ (T5.setTop (mkF m 31 #[.val (.long u0), .second, .val (.long u1), .second, .val (.long u2), .second, .val (.int u3), .val (.ref b1), .val (.int ((u3 &&& (2147483647 : Int32)) % (192 : Int32))), .unset, .unset, .unset, .unset, .unset] [(.int ((u3 &&& (2147483647 : Int32)) % (192 : Int32)))]))
  refine OEnds.pre (fun t k => XT.bipushV H5.here hx rfl (64 : Int32) (hb hby at_31) rfl k) ?_
  show OEnds p e below s _ _ _ (T5.setTop (mkF m 33 #[.val (.long u0), .second, .val (.long u1), .second, .val (.long u2), .second, .val (.int u3), .val (.ref b1), .val (.int ((u3 &&& (2147483647 : Int32)) % (192 : Int32))), .unset, .unset, .unset, .unset, .unset] [(.int (64 : Int32)), (.int ((u3 &&& (2147483647 : Int32)) % (192 : Int32)))]))
  by_cases c1 : ((u3 &&& (2147483647 : Int32)) % (192 : Int32)) < (64 : Int32)
  · refine OEnds.pre (fun t k => XS.icmpNo H5.here hx rfl (hb hby at_33) rfl (XT.ii_ge_f c1) k) ?_
    show OEnds p e below s _ _ _ (T5.setTop (mkF m 36 #[.val (.long u0), .second, .val (.long u1), .second, .val (.long u2), .second, .val (.int u3), .val (.ref b1), .val (.int ((u3 &&& (2147483647 : Int32)) % (192 : Int32))), .unset, .unset, .unset, .unset, .unset] []))
    refine OEnds.pre (fun t k => XT.lloadN H5.here hx rfl (hb hby at_36) rfl k) ?_
    show OEnds p e below s _ _ _ (T5.setTop (mkF m 37 #[.val (.long u0), .second, .val (.long u1), .second, .val (.long u2), .second, .val (.int u3), .val (.ref b1), .val (.int ((u3 &&& (2147483647 : Int32)) % (192 : Int32))), .unset, .unset, .unset, .unset, .unset] [(.long u0)]))
    refine OEnds.pre (fun t k => XT.lstore H5.here hx rfl (hb hby at_37) rfl (l' := #[.val (.long u0), .second, .val (.long u1), .second, .val (.long u2), .second, .val (.int u3), .val (.ref b1), .val (.int ((u3 &&& (2147483647 : Int32)) % (192 : Int32))), .val (.long u0), .second, .unset, .unset, .unset]) rfl k) ?_
    show OEnds p e below s _ _ _ (T5.setTop (mkF m 39 #[.val (.long u0), .second, .val (.long u1), .second, .val (.long u2), .second, .val (.int u3), .val (.ref b1), .val (.int ((u3 &&& (2147483647 : Int32)) % (192 : Int32))), .val (.long u0), .second, .unset, .unset, .unset] []))
    refine OEnds.pre (fun t k => XS.iload H5.here hx rfl (hb hby at_39) rfl k) ?_
    show OEnds p e below s _ _ _ (T5.setTop (mkF m 41 #[.val (.long u0), .second, .val (.long u1), .second, .val (.long u2), .second, .val (.int u3), .val (.ref b1), .val (.int ((u3 &&& (2147483647 : Int32)) % (192 : Int32))), .val (.long u0), .second, .unset, .unset, .unset] [(.int ((u3 &&& (2147483647 : Int32)) % (192 : Int32)))]))
    refine OEnds.pre (fun t k => XS.istore H5.here hx rfl (hb hby at_41) rfl (l' := #[.val (.long u0), .second, .val (.long u1), .second, .val (.long u2), .second, .val (.int u3), .val (.ref b1), .val (.int ((u3 &&& (2147483647 : Int32)) % (192 : Int32))), .val (.long u0), .second, .val (.int ((u3 &&& (2147483647 : Int32)) % (192 : Int32))), .unset, .unset]) rfl k) ?_
    show OEnds p e below s _ _ _ (T5.setTop (mkF m 43 #[.val (.long u0), .second, .val (.long u1), .second, .val (.long u2), .second, .val (.int u3), .val (.ref b1), .val (.int ((u3 &&& (2147483647 : Int32)) % (192 : Int32))), .val (.long u0), .second, .val (.int ((u3 &&& (2147483647 : Int32)) % (192 : Int32))), .unset, .unset] []))
    refine OEnds.pre (fun t k => XS.goto H5.here hx rfl (pc0 := 43) (pc' := 79) rfl (hb hby at_43) (by decide) (by decide) k) ?_
    show OEnds p e below s _ _ _ (T5.setTop (mkF m 79 #[.val (.long u0), .second, .val (.long u1), .second, .val (.long u2), .second, .val (.int u3), .val (.ref b1), .val (.int ((u3 &&& (2147483647 : Int32)) % (192 : Int32))), .val (.long u0), .second, .val (.int ((u3 &&& (2147483647 : Int32)) % (192 : Int32))), .unset, .unset] []))
    refine OEnds.pre (fun t k => XT.lload H5.here hx rfl (hb hby at_79) rfl k) ?_
    show OEnds p e below s _ _ _ (T5.setTop (mkF m 81 #[.val (.long u0), .second, .val (.long u1), .second, .val (.long u2), .second, .val (.int u3), .val (.ref b1), .val (.int ((u3 &&& (2147483647 : Int32)) % (192 : Int32))), .val (.long u0), .second, .val (.int ((u3 &&& (2147483647 : Int32)) % (192 : Int32))), .unset, .unset] [(.long u0)]))
    refine OEnds.pre (fun t k => XT.bipushV H5.here hx rfl (63 : Int32) (hb hby at_81) rfl k) ?_
    show OEnds p e below s _ _ _ (T5.setTop (mkF m 83 #[.val (.long u0), .second, .val (.long u1), .second, .val (.long u2), .second, .val (.int u3), .val (.ref b1), .val (.int ((u3 &&& (2147483647 : Int32)) % (192 : Int32))), .val (.long u0), .second, .val (.int ((u3 &&& (2147483647 : Int32)) % (192 : Int32))), .unset, .unset] [(.int (63 : Int32)), (.long u0)]))
    refine OEnds.pre (fun t k => XS.iload H5.here hx rfl (hb hby at_83) rfl k) ?_
    show OEnds p e below s _ _ _ (T5.setTop (mkF m 85 #[.val (.long u0), .second, .val (.long u1), .second, .val (.long u2), .second, .val (.int u3), .val (.ref b1), .val (.int ((u3 &&& (2147483647 : Int32)) % (192 : Int32))), .val (.long u0), .second, .val (.int ((u3 &&& (2147483647 : Int32)) % (192 : Int32))), .unset, .unset] [(.int ((u3 &&& (2147483647 : Int32)) % (192 : Int32))), (.int (63 : Int32)), (.long u0)]))
    refine OEnds.pre (fun t k => XS.isub H5.here hx rfl (hb hby at_85) rfl k) ?_
    show OEnds p e below s _ _ _ (T5.setTop (mkF m 86 #[.val (.long u0), .second, .val (.long u1), .second, .val (.long u2), .second, .val (.int u3), .val (.ref b1), .val (.int ((u3 &&& (2147483647 : Int32)) % (192 : Int32))), .val (.long u0), .second, .val (.int ((u3 &&& (2147483647 : Int32)) % (192 : Int32))), .unset, .unset] [(.int ((63 : Int32) - ((u3 &&& (2147483647 : Int32)) % (192 : Int32)))), (.long u0)]))
    refine OEnds.pre (fun t k => XT.lshl H5.here hx rfl (hb hby at_86) rfl k) ?_
    show OEnds p e below s _ _ _ (T5.setTop (mkF m 87 #[.val (.long u0), .second, .val (.long u1), .second, .val (.long u2), .second, .val (.int u3), .val (.ref b1), .val (.int ((u3 &&& (2147483647 : Int32)) % (192 : Int32))), .val (.long u0), .second, .val (.int ((u3 &&& (2147483647 : Int32)) % (192 : Int32))), .unset, .unset] [(.long (u0 <<< (Int32.toInt64 ((63 : Int32) - ((u3 &&& (2147483647 : Int32)) % (192 : Int32))) &&& 63)))]))
    refine OEnds.pre (fun t k => XT.lconstV H5.here hx rfl (0 : Int64) (hb hby at_87) rfl k) ?_
    show OEnds p e below s _ _ _ (T5.setTop (mkF m 88 #[.val (.long u0), .second, .val (.long u1), .second, .val (.long u2), .second, .val (.int u3), .val (.ref b1), .val (.int ((u3 &&& (2147483647 : Int32)) % (192 : Int32))), .val (.long u0), .second, .val (.int ((u3 &&& (2147483647 : Int32)) % (192 : Int32))), .unset, .unset] [(.long (0 : Int64)), (.long (u0 <<< (Int32.toInt64 ((63 : Int32) - ((u3 &&& (2147483647 : Int32)) % (192 : Int32))) &&& 63)))]))
    refine OEnds.pre (fun t k => XT.lcmp H5.here hx rfl (hb hby at_88) rfl k) ?_
    show OEnds p e below s _ _ _ (T5.setTop (mkF m 89 #[.val (.long u0), .second, .val (.long u1), .second, .val (.long u2), .second, .val (.int u3), .val (.ref b1), .val (.int ((u3 &&& (2147483647 : Int32)) % (192 : Int32))), .val (.long u0), .second, .val (.int ((u3 &&& (2147483647 : Int32)) % (192 : Int32))), .unset, .unset] [(.int (XT.cmpL (u0 <<< (Int32.toInt64 ((63 : Int32) - ((u3 &&& (2147483647 : Int32)) % (192 : Int32))) &&& 63)) (0 : Int64)))]))
    by_cases c2 : (u0 <<< (Int32.toInt64 ((63 : Int32) - ((u3 &&& (2147483647 : Int32)) % (192 : Int32))) &&& 63)) < (0 : Int64)
    · refine OEnds.pre (fun t k => XS.ifNo H5.here hx rfl (hb hby at_89) rfl (XT.ll_ge_f c2) k) ?_
      show OEnds p e below s _ _ _ (T5.setTop (mkF m 92 #[.val (.long u0), .second, .val (.long u1), .second, .val (.long u2), .second, .val (.int u3), .val (.ref b1), .val (.int ((u3 &&& (2147483647 : Int32)) % (192 : Int32))), .val (.long u0), .second, .val (.int ((u3 &&& (2147483647 : Int32)) % (192 : Int32))), .unset, .unset] []))
      refine OEnds.pre (fun t k => XT.iconstV H5.here hx rfl (1 : Int32) (hb hby at_92) rfl k) ?_
      show OEnds p e below s _ _ _ (T5.setTop (mkF m 93 #[.val (.long u0), .second, .val (.long u1), .second, .val (.long u2), .second, .val (.int u3), .val (.ref b1), .val (.int ((u3 &&& (2147483647 : Int32)) % (192 : Int32))), .val (.long u0), .second, .val (.int ((u3 &&& (2147483647 : Int32)) % (192 : Int32))), .unset, .unset] [(.int (1 : Int32))]))
      refine OEnds.pre (fun t k => XS.goto H5.here hx rfl (pc0 := 93) (pc' := 97) rfl (hb hby at_93) (by decide) (by decide) k) ?_
      show OEnds p e below s _ _ _ (T5.setTop (mkF m 97 #[.val (.long u0), .second, .val (.long u1), .second, .val (.long u2), .second, .val (.int u3), .val (.ref b1), .val (.int ((u3 &&& (2147483647 : Int32)) % (192 : Int32))), .val (.long u0), .second, .val (.int ((u3 &&& (2147483647 : Int32)) % (192 : Int32))), .unset, .unset] [(.int (1 : Int32))]))
      refine OEnds.pre (fun t k => XS.istore H5.here hx rfl (hb hby at_97) rfl (l' := #[.val (.long u0), .second, .val (.long u1), .second, .val (.long u2), .second, .val (.int u3), .val (.ref b1), .val (.int ((u3 &&& (2147483647 : Int32)) % (192 : Int32))), .val (.long u0), .second, .val (.int ((u3 &&& (2147483647 : Int32)) % (192 : Int32))), .val (.int (1 : Int32)), .unset]) rfl k) ?_
      show OEnds p e below s _ _ _ (T5.setTop (mkF m 99 #[.val (.long u0), .second, .val (.long u1), .second, .val (.long u2), .second, .val (.int u3), .val (.ref b1), .val (.int ((u3 &&& (2147483647 : Int32)) % (192 : Int32))), .val (.long u0), .second, .val (.int ((u3 &&& (2147483647 : Int32)) % (192 : Int32))), .val (.int (1 : Int32)), .unset] []))
      refine OEnds.pre (fun t k => XS.aload H5.here hx rfl (hb hby at_99) rfl rfl k) ?_
      show OEnds p e below s _ _ _ (T5.setTop (mkF m 101 #[.val (.long u0), .second, .val (.long u1), .second, .val (.long u2), .second, .val (.int u3), .val (.ref b1), .val (.int ((u3 &&& (2147483647 : Int32)) % (192 : Int32))), .val (.long u0), .second, .val (.int ((u3 &&& (2147483647 : Int32)) % (192 : Int32))), .val (.int (1 : Int32)), .unset] [(.ref b1)]))
      refine OEnds.pre (fun t k => XS.iload H5.here hx rfl (hb hby at_101) rfl k) ?_
      show OEnds p e below s _ _ _ (T5.setTop (mkF m 103 #[.val (.long u0), .second, .val (.long u1), .second, .val (.long u2), .second, .val (.int u3), .val (.ref b1), .val (.int ((u3 &&& (2147483647 : Int32)) % (192 : Int32))), .val (.long u0), .second, .val (.int ((u3 &&& (2147483647 : Int32)) % (192 : Int32))), .val (.int (1 : Int32)), .unset] [(.int ((u3 &&& (2147483647 : Int32)) % (192 : Int32))), (.ref b1)]))
      refine OEnds.pre (fun t k => XT.i2l H5.here hx rfl (hb hby at_103) rfl k) ?_
      show OEnds p e below s _ _ _ (T5.setTop (mkF m 104 #[.val (.long u0), .second, .val (.long u1), .second, .val (.long u2), .second, .val (.int u3), .val (.ref b1), .val (.int ((u3 &&& (2147483647 : Int32)) % (192 : Int32))), .val (.long u0), .second, .val (.int ((u3 &&& (2147483647 : Int32)) % (192 : Int32))), .val (.int (1 : Int32)), .unset] [(.long (Int32.toInt64 ((u3 &&& (2147483647 : Int32)) % (192 : Int32)))), (.ref b1)]))
      obtain ⟨T6, _, _, ⟨rfl, rfl⟩, H6, st6⟩ := OHere.static H5 hx hZ (y := (⟨"com/example/syndral/syndral/code/Bits", "bit", "([JJ)Z"⟩ : MethodName)) (P := _) (W := 0) hown (hw _ (List.mem_of_getElem? (i := 2) rfl)) (hw _ (List.mem_of_getElem? (i := 3) rfl)) (hw _ (List.mem_of_getElem? (i := 4) rfl)) (hw _ (List.mem_of_getElem? (i := 5) rfl)) (by decide) (con1 l Z a0 hw n0 [] b1 (Int32.toInt64 ((u3 &&& (2147483647 : Int32)) % (192 : Int32))) [(eA b1 .long [(.long u0), (.long u1), (.long u2)])] 0 [.long u0, .long u1, .long u2] u0 0 rfl (blk0 u3 c1).1 (blk0 u3 c1).2 rfl) (by decide) (by decide) (pc := 104) (Ls := #[.val (.long u0), .second, .val (.long u1), .second, .val (.long u2), .second, .val (.int u3), .val (.ref b1), .val (.int ((u3 &&& (2147483647 : Int32)) % (192 : Int32))), .val (.long u0), .second, .val (.int ((u3 &&& (2147483647 : Int32)) % (192 : Int32))), .val (.int (1 : Int32)), .unset]) (argsL := [(.ref b1), (.long (Int32.toInt64 ((u3 &&& (2147483647 : Int32)) % (192 : Int32))))]) (rest := []) (by rw [hml]; rfl) (lenOf pd_oAJJcZ rfl) rfl (Nat.le_of_eq rfl) (hb hby at_104) (by decide) (by decide)
      replace H6 : OHere p l e _ s m _ below meth c Z n0 T6 1 3 [(eA b1 .long [(.long u0), (.long u1), (.long u2)])] := H6
      refine OEnds.pre (fun t k => st6 _ k) ?_
      show OEnds p e below s _ _ _ (T6.setTop (mkF m 107 #[.val (.long u0), .second, .val (.long u1), .second, .val (.long u2), .second, .val (.int u3), .val (.ref b1), .val (.int ((u3 &&& (2147483647 : Int32)) % (192 : Int32))), .val (.long u0), .second, .val (.int ((u3 &&& (2147483647 : Int32)) % (192 : Int32))), .val (.int (1 : Int32)), .unset] [(.int (fbit u0 (Int32.toInt64 ((u3 &&& (2147483647 : Int32)) % (192 : Int32)))))]))
      refine OEnds.pre (fun t k => XS.istore H6.here hx rfl (hb hby at_107) rfl (l' := #[.val (.long u0), .second, .val (.long u1), .second, .val (.long u2), .second, .val (.int u3), .val (.ref b1), .val (.int ((u3 &&& (2147483647 : Int32)) % (192 : Int32))), .val (.long u0), .second, .val (.int ((u3 &&& (2147483647 : Int32)) % (192 : Int32))), .val (.int (1 : Int32)), .val (.int (fbit u0 (Int32.toInt64 ((u3 &&& (2147483647 : Int32)) % (192 : Int32)))))]) rfl k) ?_
      show OEnds p e below s _ _ _ (T6.setTop (mkF m 109 #[.val (.long u0), .second, .val (.long u1), .second, .val (.long u2), .second, .val (.int u3), .val (.ref b1), .val (.int ((u3 &&& (2147483647 : Int32)) % (192 : Int32))), .val (.long u0), .second, .val (.int ((u3 &&& (2147483647 : Int32)) % (192 : Int32))), .val (.int (1 : Int32)), .val (.int (fbit u0 (Int32.toInt64 ((u3 &&& (2147483647 : Int32)) % (192 : Int32)))))] []))
      refine OEnds.pre (fun t k => XS.iload H6.here hx rfl (hb hby at_109) rfl k) ?_
      show OEnds p e below s _ _ _ (T6.setTop (mkF m 111 #[.val (.long u0), .second, .val (.long u1), .second, .val (.long u2), .second, .val (.int u3), .val (.ref b1), .val (.int ((u3 &&& (2147483647 : Int32)) % (192 : Int32))), .val (.long u0), .second, .val (.int ((u3 &&& (2147483647 : Int32)) % (192 : Int32))), .val (.int (1 : Int32)), .val (.int (fbit u0 (Int32.toInt64 ((u3 &&& (2147483647 : Int32)) % (192 : Int32)))))] [(.int (fbit u0 (Int32.toInt64 ((u3 &&& (2147483647 : Int32)) % (192 : Int32)))))]))
      refine OEnds.pre (fun t k => XS.iload H6.here hx rfl (hb hby at_111) rfl k) ?_
      show OEnds p e below s _ _ _ (T6.setTop (mkF m 113 #[.val (.long u0), .second, .val (.long u1), .second, .val (.long u2), .second, .val (.int u3), .val (.ref b1), .val (.int ((u3 &&& (2147483647 : Int32)) % (192 : Int32))), .val (.long u0), .second, .val (.int ((u3 &&& (2147483647 : Int32)) % (192 : Int32))), .val (.int (1 : Int32)), .val (.int (fbit u0 (Int32.toInt64 ((u3 &&& (2147483647 : Int32)) % (192 : Int32)))))] [(.int (1 : Int32)), (.int (fbit u0 (Int32.toInt64 ((u3 &&& (2147483647 : Int32)) % (192 : Int32)))))]))
      refine OEnds.pre (fun t k => XS.icmpNo H6.here hx rfl (hb hby at_113) rfl (XT.ii_ne_f (ft0 u3 u0 c1 c2)) k) ?_
      show OEnds p e below s _ _ _ (T6.setTop (mkF m 116 #[.val (.long u0), .second, .val (.long u1), .second, .val (.long u2), .second, .val (.int u3), .val (.ref b1), .val (.int ((u3 &&& (2147483647 : Int32)) % (192 : Int32))), .val (.long u0), .second, .val (.int ((u3 &&& (2147483647 : Int32)) % (192 : Int32))), .val (.int (1 : Int32)), .val (.int (fbit u0 (Int32.toInt64 ((u3 &&& (2147483647 : Int32)) % (192 : Int32)))))] []))
      refine OEnds.pre (fun t k => XS.aload H6.here hx rfl (hb hby at_116) rfl rfl k) ?_
      show OEnds p e below s _ _ _ (T6.setTop (mkF m 118 #[.val (.long u0), .second, .val (.long u1), .second, .val (.long u2), .second, .val (.int u3), .val (.ref b1), .val (.int ((u3 &&& (2147483647 : Int32)) % (192 : Int32))), .val (.long u0), .second, .val (.int ((u3 &&& (2147483647 : Int32)) % (192 : Int32))), .val (.int (1 : Int32)), .val (.int (fbit u0 (Int32.toInt64 ((u3 &&& (2147483647 : Int32)) % (192 : Int32)))))] [(.ref b1)]))
      refine OEnds.pre (fun t k => XT.iconstV H6.here hx rfl (0 : Int32) (hb hby at_118) rfl k) ?_
      show OEnds p e below s _ _ _ (T6.setTop (mkF m 119 #[.val (.long u0), .second, .val (.long u1), .second, .val (.long u2), .second, .val (.int u3), .val (.ref b1), .val (.int ((u3 &&& (2147483647 : Int32)) % (192 : Int32))), .val (.long u0), .second, .val (.int ((u3 &&& (2147483647 : Int32)) % (192 : Int32))), .val (.int (1 : Int32)), .val (.int (fbit u0 (Int32.toInt64 ((u3 &&& (2147483647 : Int32)) % (192 : Int32)))))] [(.int (0 : Int32)), (.ref b1)]))
      refine OEnds.pre (fun t k => OHere.laload H6 hx hZ (q := 0) (i := 0) (vs := [(.long u0), (.long u1), (.long u2)]) (v := (.long u0)) rfl (by decide) (by decide) rfl (hb hby at_119) k) ?_
      show OEnds p e below s _ _ _ (T6.setTop (mkF m 120 #[.val (.long u0), .second, .val (.long u1), .second, .val (.long u2), .second, .val (.int u3), .val (.ref b1), .val (.int ((u3 &&& (2147483647 : Int32)) % (192 : Int32))), .val (.long u0), .second, .val (.int ((u3 &&& (2147483647 : Int32)) % (192 : Int32))), .val (.int (1 : Int32)), .val (.int (fbit u0 (Int32.toInt64 ((u3 &&& (2147483647 : Int32)) % (192 : Int32)))))] [(.long u0)]))
      refine OEnds.pre (fun t k => XT.lloadN H6.here hx rfl (hb hby at_120) rfl k) ?_
      show OEnds p e below s _ _ _ (T6.setTop (mkF m 121 #[.val (.long u0), .second, .val (.long u1), .second, .val (.long u2), .second, .val (.int u3), .val (.ref b1), .val (.int ((u3 &&& (2147483647 : Int32)) % (192 : Int32))), .val (.long u0), .second, .val (.int ((u3 &&& (2147483647 : Int32)) % (192 : Int32))), .val (.int (1 : Int32)), .val (.int (fbit u0 (Int32.toInt64 ((u3 &&& (2147483647 : Int32)) % (192 : Int32)))))] [(.long u0), (.long u0)]))
      refine OEnds.pre (fun t k => XT.lcmp H6.here hx rfl (hb hby at_121) rfl k) ?_
      show OEnds p e below s _ _ _ (T6.setTop (mkF m 122 #[.val (.long u0), .second, .val (.long u1), .second, .val (.long u2), .second, .val (.int u3), .val (.ref b1), .val (.int ((u3 &&& (2147483647 : Int32)) % (192 : Int32))), .val (.long u0), .second, .val (.int ((u3 &&& (2147483647 : Int32)) % (192 : Int32))), .val (.int (1 : Int32)), .val (.int (fbit u0 (Int32.toInt64 ((u3 &&& (2147483647 : Int32)) % (192 : Int32)))))] [(.int (XT.cmpL u0 u0))]))
      refine OEnds.pre (fun t k => XS.ifNo H6.here hx rfl (hb hby at_122) rfl (XT.ll_ne_f rfl) k) ?_
      show OEnds p e below s _ _ _ (T6.setTop (mkF m 125 #[.val (.long u0), .second, .val (.long u1), .second, .val (.long u2), .second, .val (.int u3), .val (.ref b1), .val (.int ((u3 &&& (2147483647 : Int32)) % (192 : Int32))), .val (.long u0), .second, .val (.int ((u3 &&& (2147483647 : Int32)) % (192 : Int32))), .val (.int (1 : Int32)), .val (.int (fbit u0 (Int32.toInt64 ((u3 &&& (2147483647 : Int32)) % (192 : Int32)))))] []))
      refine OEnds.pre (fun t k => XS.aload H6.here hx rfl (hb hby at_125) rfl rfl k) ?_
      show OEnds p e below s _ _ _ (T6.setTop (mkF m 127 #[.val (.long u0), .second, .val (.long u1), .second, .val (.long u2), .second, .val (.int u3), .val (.ref b1), .val (.int ((u3 &&& (2147483647 : Int32)) % (192 : Int32))), .val (.long u0), .second, .val (.int ((u3 &&& (2147483647 : Int32)) % (192 : Int32))), .val (.int (1 : Int32)), .val (.int (fbit u0 (Int32.toInt64 ((u3 &&& (2147483647 : Int32)) % (192 : Int32)))))] [(.ref b1)]))
      refine OEnds.pre (fun t k => XT.iconstV H6.here hx rfl (1 : Int32) (hb hby at_127) rfl k) ?_
      show OEnds p e below s _ _ _ (T6.setTop (mkF m 128 #[.val (.long u0), .second, .val (.long u1), .second, .val (.long u2), .second, .val (.int u3), .val (.ref b1), .val (.int ((u3 &&& (2147483647 : Int32)) % (192 : Int32))), .val (.long u0), .second, .val (.int ((u3 &&& (2147483647 : Int32)) % (192 : Int32))), .val (.int (1 : Int32)), .val (.int (fbit u0 (Int32.toInt64 ((u3 &&& (2147483647 : Int32)) % (192 : Int32)))))] [(.int (1 : Int32)), (.ref b1)]))
      refine OEnds.pre (fun t k => OHere.laload H6 hx hZ (q := 0) (i := 1) (vs := [(.long u0), (.long u1), (.long u2)]) (v := (.long u1)) rfl (by decide) (by decide) rfl (hb hby at_128) k) ?_
      show OEnds p e below s _ _ _ (T6.setTop (mkF m 129 #[.val (.long u0), .second, .val (.long u1), .second, .val (.long u2), .second, .val (.int u3), .val (.ref b1), .val (.int ((u3 &&& (2147483647 : Int32)) % (192 : Int32))), .val (.long u0), .second, .val (.int ((u3 &&& (2147483647 : Int32)) % (192 : Int32))), .val (.int (1 : Int32)), .val (.int (fbit u0 (Int32.toInt64 ((u3 &&& (2147483647 : Int32)) % (192 : Int32)))))] [(.long u1)]))
      refine OEnds.pre (fun t k => XT.lloadN H6.here hx rfl (hb hby at_129) rfl k) ?_
      show OEnds p e below s _ _ _ (T6.setTop (mkF m 130 #[.val (.long u0), .second, .val (.long u1), .second, .val (.long u2), .second, .val (.int u3), .val (.ref b1), .val (.int ((u3 &&& (2147483647 : Int32)) % (192 : Int32))), .val (.long u0), .second, .val (.int ((u3 &&& (2147483647 : Int32)) % (192 : Int32))), .val (.int (1 : Int32)), .val (.int (fbit u0 (Int32.toInt64 ((u3 &&& (2147483647 : Int32)) % (192 : Int32)))))] [(.long u1), (.long u1)]))
      refine OEnds.pre (fun t k => XT.lcmp H6.here hx rfl (hb hby at_130) rfl k) ?_
      show OEnds p e below s _ _ _ (T6.setTop (mkF m 131 #[.val (.long u0), .second, .val (.long u1), .second, .val (.long u2), .second, .val (.int u3), .val (.ref b1), .val (.int ((u3 &&& (2147483647 : Int32)) % (192 : Int32))), .val (.long u0), .second, .val (.int ((u3 &&& (2147483647 : Int32)) % (192 : Int32))), .val (.int (1 : Int32)), .val (.int (fbit u0 (Int32.toInt64 ((u3 &&& (2147483647 : Int32)) % (192 : Int32)))))] [(.int (XT.cmpL u1 u1))]))
      refine OEnds.pre (fun t k => XS.ifNo H6.here hx rfl (hb hby at_131) rfl (XT.ll_ne_f rfl) k) ?_
      show OEnds p e below s _ _ _ (T6.setTop (mkF m 134 #[.val (.long u0), .second, .val (.long u1), .second, .val (.long u2), .second, .val (.int u3), .val (.ref b1), .val (.int ((u3 &&& (2147483647 : Int32)) % (192 : Int32))), .val (.long u0), .second, .val (.int ((u3 &&& (2147483647 : Int32)) % (192 : Int32))), .val (.int (1 : Int32)), .val (.int (fbit u0 (Int32.toInt64 ((u3 &&& (2147483647 : Int32)) % (192 : Int32)))))] []))
      refine OEnds.pre (fun t k => XS.aload H6.here hx rfl (hb hby at_134) rfl rfl k) ?_
      show OEnds p e below s _ _ _ (T6.setTop (mkF m 136 #[.val (.long u0), .second, .val (.long u1), .second, .val (.long u2), .second, .val (.int u3), .val (.ref b1), .val (.int ((u3 &&& (2147483647 : Int32)) % (192 : Int32))), .val (.long u0), .second, .val (.int ((u3 &&& (2147483647 : Int32)) % (192 : Int32))), .val (.int (1 : Int32)), .val (.int (fbit u0 (Int32.toInt64 ((u3 &&& (2147483647 : Int32)) % (192 : Int32)))))] [(.ref b1)]))
      refine OEnds.pre (fun t k => XT.iconstV H6.here hx rfl (2 : Int32) (hb hby at_136) rfl k) ?_
      show OEnds p e below s _ _ _ (T6.setTop (mkF m 137 #[.val (.long u0), .second, .val (.long u1), .second, .val (.long u2), .second, .val (.int u3), .val (.ref b1), .val (.int ((u3 &&& (2147483647 : Int32)) % (192 : Int32))), .val (.long u0), .second, .val (.int ((u3 &&& (2147483647 : Int32)) % (192 : Int32))), .val (.int (1 : Int32)), .val (.int (fbit u0 (Int32.toInt64 ((u3 &&& (2147483647 : Int32)) % (192 : Int32)))))] [(.int (2 : Int32)), (.ref b1)]))
      refine OEnds.pre (fun t k => OHere.laload H6 hx hZ (q := 0) (i := 2) (vs := [(.long u0), (.long u1), (.long u2)]) (v := (.long u2)) rfl (by decide) (by decide) rfl (hb hby at_137) k) ?_
      show OEnds p e below s _ _ _ (T6.setTop (mkF m 138 #[.val (.long u0), .second, .val (.long u1), .second, .val (.long u2), .second, .val (.int u3), .val (.ref b1), .val (.int ((u3 &&& (2147483647 : Int32)) % (192 : Int32))), .val (.long u0), .second, .val (.int ((u3 &&& (2147483647 : Int32)) % (192 : Int32))), .val (.int (1 : Int32)), .val (.int (fbit u0 (Int32.toInt64 ((u3 &&& (2147483647 : Int32)) % (192 : Int32)))))] [(.long u2)]))
      refine OEnds.pre (fun t k => XT.lload H6.here hx rfl (hb hby at_138) rfl k) ?_
      show OEnds p e below s _ _ _ (T6.setTop (mkF m 140 #[.val (.long u0), .second, .val (.long u1), .second, .val (.long u2), .second, .val (.int u3), .val (.ref b1), .val (.int ((u3 &&& (2147483647 : Int32)) % (192 : Int32))), .val (.long u0), .second, .val (.int ((u3 &&& (2147483647 : Int32)) % (192 : Int32))), .val (.int (1 : Int32)), .val (.int (fbit u0 (Int32.toInt64 ((u3 &&& (2147483647 : Int32)) % (192 : Int32)))))] [(.long u2), (.long u2)]))
      refine OEnds.pre (fun t k => XT.lcmp H6.here hx rfl (hb hby at_140) rfl k) ?_
      show OEnds p e below s _ _ _ (T6.setTop (mkF m 141 #[.val (.long u0), .second, .val (.long u1), .second, .val (.long u2), .second, .val (.int u3), .val (.ref b1), .val (.int ((u3 &&& (2147483647 : Int32)) % (192 : Int32))), .val (.long u0), .second, .val (.int ((u3 &&& (2147483647 : Int32)) % (192 : Int32))), .val (.int (1 : Int32)), .val (.int (fbit u0 (Int32.toInt64 ((u3 &&& (2147483647 : Int32)) % (192 : Int32)))))] [(.int (XT.cmpL u2 u2))]))
      refine OEnds.pre (fun t k => XS.ifNo H6.here hx rfl (hb hby at_141) rfl (XT.ll_ne_f rfl) k) ?_
      show OEnds p e below s _ _ _ (T6.setTop (mkF m 144 #[.val (.long u0), .second, .val (.long u1), .second, .val (.long u2), .second, .val (.int u3), .val (.ref b1), .val (.int ((u3 &&& (2147483647 : Int32)) % (192 : Int32))), .val (.long u0), .second, .val (.int ((u3 &&& (2147483647 : Int32)) % (192 : Int32))), .val (.int (1 : Int32)), .val (.int (fbit u0 (Int32.toInt64 ((u3 &&& (2147483647 : Int32)) % (192 : Int32)))))] []))
      refine OEnds.pre (fun t k => XT.iconstV H6.here hx rfl (1 : Int32) (hb hby at_144) rfl k) ?_
      show OEnds p e below s _ _ _ (T6.setTop (mkF m 145 #[.val (.long u0), .second, .val (.long u1), .second, .val (.long u2), .second, .val (.int u3), .val (.ref b1), .val (.int ((u3 &&& (2147483647 : Int32)) % (192 : Int32))), .val (.long u0), .second, .val (.int ((u3 &&& (2147483647 : Int32)) % (192 : Int32))), .val (.int (1 : Int32)), .val (.int (fbit u0 (Int32.toInt64 ((u3 &&& (2147483647 : Int32)) % (192 : Int32)))))] [(.int (1 : Int32))]))
      refine OEnds.pre (fun t k => XS.goto H6.here hx rfl (pc0 := 145) (pc' := 149) rfl (hb hby at_145) (by decide) (by decide) k) ?_
      show OEnds p e below s _ _ _ (T6.setTop (mkF m 149 #[.val (.long u0), .second, .val (.long u1), .second, .val (.long u2), .second, .val (.int u3), .val (.ref b1), .val (.int ((u3 &&& (2147483647 : Int32)) % (192 : Int32))), .val (.long u0), .second, .val (.int ((u3 &&& (2147483647 : Int32)) % (192 : Int32))), .val (.int (1 : Int32)), .val (.int (fbit u0 (Int32.toInt64 ((u3 &&& (2147483647 : Int32)) % (192 : Int32)))))] [(.int (1 : Int32))]))
      exact H6.nrw hx Bd.notSynchronized Bd.returns (by simp) (hb hby at_149) (by decide) (by decide) (fun h L W N => ⟨N, _, ⟨rfl, rfl⟩, W.nil⟩)
    · refine OEnds.pre (fun t k => XS.ifYes H5.here hx rfl (pc0 := 89) (pc' := 96) rfl (hb hby at_89) rfl (XT.ll_ge_t c2) (by decide) (by decide) k) ?_
      show OEnds p e below s _ _ _ (T5.setTop (mkF m 96 #[.val (.long u0), .second, .val (.long u1), .second, .val (.long u2), .second, .val (.int u3), .val (.ref b1), .val (.int ((u3 &&& (2147483647 : Int32)) % (192 : Int32))), .val (.long u0), .second, .val (.int ((u3 &&& (2147483647 : Int32)) % (192 : Int32))), .unset, .unset] []))
      refine OEnds.pre (fun t k => XT.iconstV H5.here hx rfl (0 : Int32) (hb hby at_96) rfl k) ?_
      show OEnds p e below s _ _ _ (T5.setTop (mkF m 97 #[.val (.long u0), .second, .val (.long u1), .second, .val (.long u2), .second, .val (.int u3), .val (.ref b1), .val (.int ((u3 &&& (2147483647 : Int32)) % (192 : Int32))), .val (.long u0), .second, .val (.int ((u3 &&& (2147483647 : Int32)) % (192 : Int32))), .unset, .unset] [(.int (0 : Int32))]))
      refine OEnds.pre (fun t k => XS.istore H5.here hx rfl (hb hby at_97) rfl (l' := #[.val (.long u0), .second, .val (.long u1), .second, .val (.long u2), .second, .val (.int u3), .val (.ref b1), .val (.int ((u3 &&& (2147483647 : Int32)) % (192 : Int32))), .val (.long u0), .second, .val (.int ((u3 &&& (2147483647 : Int32)) % (192 : Int32))), .val (.int (0 : Int32)), .unset]) rfl k) ?_
      show OEnds p e below s _ _ _ (T5.setTop (mkF m 99 #[.val (.long u0), .second, .val (.long u1), .second, .val (.long u2), .second, .val (.int u3), .val (.ref b1), .val (.int ((u3 &&& (2147483647 : Int32)) % (192 : Int32))), .val (.long u0), .second, .val (.int ((u3 &&& (2147483647 : Int32)) % (192 : Int32))), .val (.int (0 : Int32)), .unset] []))
      refine OEnds.pre (fun t k => XS.aload H5.here hx rfl (hb hby at_99) rfl rfl k) ?_
      show OEnds p e below s _ _ _ (T5.setTop (mkF m 101 #[.val (.long u0), .second, .val (.long u1), .second, .val (.long u2), .second, .val (.int u3), .val (.ref b1), .val (.int ((u3 &&& (2147483647 : Int32)) % (192 : Int32))), .val (.long u0), .second, .val (.int ((u3 &&& (2147483647 : Int32)) % (192 : Int32))), .val (.int (0 : Int32)), .unset] [(.ref b1)]))
      refine OEnds.pre (fun t k => XS.iload H5.here hx rfl (hb hby at_101) rfl k) ?_
      show OEnds p e below s _ _ _ (T5.setTop (mkF m 103 #[.val (.long u0), .second, .val (.long u1), .second, .val (.long u2), .second, .val (.int u3), .val (.ref b1), .val (.int ((u3 &&& (2147483647 : Int32)) % (192 : Int32))), .val (.long u0), .second, .val (.int ((u3 &&& (2147483647 : Int32)) % (192 : Int32))), .val (.int (0 : Int32)), .unset] [(.int ((u3 &&& (2147483647 : Int32)) % (192 : Int32))), (.ref b1)]))
      refine OEnds.pre (fun t k => XT.i2l H5.here hx rfl (hb hby at_103) rfl k) ?_
      show OEnds p e below s _ _ _ (T5.setTop (mkF m 104 #[.val (.long u0), .second, .val (.long u1), .second, .val (.long u2), .second, .val (.int u3), .val (.ref b1), .val (.int ((u3 &&& (2147483647 : Int32)) % (192 : Int32))), .val (.long u0), .second, .val (.int ((u3 &&& (2147483647 : Int32)) % (192 : Int32))), .val (.int (0 : Int32)), .unset] [(.long (Int32.toInt64 ((u3 &&& (2147483647 : Int32)) % (192 : Int32)))), (.ref b1)]))
      obtain ⟨T7, _, _, ⟨rfl, rfl⟩, H7, st7⟩ := OHere.static H5 hx hZ (y := (⟨"com/example/syndral/syndral/code/Bits", "bit", "([JJ)Z"⟩ : MethodName)) (P := _) (W := 0) hown (hw _ (List.mem_of_getElem? (i := 2) rfl)) (hw _ (List.mem_of_getElem? (i := 3) rfl)) (hw _ (List.mem_of_getElem? (i := 4) rfl)) (hw _ (List.mem_of_getElem? (i := 5) rfl)) (by decide) (con1 l Z a0 hw n0 [] b1 (Int32.toInt64 ((u3 &&& (2147483647 : Int32)) % (192 : Int32))) [(eA b1 .long [(.long u0), (.long u1), (.long u2)])] 0 [.long u0, .long u1, .long u2] u0 0 rfl (blk0 u3 c1).1 (blk0 u3 c1).2 rfl) (by decide) (by decide) (pc := 104) (Ls := #[.val (.long u0), .second, .val (.long u1), .second, .val (.long u2), .second, .val (.int u3), .val (.ref b1), .val (.int ((u3 &&& (2147483647 : Int32)) % (192 : Int32))), .val (.long u0), .second, .val (.int ((u3 &&& (2147483647 : Int32)) % (192 : Int32))), .val (.int (0 : Int32)), .unset]) (argsL := [(.ref b1), (.long (Int32.toInt64 ((u3 &&& (2147483647 : Int32)) % (192 : Int32))))]) (rest := []) (by rw [hml]; rfl) (lenOf pd_oAJJcZ rfl) rfl (Nat.le_of_eq rfl) (hb hby at_104) (by decide) (by decide)
      replace H7 : OHere p l e _ s m _ below meth c Z n0 T7 1 3 [(eA b1 .long [(.long u0), (.long u1), (.long u2)])] := H7
      refine OEnds.pre (fun t k => st7 _ k) ?_
      show OEnds p e below s _ _ _ (T7.setTop (mkF m 107 #[.val (.long u0), .second, .val (.long u1), .second, .val (.long u2), .second, .val (.int u3), .val (.ref b1), .val (.int ((u3 &&& (2147483647 : Int32)) % (192 : Int32))), .val (.long u0), .second, .val (.int ((u3 &&& (2147483647 : Int32)) % (192 : Int32))), .val (.int (0 : Int32)), .unset] [(.int (fbit u0 (Int32.toInt64 ((u3 &&& (2147483647 : Int32)) % (192 : Int32)))))]))
      refine OEnds.pre (fun t k => XS.istore H7.here hx rfl (hb hby at_107) rfl (l' := #[.val (.long u0), .second, .val (.long u1), .second, .val (.long u2), .second, .val (.int u3), .val (.ref b1), .val (.int ((u3 &&& (2147483647 : Int32)) % (192 : Int32))), .val (.long u0), .second, .val (.int ((u3 &&& (2147483647 : Int32)) % (192 : Int32))), .val (.int (0 : Int32)), .val (.int (fbit u0 (Int32.toInt64 ((u3 &&& (2147483647 : Int32)) % (192 : Int32)))))]) rfl k) ?_
      show OEnds p e below s _ _ _ (T7.setTop (mkF m 109 #[.val (.long u0), .second, .val (.long u1), .second, .val (.long u2), .second, .val (.int u3), .val (.ref b1), .val (.int ((u3 &&& (2147483647 : Int32)) % (192 : Int32))), .val (.long u0), .second, .val (.int ((u3 &&& (2147483647 : Int32)) % (192 : Int32))), .val (.int (0 : Int32)), .val (.int (fbit u0 (Int32.toInt64 ((u3 &&& (2147483647 : Int32)) % (192 : Int32)))))] []))
      refine OEnds.pre (fun t k => XS.iload H7.here hx rfl (hb hby at_109) rfl k) ?_
      show OEnds p e below s _ _ _ (T7.setTop (mkF m 111 #[.val (.long u0), .second, .val (.long u1), .second, .val (.long u2), .second, .val (.int u3), .val (.ref b1), .val (.int ((u3 &&& (2147483647 : Int32)) % (192 : Int32))), .val (.long u0), .second, .val (.int ((u3 &&& (2147483647 : Int32)) % (192 : Int32))), .val (.int (0 : Int32)), .val (.int (fbit u0 (Int32.toInt64 ((u3 &&& (2147483647 : Int32)) % (192 : Int32)))))] [(.int (fbit u0 (Int32.toInt64 ((u3 &&& (2147483647 : Int32)) % (192 : Int32)))))]))
      refine OEnds.pre (fun t k => XS.iload H7.here hx rfl (hb hby at_111) rfl k) ?_
      show OEnds p e below s _ _ _ (T7.setTop (mkF m 113 #[.val (.long u0), .second, .val (.long u1), .second, .val (.long u2), .second, .val (.int u3), .val (.ref b1), .val (.int ((u3 &&& (2147483647 : Int32)) % (192 : Int32))), .val (.long u0), .second, .val (.int ((u3 &&& (2147483647 : Int32)) % (192 : Int32))), .val (.int (0 : Int32)), .val (.int (fbit u0 (Int32.toInt64 ((u3 &&& (2147483647 : Int32)) % (192 : Int32)))))] [(.int (0 : Int32)), (.int (fbit u0 (Int32.toInt64 ((u3 &&& (2147483647 : Int32)) % (192 : Int32)))))]))
      refine OEnds.pre (fun t k => XS.icmpNo H7.here hx rfl (hb hby at_113) rfl (XT.ii_ne_f (ff0 u3 u0 c1 c2)) k) ?_
      show OEnds p e below s _ _ _ (T7.setTop (mkF m 116 #[.val (.long u0), .second, .val (.long u1), .second, .val (.long u2), .second, .val (.int u3), .val (.ref b1), .val (.int ((u3 &&& (2147483647 : Int32)) % (192 : Int32))), .val (.long u0), .second, .val (.int ((u3 &&& (2147483647 : Int32)) % (192 : Int32))), .val (.int (0 : Int32)), .val (.int (fbit u0 (Int32.toInt64 ((u3 &&& (2147483647 : Int32)) % (192 : Int32)))))] []))
      refine OEnds.pre (fun t k => XS.aload H7.here hx rfl (hb hby at_116) rfl rfl k) ?_
      show OEnds p e below s _ _ _ (T7.setTop (mkF m 118 #[.val (.long u0), .second, .val (.long u1), .second, .val (.long u2), .second, .val (.int u3), .val (.ref b1), .val (.int ((u3 &&& (2147483647 : Int32)) % (192 : Int32))), .val (.long u0), .second, .val (.int ((u3 &&& (2147483647 : Int32)) % (192 : Int32))), .val (.int (0 : Int32)), .val (.int (fbit u0 (Int32.toInt64 ((u3 &&& (2147483647 : Int32)) % (192 : Int32)))))] [(.ref b1)]))
      refine OEnds.pre (fun t k => XT.iconstV H7.here hx rfl (0 : Int32) (hb hby at_118) rfl k) ?_
      show OEnds p e below s _ _ _ (T7.setTop (mkF m 119 #[.val (.long u0), .second, .val (.long u1), .second, .val (.long u2), .second, .val (.int u3), .val (.ref b1), .val (.int ((u3 &&& (2147483647 : Int32)) % (192 : Int32))), .val (.long u0), .second, .val (.int ((u3 &&& (2147483647 : Int32)) % (192 : Int32))), .val (.int (0 : Int32)), .val (.int (fbit u0 (Int32.toInt64 ((u3 &&& (2147483647 : Int32)) % (192 : Int32)))))] [(.int (0 : Int32)), (.ref b1)]))
      refine OEnds.pre (fun t k => OHere.laload H7 hx hZ (q := 0) (i := 0) (vs := [(.long u0), (.long u1), (.long u2)]) (v := (.long u0)) rfl (by decide) (by decide) rfl (hb hby at_119) k) ?_
      show OEnds p e below s _ _ _ (T7.setTop (mkF m 120 #[.val (.long u0), .second, .val (.long u1), .second, .val (.long u2), .second, .val (.int u3), .val (.ref b1), .val (.int ((u3 &&& (2147483647 : Int32)) % (192 : Int32))), .val (.long u0), .second, .val (.int ((u3 &&& (2147483647 : Int32)) % (192 : Int32))), .val (.int (0 : Int32)), .val (.int (fbit u0 (Int32.toInt64 ((u3 &&& (2147483647 : Int32)) % (192 : Int32)))))] [(.long u0)]))
      refine OEnds.pre (fun t k => XT.lloadN H7.here hx rfl (hb hby at_120) rfl k) ?_
      show OEnds p e below s _ _ _ (T7.setTop (mkF m 121 #[.val (.long u0), .second, .val (.long u1), .second, .val (.long u2), .second, .val (.int u3), .val (.ref b1), .val (.int ((u3 &&& (2147483647 : Int32)) % (192 : Int32))), .val (.long u0), .second, .val (.int ((u3 &&& (2147483647 : Int32)) % (192 : Int32))), .val (.int (0 : Int32)), .val (.int (fbit u0 (Int32.toInt64 ((u3 &&& (2147483647 : Int32)) % (192 : Int32)))))] [(.long u0), (.long u0)]))
      refine OEnds.pre (fun t k => XT.lcmp H7.here hx rfl (hb hby at_121) rfl k) ?_
      show OEnds p e below s _ _ _ (T7.setTop (mkF m 122 #[.val (.long u0), .second, .val (.long u1), .second, .val (.long u2), .second, .val (.int u3), .val (.ref b1), .val (.int ((u3 &&& (2147483647 : Int32)) % (192 : Int32))), .val (.long u0), .second, .val (.int ((u3 &&& (2147483647 : Int32)) % (192 : Int32))), .val (.int (0 : Int32)), .val (.int (fbit u0 (Int32.toInt64 ((u3 &&& (2147483647 : Int32)) % (192 : Int32)))))] [(.int (XT.cmpL u0 u0))]))
      refine OEnds.pre (fun t k => XS.ifNo H7.here hx rfl (hb hby at_122) rfl (XT.ll_ne_f rfl) k) ?_
      show OEnds p e below s _ _ _ (T7.setTop (mkF m 125 #[.val (.long u0), .second, .val (.long u1), .second, .val (.long u2), .second, .val (.int u3), .val (.ref b1), .val (.int ((u3 &&& (2147483647 : Int32)) % (192 : Int32))), .val (.long u0), .second, .val (.int ((u3 &&& (2147483647 : Int32)) % (192 : Int32))), .val (.int (0 : Int32)), .val (.int (fbit u0 (Int32.toInt64 ((u3 &&& (2147483647 : Int32)) % (192 : Int32)))))] []))
      refine OEnds.pre (fun t k => XS.aload H7.here hx rfl (hb hby at_125) rfl rfl k) ?_
      show OEnds p e below s _ _ _ (T7.setTop (mkF m 127 #[.val (.long u0), .second, .val (.long u1), .second, .val (.long u2), .second, .val (.int u3), .val (.ref b1), .val (.int ((u3 &&& (2147483647 : Int32)) % (192 : Int32))), .val (.long u0), .second, .val (.int ((u3 &&& (2147483647 : Int32)) % (192 : Int32))), .val (.int (0 : Int32)), .val (.int (fbit u0 (Int32.toInt64 ((u3 &&& (2147483647 : Int32)) % (192 : Int32)))))] [(.ref b1)]))
      refine OEnds.pre (fun t k => XT.iconstV H7.here hx rfl (1 : Int32) (hb hby at_127) rfl k) ?_
      show OEnds p e below s _ _ _ (T7.setTop (mkF m 128 #[.val (.long u0), .second, .val (.long u1), .second, .val (.long u2), .second, .val (.int u3), .val (.ref b1), .val (.int ((u3 &&& (2147483647 : Int32)) % (192 : Int32))), .val (.long u0), .second, .val (.int ((u3 &&& (2147483647 : Int32)) % (192 : Int32))), .val (.int (0 : Int32)), .val (.int (fbit u0 (Int32.toInt64 ((u3 &&& (2147483647 : Int32)) % (192 : Int32)))))] [(.int (1 : Int32)), (.ref b1)]))
      refine OEnds.pre (fun t k => OHere.laload H7 hx hZ (q := 0) (i := 1) (vs := [(.long u0), (.long u1), (.long u2)]) (v := (.long u1)) rfl (by decide) (by decide) rfl (hb hby at_128) k) ?_
      show OEnds p e below s _ _ _ (T7.setTop (mkF m 129 #[.val (.long u0), .second, .val (.long u1), .second, .val (.long u2), .second, .val (.int u3), .val (.ref b1), .val (.int ((u3 &&& (2147483647 : Int32)) % (192 : Int32))), .val (.long u0), .second, .val (.int ((u3 &&& (2147483647 : Int32)) % (192 : Int32))), .val (.int (0 : Int32)), .val (.int (fbit u0 (Int32.toInt64 ((u3 &&& (2147483647 : Int32)) % (192 : Int32)))))] [(.long u1)]))
      refine OEnds.pre (fun t k => XT.lloadN H7.here hx rfl (hb hby at_129) rfl k) ?_
      show OEnds p e below s _ _ _ (T7.setTop (mkF m 130 #[.val (.long u0), .second, .val (.long u1), .second, .val (.long u2), .second, .val (.int u3), .val (.ref b1), .val (.int ((u3 &&& (2147483647 : Int32)) % (192 : Int32))), .val (.long u0), .second, .val (.int ((u3 &&& (2147483647 : Int32)) % (192 : Int32))), .val (.int (0 : Int32)), .val (.int (fbit u0 (Int32.toInt64 ((u3 &&& (2147483647 : Int32)) % (192 : Int32)))))] [(.long u1), (.long u1)]))
      refine OEnds.pre (fun t k => XT.lcmp H7.here hx rfl (hb hby at_130) rfl k) ?_
      show OEnds p e below s _ _ _ (T7.setTop (mkF m 131 #[.val (.long u0), .second, .val (.long u1), .second, .val (.long u2), .second, .val (.int u3), .val (.ref b1), .val (.int ((u3 &&& (2147483647 : Int32)) % (192 : Int32))), .val (.long u0), .second, .val (.int ((u3 &&& (2147483647 : Int32)) % (192 : Int32))), .val (.int (0 : Int32)), .val (.int (fbit u0 (Int32.toInt64 ((u3 &&& (2147483647 : Int32)) % (192 : Int32)))))] [(.int (XT.cmpL u1 u1))]))
      refine OEnds.pre (fun t k => XS.ifNo H7.here hx rfl (hb hby at_131) rfl (XT.ll_ne_f rfl) k) ?_
      show OEnds p e below s _ _ _ (T7.setTop (mkF m 134 #[.val (.long u0), .second, .val (.long u1), .second, .val (.long u2), .second, .val (.int u3), .val (.ref b1), .val (.int ((u3 &&& (2147483647 : Int32)) % (192 : Int32))), .val (.long u0), .second, .val (.int ((u3 &&& (2147483647 : Int32)) % (192 : Int32))), .val (.int (0 : Int32)), .val (.int (fbit u0 (Int32.toInt64 ((u3 &&& (2147483647 : Int32)) % (192 : Int32)))))] []))
      refine OEnds.pre (fun t k => XS.aload H7.here hx rfl (hb hby at_134) rfl rfl k) ?_
      show OEnds p e below s _ _ _ (T7.setTop (mkF m 136 #[.val (.long u0), .second, .val (.long u1), .second, .val (.long u2), .second, .val (.int u3), .val (.ref b1), .val (.int ((u3 &&& (2147483647 : Int32)) % (192 : Int32))), .val (.long u0), .second, .val (.int ((u3 &&& (2147483647 : Int32)) % (192 : Int32))), .val (.int (0 : Int32)), .val (.int (fbit u0 (Int32.toInt64 ((u3 &&& (2147483647 : Int32)) % (192 : Int32)))))] [(.ref b1)]))
      refine OEnds.pre (fun t k => XT.iconstV H7.here hx rfl (2 : Int32) (hb hby at_136) rfl k) ?_
      show OEnds p e below s _ _ _ (T7.setTop (mkF m 137 #[.val (.long u0), .second, .val (.long u1), .second, .val (.long u2), .second, .val (.int u3), .val (.ref b1), .val (.int ((u3 &&& (2147483647 : Int32)) % (192 : Int32))), .val (.long u0), .second, .val (.int ((u3 &&& (2147483647 : Int32)) % (192 : Int32))), .val (.int (0 : Int32)), .val (.int (fbit u0 (Int32.toInt64 ((u3 &&& (2147483647 : Int32)) % (192 : Int32)))))] [(.int (2 : Int32)), (.ref b1)]))
      refine OEnds.pre (fun t k => OHere.laload H7 hx hZ (q := 0) (i := 2) (vs := [(.long u0), (.long u1), (.long u2)]) (v := (.long u2)) rfl (by decide) (by decide) rfl (hb hby at_137) k) ?_
      show OEnds p e below s _ _ _ (T7.setTop (mkF m 138 #[.val (.long u0), .second, .val (.long u1), .second, .val (.long u2), .second, .val (.int u3), .val (.ref b1), .val (.int ((u3 &&& (2147483647 : Int32)) % (192 : Int32))), .val (.long u0), .second, .val (.int ((u3 &&& (2147483647 : Int32)) % (192 : Int32))), .val (.int (0 : Int32)), .val (.int (fbit u0 (Int32.toInt64 ((u3 &&& (2147483647 : Int32)) % (192 : Int32)))))] [(.long u2)]))
      refine OEnds.pre (fun t k => XT.lload H7.here hx rfl (hb hby at_138) rfl k) ?_
      show OEnds p e below s _ _ _ (T7.setTop (mkF m 140 #[.val (.long u0), .second, .val (.long u1), .second, .val (.long u2), .second, .val (.int u3), .val (.ref b1), .val (.int ((u3 &&& (2147483647 : Int32)) % (192 : Int32))), .val (.long u0), .second, .val (.int ((u3 &&& (2147483647 : Int32)) % (192 : Int32))), .val (.int (0 : Int32)), .val (.int (fbit u0 (Int32.toInt64 ((u3 &&& (2147483647 : Int32)) % (192 : Int32)))))] [(.long u2), (.long u2)]))
      refine OEnds.pre (fun t k => XT.lcmp H7.here hx rfl (hb hby at_140) rfl k) ?_
      show OEnds p e below s _ _ _ (T7.setTop (mkF m 141 #[.val (.long u0), .second, .val (.long u1), .second, .val (.long u2), .second, .val (.int u3), .val (.ref b1), .val (.int ((u3 &&& (2147483647 : Int32)) % (192 : Int32))), .val (.long u0), .second, .val (.int ((u3 &&& (2147483647 : Int32)) % (192 : Int32))), .val (.int (0 : Int32)), .val (.int (fbit u0 (Int32.toInt64 ((u3 &&& (2147483647 : Int32)) % (192 : Int32)))))] [(.int (XT.cmpL u2 u2))]))
      refine OEnds.pre (fun t k => XS.ifNo H7.here hx rfl (hb hby at_141) rfl (XT.ll_ne_f rfl) k) ?_
      show OEnds p e below s _ _ _ (T7.setTop (mkF m 144 #[.val (.long u0), .second, .val (.long u1), .second, .val (.long u2), .second, .val (.int u3), .val (.ref b1), .val (.int ((u3 &&& (2147483647 : Int32)) % (192 : Int32))), .val (.long u0), .second, .val (.int ((u3 &&& (2147483647 : Int32)) % (192 : Int32))), .val (.int (0 : Int32)), .val (.int (fbit u0 (Int32.toInt64 ((u3 &&& (2147483647 : Int32)) % (192 : Int32)))))] []))
      refine OEnds.pre (fun t k => XT.iconstV H7.here hx rfl (1 : Int32) (hb hby at_144) rfl k) ?_
      show OEnds p e below s _ _ _ (T7.setTop (mkF m 145 #[.val (.long u0), .second, .val (.long u1), .second, .val (.long u2), .second, .val (.int u3), .val (.ref b1), .val (.int ((u3 &&& (2147483647 : Int32)) % (192 : Int32))), .val (.long u0), .second, .val (.int ((u3 &&& (2147483647 : Int32)) % (192 : Int32))), .val (.int (0 : Int32)), .val (.int (fbit u0 (Int32.toInt64 ((u3 &&& (2147483647 : Int32)) % (192 : Int32)))))] [(.int (1 : Int32))]))
      refine OEnds.pre (fun t k => XS.goto H7.here hx rfl (pc0 := 145) (pc' := 149) rfl (hb hby at_145) (by decide) (by decide) k) ?_
      show OEnds p e below s _ _ _ (T7.setTop (mkF m 149 #[.val (.long u0), .second, .val (.long u1), .second, .val (.long u2), .second, .val (.int u3), .val (.ref b1), .val (.int ((u3 &&& (2147483647 : Int32)) % (192 : Int32))), .val (.long u0), .second, .val (.int ((u3 &&& (2147483647 : Int32)) % (192 : Int32))), .val (.int (0 : Int32)), .val (.int (fbit u0 (Int32.toInt64 ((u3 &&& (2147483647 : Int32)) % (192 : Int32)))))] [(.int (1 : Int32))]))
      exact H7.nrw hx Bd.notSynchronized Bd.returns (by simp) (hb hby at_149) (by decide) (by decide) (fun h L W N => ⟨N, _, ⟨rfl, rfl⟩, W.nil⟩)
  · refine OEnds.pre (fun t k => XS.icmpYes H5.here hx rfl (pc0 := 33) (pc' := 46) rfl (hb hby at_33) rfl (XT.ii_ge_t c1) (by decide) (by decide) k) ?_
    show OEnds p e below s _ _ _ (T5.setTop (mkF m 46 #[.val (.long u0), .second, .val (.long u1), .second, .val (.long u2), .second, .val (.int u3), .val (.ref b1), .val (.int ((u3 &&& (2147483647 : Int32)) % (192 : Int32))), .unset, .unset, .unset, .unset, .unset] []))
    refine OEnds.pre (fun t k => XS.iload H5.here hx rfl (hb hby at_46) rfl k) ?_
    show OEnds p e below s _ _ _ (T5.setTop (mkF m 48 #[.val (.long u0), .second, .val (.long u1), .second, .val (.long u2), .second, .val (.int u3), .val (.ref b1), .val (.int ((u3 &&& (2147483647 : Int32)) % (192 : Int32))), .unset, .unset, .unset, .unset, .unset] [(.int ((u3 &&& (2147483647 : Int32)) % (192 : Int32)))]))
    refine OEnds.pre (fun t k => XT.sipushV H5.here hx rfl (128 : Int32) (hb hby at_48) rfl k) ?_
    show OEnds p e below s _ _ _ (T5.setTop (mkF m 51 #[.val (.long u0), .second, .val (.long u1), .second, .val (.long u2), .second, .val (.int u3), .val (.ref b1), .val (.int ((u3 &&& (2147483647 : Int32)) % (192 : Int32))), .unset, .unset, .unset, .unset, .unset] [(.int (128 : Int32)), (.int ((u3 &&& (2147483647 : Int32)) % (192 : Int32)))]))
    by_cases c2 : ((u3 &&& (2147483647 : Int32)) % (192 : Int32)) < (128 : Int32)
    · refine OEnds.pre (fun t k => XS.icmpNo H5.here hx rfl (hb hby at_51) rfl (XT.ii_ge_f c2) k) ?_
      show OEnds p e below s _ _ _ (T5.setTop (mkF m 54 #[.val (.long u0), .second, .val (.long u1), .second, .val (.long u2), .second, .val (.int u3), .val (.ref b1), .val (.int ((u3 &&& (2147483647 : Int32)) % (192 : Int32))), .unset, .unset, .unset, .unset, .unset] []))
      refine OEnds.pre (fun t k => XT.lloadN H5.here hx rfl (hb hby at_54) rfl k) ?_
      show OEnds p e below s _ _ _ (T5.setTop (mkF m 55 #[.val (.long u0), .second, .val (.long u1), .second, .val (.long u2), .second, .val (.int u3), .val (.ref b1), .val (.int ((u3 &&& (2147483647 : Int32)) % (192 : Int32))), .unset, .unset, .unset, .unset, .unset] [(.long u1)]))
      refine OEnds.pre (fun t k => XT.lstore H5.here hx rfl (hb hby at_55) rfl (l' := #[.val (.long u0), .second, .val (.long u1), .second, .val (.long u2), .second, .val (.int u3), .val (.ref b1), .val (.int ((u3 &&& (2147483647 : Int32)) % (192 : Int32))), .val (.long u1), .second, .unset, .unset, .unset]) rfl k) ?_
      show OEnds p e below s _ _ _ (T5.setTop (mkF m 57 #[.val (.long u0), .second, .val (.long u1), .second, .val (.long u2), .second, .val (.int u3), .val (.ref b1), .val (.int ((u3 &&& (2147483647 : Int32)) % (192 : Int32))), .val (.long u1), .second, .unset, .unset, .unset] []))
      refine OEnds.pre (fun t k => XS.iload H5.here hx rfl (hb hby at_57) rfl k) ?_
      show OEnds p e below s _ _ _ (T5.setTop (mkF m 59 #[.val (.long u0), .second, .val (.long u1), .second, .val (.long u2), .second, .val (.int u3), .val (.ref b1), .val (.int ((u3 &&& (2147483647 : Int32)) % (192 : Int32))), .val (.long u1), .second, .unset, .unset, .unset] [(.int ((u3 &&& (2147483647 : Int32)) % (192 : Int32)))]))
      refine OEnds.pre (fun t k => XT.bipushV H5.here hx rfl (64 : Int32) (hb hby at_59) rfl k) ?_
      show OEnds p e below s _ _ _ (T5.setTop (mkF m 61 #[.val (.long u0), .second, .val (.long u1), .second, .val (.long u2), .second, .val (.int u3), .val (.ref b1), .val (.int ((u3 &&& (2147483647 : Int32)) % (192 : Int32))), .val (.long u1), .second, .unset, .unset, .unset] [(.int (64 : Int32)), (.int ((u3 &&& (2147483647 : Int32)) % (192 : Int32)))]))
      refine OEnds.pre (fun t k => XS.isub H5.here hx rfl (hb hby at_61) rfl k) ?_
      show OEnds p e below s _ _ _ (T5.setTop (mkF m 62 #[.val (.long u0), .second, .val (.long u1), .second, .val (.long u2), .second, .val (.int u3), .val (.ref b1), .val (.int ((u3 &&& (2147483647 : Int32)) % (192 : Int32))), .val (.long u1), .second, .unset, .unset, .unset] [(.int (((u3 &&& (2147483647 : Int32)) % (192 : Int32)) - (64 : Int32)))]))
      refine OEnds.pre (fun t k => XS.istore H5.here hx rfl (hb hby at_62) rfl (l' := #[.val (.long u0), .second, .val (.long u1), .second, .val (.long u2), .second, .val (.int u3), .val (.ref b1), .val (.int ((u3 &&& (2147483647 : Int32)) % (192 : Int32))), .val (.long u1), .second, .val (.int (((u3 &&& (2147483647 : Int32)) % (192 : Int32)) - (64 : Int32))), .unset, .unset]) rfl k) ?_
      show OEnds p e below s _ _ _ (T5.setTop (mkF m 64 #[.val (.long u0), .second, .val (.long u1), .second, .val (.long u2), .second, .val (.int u3), .val (.ref b1), .val (.int ((u3 &&& (2147483647 : Int32)) % (192 : Int32))), .val (.long u1), .second, .val (.int (((u3 &&& (2147483647 : Int32)) % (192 : Int32)) - (64 : Int32))), .unset, .unset] []))
      refine OEnds.pre (fun t k => XS.goto H5.here hx rfl (pc0 := 64) (pc' := 79) rfl (hb hby at_64) (by decide) (by decide) k) ?_
      show OEnds p e below s _ _ _ (T5.setTop (mkF m 79 #[.val (.long u0), .second, .val (.long u1), .second, .val (.long u2), .second, .val (.int u3), .val (.ref b1), .val (.int ((u3 &&& (2147483647 : Int32)) % (192 : Int32))), .val (.long u1), .second, .val (.int (((u3 &&& (2147483647 : Int32)) % (192 : Int32)) - (64 : Int32))), .unset, .unset] []))
      refine OEnds.pre (fun t k => XT.lload H5.here hx rfl (hb hby at_79) rfl k) ?_
      show OEnds p e below s _ _ _ (T5.setTop (mkF m 81 #[.val (.long u0), .second, .val (.long u1), .second, .val (.long u2), .second, .val (.int u3), .val (.ref b1), .val (.int ((u3 &&& (2147483647 : Int32)) % (192 : Int32))), .val (.long u1), .second, .val (.int (((u3 &&& (2147483647 : Int32)) % (192 : Int32)) - (64 : Int32))), .unset, .unset] [(.long u1)]))
      refine OEnds.pre (fun t k => XT.bipushV H5.here hx rfl (63 : Int32) (hb hby at_81) rfl k) ?_
      show OEnds p e below s _ _ _ (T5.setTop (mkF m 83 #[.val (.long u0), .second, .val (.long u1), .second, .val (.long u2), .second, .val (.int u3), .val (.ref b1), .val (.int ((u3 &&& (2147483647 : Int32)) % (192 : Int32))), .val (.long u1), .second, .val (.int (((u3 &&& (2147483647 : Int32)) % (192 : Int32)) - (64 : Int32))), .unset, .unset] [(.int (63 : Int32)), (.long u1)]))
      refine OEnds.pre (fun t k => XS.iload H5.here hx rfl (hb hby at_83) rfl k) ?_
      show OEnds p e below s _ _ _ (T5.setTop (mkF m 85 #[.val (.long u0), .second, .val (.long u1), .second, .val (.long u2), .second, .val (.int u3), .val (.ref b1), .val (.int ((u3 &&& (2147483647 : Int32)) % (192 : Int32))), .val (.long u1), .second, .val (.int (((u3 &&& (2147483647 : Int32)) % (192 : Int32)) - (64 : Int32))), .unset, .unset] [(.int (((u3 &&& (2147483647 : Int32)) % (192 : Int32)) - (64 : Int32))), (.int (63 : Int32)), (.long u1)]))
      refine OEnds.pre (fun t k => XS.isub H5.here hx rfl (hb hby at_85) rfl k) ?_
      show OEnds p e below s _ _ _ (T5.setTop (mkF m 86 #[.val (.long u0), .second, .val (.long u1), .second, .val (.long u2), .second, .val (.int u3), .val (.ref b1), .val (.int ((u3 &&& (2147483647 : Int32)) % (192 : Int32))), .val (.long u1), .second, .val (.int (((u3 &&& (2147483647 : Int32)) % (192 : Int32)) - (64 : Int32))), .unset, .unset] [(.int ((63 : Int32) - (((u3 &&& (2147483647 : Int32)) % (192 : Int32)) - (64 : Int32)))), (.long u1)]))
      refine OEnds.pre (fun t k => XT.lshl H5.here hx rfl (hb hby at_86) rfl k) ?_
      show OEnds p e below s _ _ _ (T5.setTop (mkF m 87 #[.val (.long u0), .second, .val (.long u1), .second, .val (.long u2), .second, .val (.int u3), .val (.ref b1), .val (.int ((u3 &&& (2147483647 : Int32)) % (192 : Int32))), .val (.long u1), .second, .val (.int (((u3 &&& (2147483647 : Int32)) % (192 : Int32)) - (64 : Int32))), .unset, .unset] [(.long (u1 <<< (Int32.toInt64 ((63 : Int32) - (((u3 &&& (2147483647 : Int32)) % (192 : Int32)) - (64 : Int32))) &&& 63)))]))
      refine OEnds.pre (fun t k => XT.lconstV H5.here hx rfl (0 : Int64) (hb hby at_87) rfl k) ?_
      show OEnds p e below s _ _ _ (T5.setTop (mkF m 88 #[.val (.long u0), .second, .val (.long u1), .second, .val (.long u2), .second, .val (.int u3), .val (.ref b1), .val (.int ((u3 &&& (2147483647 : Int32)) % (192 : Int32))), .val (.long u1), .second, .val (.int (((u3 &&& (2147483647 : Int32)) % (192 : Int32)) - (64 : Int32))), .unset, .unset] [(.long (0 : Int64)), (.long (u1 <<< (Int32.toInt64 ((63 : Int32) - (((u3 &&& (2147483647 : Int32)) % (192 : Int32)) - (64 : Int32))) &&& 63)))]))
      refine OEnds.pre (fun t k => XT.lcmp H5.here hx rfl (hb hby at_88) rfl k) ?_
      show OEnds p e below s _ _ _ (T5.setTop (mkF m 89 #[.val (.long u0), .second, .val (.long u1), .second, .val (.long u2), .second, .val (.int u3), .val (.ref b1), .val (.int ((u3 &&& (2147483647 : Int32)) % (192 : Int32))), .val (.long u1), .second, .val (.int (((u3 &&& (2147483647 : Int32)) % (192 : Int32)) - (64 : Int32))), .unset, .unset] [(.int (XT.cmpL (u1 <<< (Int32.toInt64 ((63 : Int32) - (((u3 &&& (2147483647 : Int32)) % (192 : Int32)) - (64 : Int32))) &&& 63)) (0 : Int64)))]))
      by_cases c3 : (u1 <<< (Int32.toInt64 ((63 : Int32) - (((u3 &&& (2147483647 : Int32)) % (192 : Int32)) - (64 : Int32))) &&& 63)) < (0 : Int64)
      · refine OEnds.pre (fun t k => XS.ifNo H5.here hx rfl (hb hby at_89) rfl (XT.ll_ge_f c3) k) ?_
        show OEnds p e below s _ _ _ (T5.setTop (mkF m 92 #[.val (.long u0), .second, .val (.long u1), .second, .val (.long u2), .second, .val (.int u3), .val (.ref b1), .val (.int ((u3 &&& (2147483647 : Int32)) % (192 : Int32))), .val (.long u1), .second, .val (.int (((u3 &&& (2147483647 : Int32)) % (192 : Int32)) - (64 : Int32))), .unset, .unset] []))
        refine OEnds.pre (fun t k => XT.iconstV H5.here hx rfl (1 : Int32) (hb hby at_92) rfl k) ?_
        show OEnds p e below s _ _ _ (T5.setTop (mkF m 93 #[.val (.long u0), .second, .val (.long u1), .second, .val (.long u2), .second, .val (.int u3), .val (.ref b1), .val (.int ((u3 &&& (2147483647 : Int32)) % (192 : Int32))), .val (.long u1), .second, .val (.int (((u3 &&& (2147483647 : Int32)) % (192 : Int32)) - (64 : Int32))), .unset, .unset] [(.int (1 : Int32))]))
        refine OEnds.pre (fun t k => XS.goto H5.here hx rfl (pc0 := 93) (pc' := 97) rfl (hb hby at_93) (by decide) (by decide) k) ?_
        show OEnds p e below s _ _ _ (T5.setTop (mkF m 97 #[.val (.long u0), .second, .val (.long u1), .second, .val (.long u2), .second, .val (.int u3), .val (.ref b1), .val (.int ((u3 &&& (2147483647 : Int32)) % (192 : Int32))), .val (.long u1), .second, .val (.int (((u3 &&& (2147483647 : Int32)) % (192 : Int32)) - (64 : Int32))), .unset, .unset] [(.int (1 : Int32))]))
        refine OEnds.pre (fun t k => XS.istore H5.here hx rfl (hb hby at_97) rfl (l' := #[.val (.long u0), .second, .val (.long u1), .second, .val (.long u2), .second, .val (.int u3), .val (.ref b1), .val (.int ((u3 &&& (2147483647 : Int32)) % (192 : Int32))), .val (.long u1), .second, .val (.int (((u3 &&& (2147483647 : Int32)) % (192 : Int32)) - (64 : Int32))), .val (.int (1 : Int32)), .unset]) rfl k) ?_
        show OEnds p e below s _ _ _ (T5.setTop (mkF m 99 #[.val (.long u0), .second, .val (.long u1), .second, .val (.long u2), .second, .val (.int u3), .val (.ref b1), .val (.int ((u3 &&& (2147483647 : Int32)) % (192 : Int32))), .val (.long u1), .second, .val (.int (((u3 &&& (2147483647 : Int32)) % (192 : Int32)) - (64 : Int32))), .val (.int (1 : Int32)), .unset] []))
        refine OEnds.pre (fun t k => XS.aload H5.here hx rfl (hb hby at_99) rfl rfl k) ?_
        show OEnds p e below s _ _ _ (T5.setTop (mkF m 101 #[.val (.long u0), .second, .val (.long u1), .second, .val (.long u2), .second, .val (.int u3), .val (.ref b1), .val (.int ((u3 &&& (2147483647 : Int32)) % (192 : Int32))), .val (.long u1), .second, .val (.int (((u3 &&& (2147483647 : Int32)) % (192 : Int32)) - (64 : Int32))), .val (.int (1 : Int32)), .unset] [(.ref b1)]))
        refine OEnds.pre (fun t k => XS.iload H5.here hx rfl (hb hby at_101) rfl k) ?_
        show OEnds p e below s _ _ _ (T5.setTop (mkF m 103 #[.val (.long u0), .second, .val (.long u1), .second, .val (.long u2), .second, .val (.int u3), .val (.ref b1), .val (.int ((u3 &&& (2147483647 : Int32)) % (192 : Int32))), .val (.long u1), .second, .val (.int (((u3 &&& (2147483647 : Int32)) % (192 : Int32)) - (64 : Int32))), .val (.int (1 : Int32)), .unset] [(.int ((u3 &&& (2147483647 : Int32)) % (192 : Int32))), (.ref b1)]))
        refine OEnds.pre (fun t k => XT.i2l H5.here hx rfl (hb hby at_103) rfl k) ?_
        show OEnds p e below s _ _ _ (T5.setTop (mkF m 104 #[.val (.long u0), .second, .val (.long u1), .second, .val (.long u2), .second, .val (.int u3), .val (.ref b1), .val (.int ((u3 &&& (2147483647 : Int32)) % (192 : Int32))), .val (.long u1), .second, .val (.int (((u3 &&& (2147483647 : Int32)) % (192 : Int32)) - (64 : Int32))), .val (.int (1 : Int32)), .unset] [(.long (Int32.toInt64 ((u3 &&& (2147483647 : Int32)) % (192 : Int32)))), (.ref b1)]))
        obtain ⟨T8, _, _, ⟨rfl, rfl⟩, H8, st8⟩ := OHere.static H5 hx hZ (y := (⟨"com/example/syndral/syndral/code/Bits", "bit", "([JJ)Z"⟩ : MethodName)) (P := _) (W := 0) hown (hw _ (List.mem_of_getElem? (i := 2) rfl)) (hw _ (List.mem_of_getElem? (i := 3) rfl)) (hw _ (List.mem_of_getElem? (i := 4) rfl)) (hw _ (List.mem_of_getElem? (i := 5) rfl)) (by decide) (con1 l Z a0 hw n0 [] b1 (Int32.toInt64 ((u3 &&& (2147483647 : Int32)) % (192 : Int32))) [(eA b1 .long [(.long u0), (.long u1), (.long u2)])] 0 [.long u0, .long u1, .long u2] u1 1 rfl (blk1 u3 c1 c2).1 (blk1 u3 c1 c2).2 rfl) (by decide) (by decide) (pc := 104) (Ls := #[.val (.long u0), .second, .val (.long u1), .second, .val (.long u2), .second, .val (.int u3), .val (.ref b1), .val (.int ((u3 &&& (2147483647 : Int32)) % (192 : Int32))), .val (.long u1), .second, .val (.int (((u3 &&& (2147483647 : Int32)) % (192 : Int32)) - (64 : Int32))), .val (.int (1 : Int32)), .unset]) (argsL := [(.ref b1), (.long (Int32.toInt64 ((u3 &&& (2147483647 : Int32)) % (192 : Int32))))]) (rest := []) (by rw [hml]; rfl) (lenOf pd_oAJJcZ rfl) rfl (Nat.le_of_eq rfl) (hb hby at_104) (by decide) (by decide)
        replace H8 : OHere p l e _ s m _ below meth c Z n0 T8 1 3 [(eA b1 .long [(.long u0), (.long u1), (.long u2)])] := H8
        refine OEnds.pre (fun t k => st8 _ k) ?_
        show OEnds p e below s _ _ _ (T8.setTop (mkF m 107 #[.val (.long u0), .second, .val (.long u1), .second, .val (.long u2), .second, .val (.int u3), .val (.ref b1), .val (.int ((u3 &&& (2147483647 : Int32)) % (192 : Int32))), .val (.long u1), .second, .val (.int (((u3 &&& (2147483647 : Int32)) % (192 : Int32)) - (64 : Int32))), .val (.int (1 : Int32)), .unset] [(.int (fbit u1 (Int32.toInt64 ((u3 &&& (2147483647 : Int32)) % (192 : Int32)))))]))
        refine OEnds.pre (fun t k => XS.istore H8.here hx rfl (hb hby at_107) rfl (l' := #[.val (.long u0), .second, .val (.long u1), .second, .val (.long u2), .second, .val (.int u3), .val (.ref b1), .val (.int ((u3 &&& (2147483647 : Int32)) % (192 : Int32))), .val (.long u1), .second, .val (.int (((u3 &&& (2147483647 : Int32)) % (192 : Int32)) - (64 : Int32))), .val (.int (1 : Int32)), .val (.int (fbit u1 (Int32.toInt64 ((u3 &&& (2147483647 : Int32)) % (192 : Int32)))))]) rfl k) ?_
        show OEnds p e below s _ _ _ (T8.setTop (mkF m 109 #[.val (.long u0), .second, .val (.long u1), .second, .val (.long u2), .second, .val (.int u3), .val (.ref b1), .val (.int ((u3 &&& (2147483647 : Int32)) % (192 : Int32))), .val (.long u1), .second, .val (.int (((u3 &&& (2147483647 : Int32)) % (192 : Int32)) - (64 : Int32))), .val (.int (1 : Int32)), .val (.int (fbit u1 (Int32.toInt64 ((u3 &&& (2147483647 : Int32)) % (192 : Int32)))))] []))
        refine OEnds.pre (fun t k => XS.iload H8.here hx rfl (hb hby at_109) rfl k) ?_
        show OEnds p e below s _ _ _ (T8.setTop (mkF m 111 #[.val (.long u0), .second, .val (.long u1), .second, .val (.long u2), .second, .val (.int u3), .val (.ref b1), .val (.int ((u3 &&& (2147483647 : Int32)) % (192 : Int32))), .val (.long u1), .second, .val (.int (((u3 &&& (2147483647 : Int32)) % (192 : Int32)) - (64 : Int32))), .val (.int (1 : Int32)), .val (.int (fbit u1 (Int32.toInt64 ((u3 &&& (2147483647 : Int32)) % (192 : Int32)))))] [(.int (fbit u1 (Int32.toInt64 ((u3 &&& (2147483647 : Int32)) % (192 : Int32)))))]))
        refine OEnds.pre (fun t k => XS.iload H8.here hx rfl (hb hby at_111) rfl k) ?_
        show OEnds p e below s _ _ _ (T8.setTop (mkF m 113 #[.val (.long u0), .second, .val (.long u1), .second, .val (.long u2), .second, .val (.int u3), .val (.ref b1), .val (.int ((u3 &&& (2147483647 : Int32)) % (192 : Int32))), .val (.long u1), .second, .val (.int (((u3 &&& (2147483647 : Int32)) % (192 : Int32)) - (64 : Int32))), .val (.int (1 : Int32)), .val (.int (fbit u1 (Int32.toInt64 ((u3 &&& (2147483647 : Int32)) % (192 : Int32)))))] [(.int (1 : Int32)), (.int (fbit u1 (Int32.toInt64 ((u3 &&& (2147483647 : Int32)) % (192 : Int32)))))]))
        refine OEnds.pre (fun t k => XS.icmpNo H8.here hx rfl (hb hby at_113) rfl (XT.ii_ne_f (ft1 u3 u1 c1 c2 c3)) k) ?_
        show OEnds p e below s _ _ _ (T8.setTop (mkF m 116 #[.val (.long u0), .second, .val (.long u1), .second, .val (.long u2), .second, .val (.int u3), .val (.ref b1), .val (.int ((u3 &&& (2147483647 : Int32)) % (192 : Int32))), .val (.long u1), .second, .val (.int (((u3 &&& (2147483647 : Int32)) % (192 : Int32)) - (64 : Int32))), .val (.int (1 : Int32)), .val (.int (fbit u1 (Int32.toInt64 ((u3 &&& (2147483647 : Int32)) % (192 : Int32)))))] []))
        refine OEnds.pre (fun t k => XS.aload H8.here hx rfl (hb hby at_116) rfl rfl k) ?_
        show OEnds p e below s _ _ _ (T8.setTop (mkF m 118 #[.val (.long u0), .second, .val (.long u1), .second, .val (.long u2), .second, .val (.int u3), .val (.ref b1), .val (.int ((u3 &&& (2147483647 : Int32)) % (192 : Int32))), .val (.long u1), .second, .val (.int (((u3 &&& (2147483647 : Int32)) % (192 : Int32)) - (64 : Int32))), .val (.int (1 : Int32)), .val (.int (fbit u1 (Int32.toInt64 ((u3 &&& (2147483647 : Int32)) % (192 : Int32)))))] [(.ref b1)]))
        refine OEnds.pre (fun t k => XT.iconstV H8.here hx rfl (0 : Int32) (hb hby at_118) rfl k) ?_
        show OEnds p e below s _ _ _ (T8.setTop (mkF m 119 #[.val (.long u0), .second, .val (.long u1), .second, .val (.long u2), .second, .val (.int u3), .val (.ref b1), .val (.int ((u3 &&& (2147483647 : Int32)) % (192 : Int32))), .val (.long u1), .second, .val (.int (((u3 &&& (2147483647 : Int32)) % (192 : Int32)) - (64 : Int32))), .val (.int (1 : Int32)), .val (.int (fbit u1 (Int32.toInt64 ((u3 &&& (2147483647 : Int32)) % (192 : Int32)))))] [(.int (0 : Int32)), (.ref b1)]))
        refine OEnds.pre (fun t k => OHere.laload H8 hx hZ (q := 0) (i := 0) (vs := [(.long u0), (.long u1), (.long u2)]) (v := (.long u0)) rfl (by decide) (by decide) rfl (hb hby at_119) k) ?_
        show OEnds p e below s _ _ _ (T8.setTop (mkF m 120 #[.val (.long u0), .second, .val (.long u1), .second, .val (.long u2), .second, .val (.int u3), .val (.ref b1), .val (.int ((u3 &&& (2147483647 : Int32)) % (192 : Int32))), .val (.long u1), .second, .val (.int (((u3 &&& (2147483647 : Int32)) % (192 : Int32)) - (64 : Int32))), .val (.int (1 : Int32)), .val (.int (fbit u1 (Int32.toInt64 ((u3 &&& (2147483647 : Int32)) % (192 : Int32)))))] [(.long u0)]))
        refine OEnds.pre (fun t k => XT.lloadN H8.here hx rfl (hb hby at_120) rfl k) ?_
        show OEnds p e below s _ _ _ (T8.setTop (mkF m 121 #[.val (.long u0), .second, .val (.long u1), .second, .val (.long u2), .second, .val (.int u3), .val (.ref b1), .val (.int ((u3 &&& (2147483647 : Int32)) % (192 : Int32))), .val (.long u1), .second, .val (.int (((u3 &&& (2147483647 : Int32)) % (192 : Int32)) - (64 : Int32))), .val (.int (1 : Int32)), .val (.int (fbit u1 (Int32.toInt64 ((u3 &&& (2147483647 : Int32)) % (192 : Int32)))))] [(.long u0), (.long u0)]))
        refine OEnds.pre (fun t k => XT.lcmp H8.here hx rfl (hb hby at_121) rfl k) ?_
        show OEnds p e below s _ _ _ (T8.setTop (mkF m 122 #[.val (.long u0), .second, .val (.long u1), .second, .val (.long u2), .second, .val (.int u3), .val (.ref b1), .val (.int ((u3 &&& (2147483647 : Int32)) % (192 : Int32))), .val (.long u1), .second, .val (.int (((u3 &&& (2147483647 : Int32)) % (192 : Int32)) - (64 : Int32))), .val (.int (1 : Int32)), .val (.int (fbit u1 (Int32.toInt64 ((u3 &&& (2147483647 : Int32)) % (192 : Int32)))))] [(.int (XT.cmpL u0 u0))]))
        refine OEnds.pre (fun t k => XS.ifNo H8.here hx rfl (hb hby at_122) rfl (XT.ll_ne_f rfl) k) ?_
        show OEnds p e below s _ _ _ (T8.setTop (mkF m 125 #[.val (.long u0), .second, .val (.long u1), .second, .val (.long u2), .second, .val (.int u3), .val (.ref b1), .val (.int ((u3 &&& (2147483647 : Int32)) % (192 : Int32))), .val (.long u1), .second, .val (.int (((u3 &&& (2147483647 : Int32)) % (192 : Int32)) - (64 : Int32))), .val (.int (1 : Int32)), .val (.int (fbit u1 (Int32.toInt64 ((u3 &&& (2147483647 : Int32)) % (192 : Int32)))))] []))
        refine OEnds.pre (fun t k => XS.aload H8.here hx rfl (hb hby at_125) rfl rfl k) ?_
        show OEnds p e below s _ _ _ (T8.setTop (mkF m 127 #[.val (.long u0), .second, .val (.long u1), .second, .val (.long u2), .second, .val (.int u3), .val (.ref b1), .val (.int ((u3 &&& (2147483647 : Int32)) % (192 : Int32))), .val (.long u1), .second, .val (.int (((u3 &&& (2147483647 : Int32)) % (192 : Int32)) - (64 : Int32))), .val (.int (1 : Int32)), .val (.int (fbit u1 (Int32.toInt64 ((u3 &&& (2147483647 : Int32)) % (192 : Int32)))))] [(.ref b1)]))
        refine OEnds.pre (fun t k => XT.iconstV H8.here hx rfl (1 : Int32) (hb hby at_127) rfl k) ?_
        show OEnds p e below s _ _ _ (T8.setTop (mkF m 128 #[.val (.long u0), .second, .val (.long u1), .second, .val (.long u2), .second, .val (.int u3), .val (.ref b1), .val (.int ((u3 &&& (2147483647 : Int32)) % (192 : Int32))), .val (.long u1), .second, .val (.int (((u3 &&& (2147483647 : Int32)) % (192 : Int32)) - (64 : Int32))), .val (.int (1 : Int32)), .val (.int (fbit u1 (Int32.toInt64 ((u3 &&& (2147483647 : Int32)) % (192 : Int32)))))] [(.int (1 : Int32)), (.ref b1)]))
        refine OEnds.pre (fun t k => OHere.laload H8 hx hZ (q := 0) (i := 1) (vs := [(.long u0), (.long u1), (.long u2)]) (v := (.long u1)) rfl (by decide) (by decide) rfl (hb hby at_128) k) ?_
        show OEnds p e below s _ _ _ (T8.setTop (mkF m 129 #[.val (.long u0), .second, .val (.long u1), .second, .val (.long u2), .second, .val (.int u3), .val (.ref b1), .val (.int ((u3 &&& (2147483647 : Int32)) % (192 : Int32))), .val (.long u1), .second, .val (.int (((u3 &&& (2147483647 : Int32)) % (192 : Int32)) - (64 : Int32))), .val (.int (1 : Int32)), .val (.int (fbit u1 (Int32.toInt64 ((u3 &&& (2147483647 : Int32)) % (192 : Int32)))))] [(.long u1)]))
        refine OEnds.pre (fun t k => XT.lloadN H8.here hx rfl (hb hby at_129) rfl k) ?_
        show OEnds p e below s _ _ _ (T8.setTop (mkF m 130 #[.val (.long u0), .second, .val (.long u1), .second, .val (.long u2), .second, .val (.int u3), .val (.ref b1), .val (.int ((u3 &&& (2147483647 : Int32)) % (192 : Int32))), .val (.long u1), .second, .val (.int (((u3 &&& (2147483647 : Int32)) % (192 : Int32)) - (64 : Int32))), .val (.int (1 : Int32)), .val (.int (fbit u1 (Int32.toInt64 ((u3 &&& (2147483647 : Int32)) % (192 : Int32)))))] [(.long u1), (.long u1)]))
        refine OEnds.pre (fun t k => XT.lcmp H8.here hx rfl (hb hby at_130) rfl k) ?_
        show OEnds p e below s _ _ _ (T8.setTop (mkF m 131 #[.val (.long u0), .second, .val (.long u1), .second, .val (.long u2), .second, .val (.int u3), .val (.ref b1), .val (.int ((u3 &&& (2147483647 : Int32)) % (192 : Int32))), .val (.long u1), .second, .val (.int (((u3 &&& (2147483647 : Int32)) % (192 : Int32)) - (64 : Int32))), .val (.int (1 : Int32)), .val (.int (fbit u1 (Int32.toInt64 ((u3 &&& (2147483647 : Int32)) % (192 : Int32)))))] [(.int (XT.cmpL u1 u1))]))
        refine OEnds.pre (fun t k => XS.ifNo H8.here hx rfl (hb hby at_131) rfl (XT.ll_ne_f rfl) k) ?_
        show OEnds p e below s _ _ _ (T8.setTop (mkF m 134 #[.val (.long u0), .second, .val (.long u1), .second, .val (.long u2), .second, .val (.int u3), .val (.ref b1), .val (.int ((u3 &&& (2147483647 : Int32)) % (192 : Int32))), .val (.long u1), .second, .val (.int (((u3 &&& (2147483647 : Int32)) % (192 : Int32)) - (64 : Int32))), .val (.int (1 : Int32)), .val (.int (fbit u1 (Int32.toInt64 ((u3 &&& (2147483647 : Int32)) % (192 : Int32)))))] []))
        refine OEnds.pre (fun t k => XS.aload H8.here hx rfl (hb hby at_134) rfl rfl k) ?_
        show OEnds p e below s _ _ _ (T8.setTop (mkF m 136 #[.val (.long u0), .second, .val (.long u1), .second, .val (.long u2), .second, .val (.int u3), .val (.ref b1), .val (.int ((u3 &&& (2147483647 : Int32)) % (192 : Int32))), .val (.long u1), .second, .val (.int (((u3 &&& (2147483647 : Int32)) % (192 : Int32)) - (64 : Int32))), .val (.int (1 : Int32)), .val (.int (fbit u1 (Int32.toInt64 ((u3 &&& (2147483647 : Int32)) % (192 : Int32)))))] [(.ref b1)]))
        refine OEnds.pre (fun t k => XT.iconstV H8.here hx rfl (2 : Int32) (hb hby at_136) rfl k) ?_
        show OEnds p e below s _ _ _ (T8.setTop (mkF m 137 #[.val (.long u0), .second, .val (.long u1), .second, .val (.long u2), .second, .val (.int u3), .val (.ref b1), .val (.int ((u3 &&& (2147483647 : Int32)) % (192 : Int32))), .val (.long u1), .second, .val (.int (((u3 &&& (2147483647 : Int32)) % (192 : Int32)) - (64 : Int32))), .val (.int (1 : Int32)), .val (.int (fbit u1 (Int32.toInt64 ((u3 &&& (2147483647 : Int32)) % (192 : Int32)))))] [(.int (2 : Int32)), (.ref b1)]))
        refine OEnds.pre (fun t k => OHere.laload H8 hx hZ (q := 0) (i := 2) (vs := [(.long u0), (.long u1), (.long u2)]) (v := (.long u2)) rfl (by decide) (by decide) rfl (hb hby at_137) k) ?_
        show OEnds p e below s _ _ _ (T8.setTop (mkF m 138 #[.val (.long u0), .second, .val (.long u1), .second, .val (.long u2), .second, .val (.int u3), .val (.ref b1), .val (.int ((u3 &&& (2147483647 : Int32)) % (192 : Int32))), .val (.long u1), .second, .val (.int (((u3 &&& (2147483647 : Int32)) % (192 : Int32)) - (64 : Int32))), .val (.int (1 : Int32)), .val (.int (fbit u1 (Int32.toInt64 ((u3 &&& (2147483647 : Int32)) % (192 : Int32)))))] [(.long u2)]))
        refine OEnds.pre (fun t k => XT.lload H8.here hx rfl (hb hby at_138) rfl k) ?_
        show OEnds p e below s _ _ _ (T8.setTop (mkF m 140 #[.val (.long u0), .second, .val (.long u1), .second, .val (.long u2), .second, .val (.int u3), .val (.ref b1), .val (.int ((u3 &&& (2147483647 : Int32)) % (192 : Int32))), .val (.long u1), .second, .val (.int (((u3 &&& (2147483647 : Int32)) % (192 : Int32)) - (64 : Int32))), .val (.int (1 : Int32)), .val (.int (fbit u1 (Int32.toInt64 ((u3 &&& (2147483647 : Int32)) % (192 : Int32)))))] [(.long u2), (.long u2)]))
        refine OEnds.pre (fun t k => XT.lcmp H8.here hx rfl (hb hby at_140) rfl k) ?_
        show OEnds p e below s _ _ _ (T8.setTop (mkF m 141 #[.val (.long u0), .second, .val (.long u1), .second, .val (.long u2), .second, .val (.int u3), .val (.ref b1), .val (.int ((u3 &&& (2147483647 : Int32)) % (192 : Int32))), .val (.long u1), .second, .val (.int (((u3 &&& (2147483647 : Int32)) % (192 : Int32)) - (64 : Int32))), .val (.int (1 : Int32)), .val (.int (fbit u1 (Int32.toInt64 ((u3 &&& (2147483647 : Int32)) % (192 : Int32)))))] [(.int (XT.cmpL u2 u2))]))
        refine OEnds.pre (fun t k => XS.ifNo H8.here hx rfl (hb hby at_141) rfl (XT.ll_ne_f rfl) k) ?_
        show OEnds p e below s _ _ _ (T8.setTop (mkF m 144 #[.val (.long u0), .second, .val (.long u1), .second, .val (.long u2), .second, .val (.int u3), .val (.ref b1), .val (.int ((u3 &&& (2147483647 : Int32)) % (192 : Int32))), .val (.long u1), .second, .val (.int (((u3 &&& (2147483647 : Int32)) % (192 : Int32)) - (64 : Int32))), .val (.int (1 : Int32)), .val (.int (fbit u1 (Int32.toInt64 ((u3 &&& (2147483647 : Int32)) % (192 : Int32)))))] []))
        refine OEnds.pre (fun t k => XT.iconstV H8.here hx rfl (1 : Int32) (hb hby at_144) rfl k) ?_
        show OEnds p e below s _ _ _ (T8.setTop (mkF m 145 #[.val (.long u0), .second, .val (.long u1), .second, .val (.long u2), .second, .val (.int u3), .val (.ref b1), .val (.int ((u3 &&& (2147483647 : Int32)) % (192 : Int32))), .val (.long u1), .second, .val (.int (((u3 &&& (2147483647 : Int32)) % (192 : Int32)) - (64 : Int32))), .val (.int (1 : Int32)), .val (.int (fbit u1 (Int32.toInt64 ((u3 &&& (2147483647 : Int32)) % (192 : Int32)))))] [(.int (1 : Int32))]))
        refine OEnds.pre (fun t k => XS.goto H8.here hx rfl (pc0 := 145) (pc' := 149) rfl (hb hby at_145) (by decide) (by decide) k) ?_
        show OEnds p e below s _ _ _ (T8.setTop (mkF m 149 #[.val (.long u0), .second, .val (.long u1), .second, .val (.long u2), .second, .val (.int u3), .val (.ref b1), .val (.int ((u3 &&& (2147483647 : Int32)) % (192 : Int32))), .val (.long u1), .second, .val (.int (((u3 &&& (2147483647 : Int32)) % (192 : Int32)) - (64 : Int32))), .val (.int (1 : Int32)), .val (.int (fbit u1 (Int32.toInt64 ((u3 &&& (2147483647 : Int32)) % (192 : Int32)))))] [(.int (1 : Int32))]))
        exact H8.nrw hx Bd.notSynchronized Bd.returns (by simp) (hb hby at_149) (by decide) (by decide) (fun h L W N => ⟨N, _, ⟨rfl, rfl⟩, W.nil⟩)
      · refine OEnds.pre (fun t k => XS.ifYes H5.here hx rfl (pc0 := 89) (pc' := 96) rfl (hb hby at_89) rfl (XT.ll_ge_t c3) (by decide) (by decide) k) ?_
        show OEnds p e below s _ _ _ (T5.setTop (mkF m 96 #[.val (.long u0), .second, .val (.long u1), .second, .val (.long u2), .second, .val (.int u3), .val (.ref b1), .val (.int ((u3 &&& (2147483647 : Int32)) % (192 : Int32))), .val (.long u1), .second, .val (.int (((u3 &&& (2147483647 : Int32)) % (192 : Int32)) - (64 : Int32))), .unset, .unset] []))
        refine OEnds.pre (fun t k => XT.iconstV H5.here hx rfl (0 : Int32) (hb hby at_96) rfl k) ?_
        show OEnds p e below s _ _ _ (T5.setTop (mkF m 97 #[.val (.long u0), .second, .val (.long u1), .second, .val (.long u2), .second, .val (.int u3), .val (.ref b1), .val (.int ((u3 &&& (2147483647 : Int32)) % (192 : Int32))), .val (.long u1), .second, .val (.int (((u3 &&& (2147483647 : Int32)) % (192 : Int32)) - (64 : Int32))), .unset, .unset] [(.int (0 : Int32))]))
        refine OEnds.pre (fun t k => XS.istore H5.here hx rfl (hb hby at_97) rfl (l' := #[.val (.long u0), .second, .val (.long u1), .second, .val (.long u2), .second, .val (.int u3), .val (.ref b1), .val (.int ((u3 &&& (2147483647 : Int32)) % (192 : Int32))), .val (.long u1), .second, .val (.int (((u3 &&& (2147483647 : Int32)) % (192 : Int32)) - (64 : Int32))), .val (.int (0 : Int32)), .unset]) rfl k) ?_
        show OEnds p e below s _ _ _ (T5.setTop (mkF m 99 #[.val (.long u0), .second, .val (.long u1), .second, .val (.long u2), .second, .val (.int u3), .val (.ref b1), .val (.int ((u3 &&& (2147483647 : Int32)) % (192 : Int32))), .val (.long u1), .second, .val (.int (((u3 &&& (2147483647 : Int32)) % (192 : Int32)) - (64 : Int32))), .val (.int (0 : Int32)), .unset] []))
        refine OEnds.pre (fun t k => XS.aload H5.here hx rfl (hb hby at_99) rfl rfl k) ?_
        show OEnds p e below s _ _ _ (T5.setTop (mkF m 101 #[.val (.long u0), .second, .val (.long u1), .second, .val (.long u2), .second, .val (.int u3), .val (.ref b1), .val (.int ((u3 &&& (2147483647 : Int32)) % (192 : Int32))), .val (.long u1), .second, .val (.int (((u3 &&& (2147483647 : Int32)) % (192 : Int32)) - (64 : Int32))), .val (.int (0 : Int32)), .unset] [(.ref b1)]))
        refine OEnds.pre (fun t k => XS.iload H5.here hx rfl (hb hby at_101) rfl k) ?_
        show OEnds p e below s _ _ _ (T5.setTop (mkF m 103 #[.val (.long u0), .second, .val (.long u1), .second, .val (.long u2), .second, .val (.int u3), .val (.ref b1), .val (.int ((u3 &&& (2147483647 : Int32)) % (192 : Int32))), .val (.long u1), .second, .val (.int (((u3 &&& (2147483647 : Int32)) % (192 : Int32)) - (64 : Int32))), .val (.int (0 : Int32)), .unset] [(.int ((u3 &&& (2147483647 : Int32)) % (192 : Int32))), (.ref b1)]))
        refine OEnds.pre (fun t k => XT.i2l H5.here hx rfl (hb hby at_103) rfl k) ?_
        show OEnds p e below s _ _ _ (T5.setTop (mkF m 104 #[.val (.long u0), .second, .val (.long u1), .second, .val (.long u2), .second, .val (.int u3), .val (.ref b1), .val (.int ((u3 &&& (2147483647 : Int32)) % (192 : Int32))), .val (.long u1), .second, .val (.int (((u3 &&& (2147483647 : Int32)) % (192 : Int32)) - (64 : Int32))), .val (.int (0 : Int32)), .unset] [(.long (Int32.toInt64 ((u3 &&& (2147483647 : Int32)) % (192 : Int32)))), (.ref b1)]))
        obtain ⟨T9, _, _, ⟨rfl, rfl⟩, H9, st9⟩ := OHere.static H5 hx hZ (y := (⟨"com/example/syndral/syndral/code/Bits", "bit", "([JJ)Z"⟩ : MethodName)) (P := _) (W := 0) hown (hw _ (List.mem_of_getElem? (i := 2) rfl)) (hw _ (List.mem_of_getElem? (i := 3) rfl)) (hw _ (List.mem_of_getElem? (i := 4) rfl)) (hw _ (List.mem_of_getElem? (i := 5) rfl)) (by decide) (con1 l Z a0 hw n0 [] b1 (Int32.toInt64 ((u3 &&& (2147483647 : Int32)) % (192 : Int32))) [(eA b1 .long [(.long u0), (.long u1), (.long u2)])] 0 [.long u0, .long u1, .long u2] u1 1 rfl (blk1 u3 c1 c2).1 (blk1 u3 c1 c2).2 rfl) (by decide) (by decide) (pc := 104) (Ls := #[.val (.long u0), .second, .val (.long u1), .second, .val (.long u2), .second, .val (.int u3), .val (.ref b1), .val (.int ((u3 &&& (2147483647 : Int32)) % (192 : Int32))), .val (.long u1), .second, .val (.int (((u3 &&& (2147483647 : Int32)) % (192 : Int32)) - (64 : Int32))), .val (.int (0 : Int32)), .unset]) (argsL := [(.ref b1), (.long (Int32.toInt64 ((u3 &&& (2147483647 : Int32)) % (192 : Int32))))]) (rest := []) (by rw [hml]; rfl) (lenOf pd_oAJJcZ rfl) rfl (Nat.le_of_eq rfl) (hb hby at_104) (by decide) (by decide)
        replace H9 : OHere p l e _ s m _ below meth c Z n0 T9 1 3 [(eA b1 .long [(.long u0), (.long u1), (.long u2)])] := H9
        refine OEnds.pre (fun t k => st9 _ k) ?_
        show OEnds p e below s _ _ _ (T9.setTop (mkF m 107 #[.val (.long u0), .second, .val (.long u1), .second, .val (.long u2), .second, .val (.int u3), .val (.ref b1), .val (.int ((u3 &&& (2147483647 : Int32)) % (192 : Int32))), .val (.long u1), .second, .val (.int (((u3 &&& (2147483647 : Int32)) % (192 : Int32)) - (64 : Int32))), .val (.int (0 : Int32)), .unset] [(.int (fbit u1 (Int32.toInt64 ((u3 &&& (2147483647 : Int32)) % (192 : Int32)))))]))
        refine OEnds.pre (fun t k => XS.istore H9.here hx rfl (hb hby at_107) rfl (l' := #[.val (.long u0), .second, .val (.long u1), .second, .val (.long u2), .second, .val (.int u3), .val (.ref b1), .val (.int ((u3 &&& (2147483647 : Int32)) % (192 : Int32))), .val (.long u1), .second, .val (.int (((u3 &&& (2147483647 : Int32)) % (192 : Int32)) - (64 : Int32))), .val (.int (0 : Int32)), .val (.int (fbit u1 (Int32.toInt64 ((u3 &&& (2147483647 : Int32)) % (192 : Int32)))))]) rfl k) ?_
        show OEnds p e below s _ _ _ (T9.setTop (mkF m 109 #[.val (.long u0), .second, .val (.long u1), .second, .val (.long u2), .second, .val (.int u3), .val (.ref b1), .val (.int ((u3 &&& (2147483647 : Int32)) % (192 : Int32))), .val (.long u1), .second, .val (.int (((u3 &&& (2147483647 : Int32)) % (192 : Int32)) - (64 : Int32))), .val (.int (0 : Int32)), .val (.int (fbit u1 (Int32.toInt64 ((u3 &&& (2147483647 : Int32)) % (192 : Int32)))))] []))
        refine OEnds.pre (fun t k => XS.iload H9.here hx rfl (hb hby at_109) rfl k) ?_
        show OEnds p e below s _ _ _ (T9.setTop (mkF m 111 #[.val (.long u0), .second, .val (.long u1), .second, .val (.long u2), .second, .val (.int u3), .val (.ref b1), .val (.int ((u3 &&& (2147483647 : Int32)) % (192 : Int32))), .val (.long u1), .second, .val (.int (((u3 &&& (2147483647 : Int32)) % (192 : Int32)) - (64 : Int32))), .val (.int (0 : Int32)), .val (.int (fbit u1 (Int32.toInt64 ((u3 &&& (2147483647 : Int32)) % (192 : Int32)))))] [(.int (fbit u1 (Int32.toInt64 ((u3 &&& (2147483647 : Int32)) % (192 : Int32)))))]))
        refine OEnds.pre (fun t k => XS.iload H9.here hx rfl (hb hby at_111) rfl k) ?_
        show OEnds p e below s _ _ _ (T9.setTop (mkF m 113 #[.val (.long u0), .second, .val (.long u1), .second, .val (.long u2), .second, .val (.int u3), .val (.ref b1), .val (.int ((u3 &&& (2147483647 : Int32)) % (192 : Int32))), .val (.long u1), .second, .val (.int (((u3 &&& (2147483647 : Int32)) % (192 : Int32)) - (64 : Int32))), .val (.int (0 : Int32)), .val (.int (fbit u1 (Int32.toInt64 ((u3 &&& (2147483647 : Int32)) % (192 : Int32)))))] [(.int (0 : Int32)), (.int (fbit u1 (Int32.toInt64 ((u3 &&& (2147483647 : Int32)) % (192 : Int32)))))]))
        refine OEnds.pre (fun t k => XS.icmpNo H9.here hx rfl (hb hby at_113) rfl (XT.ii_ne_f (ff1 u3 u1 c1 c2 c3)) k) ?_
        show OEnds p e below s _ _ _ (T9.setTop (mkF m 116 #[.val (.long u0), .second, .val (.long u1), .second, .val (.long u2), .second, .val (.int u3), .val (.ref b1), .val (.int ((u3 &&& (2147483647 : Int32)) % (192 : Int32))), .val (.long u1), .second, .val (.int (((u3 &&& (2147483647 : Int32)) % (192 : Int32)) - (64 : Int32))), .val (.int (0 : Int32)), .val (.int (fbit u1 (Int32.toInt64 ((u3 &&& (2147483647 : Int32)) % (192 : Int32)))))] []))
        refine OEnds.pre (fun t k => XS.aload H9.here hx rfl (hb hby at_116) rfl rfl k) ?_
        show OEnds p e below s _ _ _ (T9.setTop (mkF m 118 #[.val (.long u0), .second, .val (.long u1), .second, .val (.long u2), .second, .val (.int u3), .val (.ref b1), .val (.int ((u3 &&& (2147483647 : Int32)) % (192 : Int32))), .val (.long u1), .second, .val (.int (((u3 &&& (2147483647 : Int32)) % (192 : Int32)) - (64 : Int32))), .val (.int (0 : Int32)), .val (.int (fbit u1 (Int32.toInt64 ((u3 &&& (2147483647 : Int32)) % (192 : Int32)))))] [(.ref b1)]))
        refine OEnds.pre (fun t k => XT.iconstV H9.here hx rfl (0 : Int32) (hb hby at_118) rfl k) ?_
        show OEnds p e below s _ _ _ (T9.setTop (mkF m 119 #[.val (.long u0), .second, .val (.long u1), .second, .val (.long u2), .second, .val (.int u3), .val (.ref b1), .val (.int ((u3 &&& (2147483647 : Int32)) % (192 : Int32))), .val (.long u1), .second, .val (.int (((u3 &&& (2147483647 : Int32)) % (192 : Int32)) - (64 : Int32))), .val (.int (0 : Int32)), .val (.int (fbit u1 (Int32.toInt64 ((u3 &&& (2147483647 : Int32)) % (192 : Int32)))))] [(.int (0 : Int32)), (.ref b1)]))
        refine OEnds.pre (fun t k => OHere.laload H9 hx hZ (q := 0) (i := 0) (vs := [(.long u0), (.long u1), (.long u2)]) (v := (.long u0)) rfl (by decide) (by decide) rfl (hb hby at_119) k) ?_
        show OEnds p e below s _ _ _ (T9.setTop (mkF m 120 #[.val (.long u0), .second, .val (.long u1), .second, .val (.long u2), .second, .val (.int u3), .val (.ref b1), .val (.int ((u3 &&& (2147483647 : Int32)) % (192 : Int32))), .val (.long u1), .second, .val (.int (((u3 &&& (2147483647 : Int32)) % (192 : Int32)) - (64 : Int32))), .val (.int (0 : Int32)), .val (.int (fbit u1 (Int32.toInt64 ((u3 &&& (2147483647 : Int32)) % (192 : Int32)))))] [(.long u0)]))
        refine OEnds.pre (fun t k => XT.lloadN H9.here hx rfl (hb hby at_120) rfl k) ?_
        show OEnds p e below s _ _ _ (T9.setTop (mkF m 121 #[.val (.long u0), .second, .val (.long u1), .second, .val (.long u2), .second, .val (.int u3), .val (.ref b1), .val (.int ((u3 &&& (2147483647 : Int32)) % (192 : Int32))), .val (.long u1), .second, .val (.int (((u3 &&& (2147483647 : Int32)) % (192 : Int32)) - (64 : Int32))), .val (.int (0 : Int32)), .val (.int (fbit u1 (Int32.toInt64 ((u3 &&& (2147483647 : Int32)) % (192 : Int32)))))] [(.long u0), (.long u0)]))
        refine OEnds.pre (fun t k => XT.lcmp H9.here hx rfl (hb hby at_121) rfl k) ?_
        show OEnds p e below s _ _ _ (T9.setTop (mkF m 122 #[.val (.long u0), .second, .val (.long u1), .second, .val (.long u2), .second, .val (.int u3), .val (.ref b1), .val (.int ((u3 &&& (2147483647 : Int32)) % (192 : Int32))), .val (.long u1), .second, .val (.int (((u3 &&& (2147483647 : Int32)) % (192 : Int32)) - (64 : Int32))), .val (.int (0 : Int32)), .val (.int (fbit u1 (Int32.toInt64 ((u3 &&& (2147483647 : Int32)) % (192 : Int32)))))] [(.int (XT.cmpL u0 u0))]))
        refine OEnds.pre (fun t k => XS.ifNo H9.here hx rfl (hb hby at_122) rfl (XT.ll_ne_f rfl) k) ?_
        show OEnds p e below s _ _ _ (T9.setTop (mkF m 125 #[.val (.long u0), .second, .val (.long u1), .second, .val (.long u2), .second, .val (.int u3), .val (.ref b1), .val (.int ((u3 &&& (2147483647 : Int32)) % (192 : Int32))), .val (.long u1), .second, .val (.int (((u3 &&& (2147483647 : Int32)) % (192 : Int32)) - (64 : Int32))), .val (.int (0 : Int32)), .val (.int (fbit u1 (Int32.toInt64 ((u3 &&& (2147483647 : Int32)) % (192 : Int32)))))] []))
        refine OEnds.pre (fun t k => XS.aload H9.here hx rfl (hb hby at_125) rfl rfl k) ?_
        show OEnds p e below s _ _ _ (T9.setTop (mkF m 127 #[.val (.long u0), .second, .val (.long u1), .second, .val (.long u2), .second, .val (.int u3), .val (.ref b1), .val (.int ((u3 &&& (2147483647 : Int32)) % (192 : Int32))), .val (.long u1), .second, .val (.int (((u3 &&& (2147483647 : Int32)) % (192 : Int32)) - (64 : Int32))), .val (.int (0 : Int32)), .val (.int (fbit u1 (Int32.toInt64 ((u3 &&& (2147483647 : Int32)) % (192 : Int32)))))] [(.ref b1)]))
        refine OEnds.pre (fun t k => XT.iconstV H9.here hx rfl (1 : Int32) (hb hby at_127) rfl k) ?_
        show OEnds p e below s _ _ _ (T9.setTop (mkF m 128 #[.val (.long u0), .second, .val (.long u1), .second, .val (.long u2), .second, .val (.int u3), .val (.ref b1), .val (.int ((u3 &&& (2147483647 : Int32)) % (192 : Int32))), .val (.long u1), .second, .val (.int (((u3 &&& (2147483647 : Int32)) % (192 : Int32)) - (64 : Int32))), .val (.int (0 : Int32)), .val (.int (fbit u1 (Int32.toInt64 ((u3 &&& (2147483647 : Int32)) % (192 : Int32)))))] [(.int (1 : Int32)), (.ref b1)]))
        refine OEnds.pre (fun t k => OHere.laload H9 hx hZ (q := 0) (i := 1) (vs := [(.long u0), (.long u1), (.long u2)]) (v := (.long u1)) rfl (by decide) (by decide) rfl (hb hby at_128) k) ?_
        show OEnds p e below s _ _ _ (T9.setTop (mkF m 129 #[.val (.long u0), .second, .val (.long u1), .second, .val (.long u2), .second, .val (.int u3), .val (.ref b1), .val (.int ((u3 &&& (2147483647 : Int32)) % (192 : Int32))), .val (.long u1), .second, .val (.int (((u3 &&& (2147483647 : Int32)) % (192 : Int32)) - (64 : Int32))), .val (.int (0 : Int32)), .val (.int (fbit u1 (Int32.toInt64 ((u3 &&& (2147483647 : Int32)) % (192 : Int32)))))] [(.long u1)]))
        refine OEnds.pre (fun t k => XT.lloadN H9.here hx rfl (hb hby at_129) rfl k) ?_
        show OEnds p e below s _ _ _ (T9.setTop (mkF m 130 #[.val (.long u0), .second, .val (.long u1), .second, .val (.long u2), .second, .val (.int u3), .val (.ref b1), .val (.int ((u3 &&& (2147483647 : Int32)) % (192 : Int32))), .val (.long u1), .second, .val (.int (((u3 &&& (2147483647 : Int32)) % (192 : Int32)) - (64 : Int32))), .val (.int (0 : Int32)), .val (.int (fbit u1 (Int32.toInt64 ((u3 &&& (2147483647 : Int32)) % (192 : Int32)))))] [(.long u1), (.long u1)]))
        refine OEnds.pre (fun t k => XT.lcmp H9.here hx rfl (hb hby at_130) rfl k) ?_
        show OEnds p e below s _ _ _ (T9.setTop (mkF m 131 #[.val (.long u0), .second, .val (.long u1), .second, .val (.long u2), .second, .val (.int u3), .val (.ref b1), .val (.int ((u3 &&& (2147483647 : Int32)) % (192 : Int32))), .val (.long u1), .second, .val (.int (((u3 &&& (2147483647 : Int32)) % (192 : Int32)) - (64 : Int32))), .val (.int (0 : Int32)), .val (.int (fbit u1 (Int32.toInt64 ((u3 &&& (2147483647 : Int32)) % (192 : Int32)))))] [(.int (XT.cmpL u1 u1))]))
        refine OEnds.pre (fun t k => XS.ifNo H9.here hx rfl (hb hby at_131) rfl (XT.ll_ne_f rfl) k) ?_
        show OEnds p e below s _ _ _ (T9.setTop (mkF m 134 #[.val (.long u0), .second, .val (.long u1), .second, .val (.long u2), .second, .val (.int u3), .val (.ref b1), .val (.int ((u3 &&& (2147483647 : Int32)) % (192 : Int32))), .val (.long u1), .second, .val (.int (((u3 &&& (2147483647 : Int32)) % (192 : Int32)) - (64 : Int32))), .val (.int (0 : Int32)), .val (.int (fbit u1 (Int32.toInt64 ((u3 &&& (2147483647 : Int32)) % (192 : Int32)))))] []))
        refine OEnds.pre (fun t k => XS.aload H9.here hx rfl (hb hby at_134) rfl rfl k) ?_
        show OEnds p e below s _ _ _ (T9.setTop (mkF m 136 #[.val (.long u0), .second, .val (.long u1), .second, .val (.long u2), .second, .val (.int u3), .val (.ref b1), .val (.int ((u3 &&& (2147483647 : Int32)) % (192 : Int32))), .val (.long u1), .second, .val (.int (((u3 &&& (2147483647 : Int32)) % (192 : Int32)) - (64 : Int32))), .val (.int (0 : Int32)), .val (.int (fbit u1 (Int32.toInt64 ((u3 &&& (2147483647 : Int32)) % (192 : Int32)))))] [(.ref b1)]))
        refine OEnds.pre (fun t k => XT.iconstV H9.here hx rfl (2 : Int32) (hb hby at_136) rfl k) ?_
        show OEnds p e below s _ _ _ (T9.setTop (mkF m 137 #[.val (.long u0), .second, .val (.long u1), .second, .val (.long u2), .second, .val (.int u3), .val (.ref b1), .val (.int ((u3 &&& (2147483647 : Int32)) % (192 : Int32))), .val (.long u1), .second, .val (.int (((u3 &&& (2147483647 : Int32)) % (192 : Int32)) - (64 : Int32))), .val (.int (0 : Int32)), .val (.int (fbit u1 (Int32.toInt64 ((u3 &&& (2147483647 : Int32)) % (192 : Int32)))))] [(.int (2 : Int32)), (.ref b1)]))
        refine OEnds.pre (fun t k => OHere.laload H9 hx hZ (q := 0) (i := 2) (vs := [(.long u0), (.long u1), (.long u2)]) (v := (.long u2)) rfl (by decide) (by decide) rfl (hb hby at_137) k) ?_
        show OEnds p e below s _ _ _ (T9.setTop (mkF m 138 #[.val (.long u0), .second, .val (.long u1), .second, .val (.long u2), .second, .val (.int u3), .val (.ref b1), .val (.int ((u3 &&& (2147483647 : Int32)) % (192 : Int32))), .val (.long u1), .second, .val (.int (((u3 &&& (2147483647 : Int32)) % (192 : Int32)) - (64 : Int32))), .val (.int (0 : Int32)), .val (.int (fbit u1 (Int32.toInt64 ((u3 &&& (2147483647 : Int32)) % (192 : Int32)))))] [(.long u2)]))
        refine OEnds.pre (fun t k => XT.lload H9.here hx rfl (hb hby at_138) rfl k) ?_
        show OEnds p e below s _ _ _ (T9.setTop (mkF m 140 #[.val (.long u0), .second, .val (.long u1), .second, .val (.long u2), .second, .val (.int u3), .val (.ref b1), .val (.int ((u3 &&& (2147483647 : Int32)) % (192 : Int32))), .val (.long u1), .second, .val (.int (((u3 &&& (2147483647 : Int32)) % (192 : Int32)) - (64 : Int32))), .val (.int (0 : Int32)), .val (.int (fbit u1 (Int32.toInt64 ((u3 &&& (2147483647 : Int32)) % (192 : Int32)))))] [(.long u2), (.long u2)]))
        refine OEnds.pre (fun t k => XT.lcmp H9.here hx rfl (hb hby at_140) rfl k) ?_
        show OEnds p e below s _ _ _ (T9.setTop (mkF m 141 #[.val (.long u0), .second, .val (.long u1), .second, .val (.long u2), .second, .val (.int u3), .val (.ref b1), .val (.int ((u3 &&& (2147483647 : Int32)) % (192 : Int32))), .val (.long u1), .second, .val (.int (((u3 &&& (2147483647 : Int32)) % (192 : Int32)) - (64 : Int32))), .val (.int (0 : Int32)), .val (.int (fbit u1 (Int32.toInt64 ((u3 &&& (2147483647 : Int32)) % (192 : Int32)))))] [(.int (XT.cmpL u2 u2))]))
        refine OEnds.pre (fun t k => XS.ifNo H9.here hx rfl (hb hby at_141) rfl (XT.ll_ne_f rfl) k) ?_
        show OEnds p e below s _ _ _ (T9.setTop (mkF m 144 #[.val (.long u0), .second, .val (.long u1), .second, .val (.long u2), .second, .val (.int u3), .val (.ref b1), .val (.int ((u3 &&& (2147483647 : Int32)) % (192 : Int32))), .val (.long u1), .second, .val (.int (((u3 &&& (2147483647 : Int32)) % (192 : Int32)) - (64 : Int32))), .val (.int (0 : Int32)), .val (.int (fbit u1 (Int32.toInt64 ((u3 &&& (2147483647 : Int32)) % (192 : Int32)))))] []))
        refine OEnds.pre (fun t k => XT.iconstV H9.here hx rfl (1 : Int32) (hb hby at_144) rfl k) ?_
        show OEnds p e below s _ _ _ (T9.setTop (mkF m 145 #[.val (.long u0), .second, .val (.long u1), .second, .val (.long u2), .second, .val (.int u3), .val (.ref b1), .val (.int ((u3 &&& (2147483647 : Int32)) % (192 : Int32))), .val (.long u1), .second, .val (.int (((u3 &&& (2147483647 : Int32)) % (192 : Int32)) - (64 : Int32))), .val (.int (0 : Int32)), .val (.int (fbit u1 (Int32.toInt64 ((u3 &&& (2147483647 : Int32)) % (192 : Int32)))))] [(.int (1 : Int32))]))
        refine OEnds.pre (fun t k => XS.goto H9.here hx rfl (pc0 := 145) (pc' := 149) rfl (hb hby at_145) (by decide) (by decide) k) ?_
        show OEnds p e below s _ _ _ (T9.setTop (mkF m 149 #[.val (.long u0), .second, .val (.long u1), .second, .val (.long u2), .second, .val (.int u3), .val (.ref b1), .val (.int ((u3 &&& (2147483647 : Int32)) % (192 : Int32))), .val (.long u1), .second, .val (.int (((u3 &&& (2147483647 : Int32)) % (192 : Int32)) - (64 : Int32))), .val (.int (0 : Int32)), .val (.int (fbit u1 (Int32.toInt64 ((u3 &&& (2147483647 : Int32)) % (192 : Int32)))))] [(.int (1 : Int32))]))
        exact H9.nrw hx Bd.notSynchronized Bd.returns (by simp) (hb hby at_149) (by decide) (by decide) (fun h L W N => ⟨N, _, ⟨rfl, rfl⟩, W.nil⟩)
    · refine OEnds.pre (fun t k => XS.icmpYes H5.here hx rfl (pc0 := 51) (pc' := 67) rfl (hb hby at_51) rfl (XT.ii_ge_t c2) (by decide) (by decide) k) ?_
      show OEnds p e below s _ _ _ (T5.setTop (mkF m 67 #[.val (.long u0), .second, .val (.long u1), .second, .val (.long u2), .second, .val (.int u3), .val (.ref b1), .val (.int ((u3 &&& (2147483647 : Int32)) % (192 : Int32))), .unset, .unset, .unset, .unset, .unset] []))
      refine OEnds.pre (fun t k => XT.lload H5.here hx rfl (hb hby at_67) rfl k) ?_
      show OEnds p e below s _ _ _ (T5.setTop (mkF m 69 #[.val (.long u0), .second, .val (.long u1), .second, .val (.long u2), .second, .val (.int u3), .val (.ref b1), .val (.int ((u3 &&& (2147483647 : Int32)) % (192 : Int32))), .unset, .unset, .unset, .unset, .unset] [(.long u2)]))
      refine OEnds.pre (fun t k => XT.lstore H5.here hx rfl (hb hby at_69) rfl (l' := #[.val (.long u0), .second, .val (.long u1), .second, .val (.long u2), .second, .val (.int u3), .val (.ref b1), .val (.int ((u3 &&& (2147483647 : Int32)) % (192 : Int32))), .val (.long u2), .second, .unset, .unset, .unset]) rfl k) ?_
      show OEnds p e below s _ _ _ (T5.setTop (mkF m 71 #[.val (.long u0), .second, .val (.long u1), .second, .val (.long u2), .second, .val (.int u3), .val (.ref b1), .val (.int ((u3 &&& (2147483647 : Int32)) % (192 : Int32))), .val (.long u2), .second, .unset, .unset, .unset] []))
      refine OEnds.pre (fun t k => XS.iload H5.here hx rfl (hb hby at_71) rfl k) ?_
      show OEnds p e below s _ _ _ (T5.setTop (mkF m 73 #[.val (.long u0), .second, .val (.long u1), .second, .val (.long u2), .second, .val (.int u3), .val (.ref b1), .val (.int ((u3 &&& (2147483647 : Int32)) % (192 : Int32))), .val (.long u2), .second, .unset, .unset, .unset] [(.int ((u3 &&& (2147483647 : Int32)) % (192 : Int32)))]))
      refine OEnds.pre (fun t k => XT.sipushV H5.here hx rfl (128 : Int32) (hb hby at_73) rfl k) ?_
      show OEnds p e below s _ _ _ (T5.setTop (mkF m 76 #[.val (.long u0), .second, .val (.long u1), .second, .val (.long u2), .second, .val (.int u3), .val (.ref b1), .val (.int ((u3 &&& (2147483647 : Int32)) % (192 : Int32))), .val (.long u2), .second, .unset, .unset, .unset] [(.int (128 : Int32)), (.int ((u3 &&& (2147483647 : Int32)) % (192 : Int32)))]))
      refine OEnds.pre (fun t k => XS.isub H5.here hx rfl (hb hby at_76) rfl k) ?_
      show OEnds p e below s _ _ _ (T5.setTop (mkF m 77 #[.val (.long u0), .second, .val (.long u1), .second, .val (.long u2), .second, .val (.int u3), .val (.ref b1), .val (.int ((u3 &&& (2147483647 : Int32)) % (192 : Int32))), .val (.long u2), .second, .unset, .unset, .unset] [(.int (((u3 &&& (2147483647 : Int32)) % (192 : Int32)) - (128 : Int32)))]))
      refine OEnds.pre (fun t k => XS.istore H5.here hx rfl (hb hby at_77) rfl (l' := #[.val (.long u0), .second, .val (.long u1), .second, .val (.long u2), .second, .val (.int u3), .val (.ref b1), .val (.int ((u3 &&& (2147483647 : Int32)) % (192 : Int32))), .val (.long u2), .second, .val (.int (((u3 &&& (2147483647 : Int32)) % (192 : Int32)) - (128 : Int32))), .unset, .unset]) rfl k) ?_
      show OEnds p e below s _ _ _ (T5.setTop (mkF m 79 #[.val (.long u0), .second, .val (.long u1), .second, .val (.long u2), .second, .val (.int u3), .val (.ref b1), .val (.int ((u3 &&& (2147483647 : Int32)) % (192 : Int32))), .val (.long u2), .second, .val (.int (((u3 &&& (2147483647 : Int32)) % (192 : Int32)) - (128 : Int32))), .unset, .unset] []))
      refine OEnds.pre (fun t k => XT.lload H5.here hx rfl (hb hby at_79) rfl k) ?_
      show OEnds p e below s _ _ _ (T5.setTop (mkF m 81 #[.val (.long u0), .second, .val (.long u1), .second, .val (.long u2), .second, .val (.int u3), .val (.ref b1), .val (.int ((u3 &&& (2147483647 : Int32)) % (192 : Int32))), .val (.long u2), .second, .val (.int (((u3 &&& (2147483647 : Int32)) % (192 : Int32)) - (128 : Int32))), .unset, .unset] [(.long u2)]))
      refine OEnds.pre (fun t k => XT.bipushV H5.here hx rfl (63 : Int32) (hb hby at_81) rfl k) ?_
      show OEnds p e below s _ _ _ (T5.setTop (mkF m 83 #[.val (.long u0), .second, .val (.long u1), .second, .val (.long u2), .second, .val (.int u3), .val (.ref b1), .val (.int ((u3 &&& (2147483647 : Int32)) % (192 : Int32))), .val (.long u2), .second, .val (.int (((u3 &&& (2147483647 : Int32)) % (192 : Int32)) - (128 : Int32))), .unset, .unset] [(.int (63 : Int32)), (.long u2)]))
      refine OEnds.pre (fun t k => XS.iload H5.here hx rfl (hb hby at_83) rfl k) ?_
      show OEnds p e below s _ _ _ (T5.setTop (mkF m 85 #[.val (.long u0), .second, .val (.long u1), .second, .val (.long u2), .second, .val (.int u3), .val (.ref b1), .val (.int ((u3 &&& (2147483647 : Int32)) % (192 : Int32))), .val (.long u2), .second, .val (.int (((u3 &&& (2147483647 : Int32)) % (192 : Int32)) - (128 : Int32))), .unset, .unset] [(.int (((u3 &&& (2147483647 : Int32)) % (192 : Int32)) - (128 : Int32))), (.int (63 : Int32)), (.long u2)]))
      refine OEnds.pre (fun t k => XS.isub H5.here hx rfl (hb hby at_85) rfl k) ?_
      show OEnds p e below s _ _ _ (T5.setTop (mkF m 86 #[.val (.long u0), .second, .val (.long u1), .second, .val (.long u2), .second, .val (.int u3), .val (.ref b1), .val (.int ((u3 &&& (2147483647 : Int32)) % (192 : Int32))), .val (.long u2), .second, .val (.int (((u3 &&& (2147483647 : Int32)) % (192 : Int32)) - (128 : Int32))), .unset, .unset] [(.int ((63 : Int32) - (((u3 &&& (2147483647 : Int32)) % (192 : Int32)) - (128 : Int32)))), (.long u2)]))
      refine OEnds.pre (fun t k => XT.lshl H5.here hx rfl (hb hby at_86) rfl k) ?_
      show OEnds p e below s _ _ _ (T5.setTop (mkF m 87 #[.val (.long u0), .second, .val (.long u1), .second, .val (.long u2), .second, .val (.int u3), .val (.ref b1), .val (.int ((u3 &&& (2147483647 : Int32)) % (192 : Int32))), .val (.long u2), .second, .val (.int (((u3 &&& (2147483647 : Int32)) % (192 : Int32)) - (128 : Int32))), .unset, .unset] [(.long (u2 <<< (Int32.toInt64 ((63 : Int32) - (((u3 &&& (2147483647 : Int32)) % (192 : Int32)) - (128 : Int32))) &&& 63)))]))
      refine OEnds.pre (fun t k => XT.lconstV H5.here hx rfl (0 : Int64) (hb hby at_87) rfl k) ?_
      show OEnds p e below s _ _ _ (T5.setTop (mkF m 88 #[.val (.long u0), .second, .val (.long u1), .second, .val (.long u2), .second, .val (.int u3), .val (.ref b1), .val (.int ((u3 &&& (2147483647 : Int32)) % (192 : Int32))), .val (.long u2), .second, .val (.int (((u3 &&& (2147483647 : Int32)) % (192 : Int32)) - (128 : Int32))), .unset, .unset] [(.long (0 : Int64)), (.long (u2 <<< (Int32.toInt64 ((63 : Int32) - (((u3 &&& (2147483647 : Int32)) % (192 : Int32)) - (128 : Int32))) &&& 63)))]))
      refine OEnds.pre (fun t k => XT.lcmp H5.here hx rfl (hb hby at_88) rfl k) ?_
      show OEnds p e below s _ _ _ (T5.setTop (mkF m 89 #[.val (.long u0), .second, .val (.long u1), .second, .val (.long u2), .second, .val (.int u3), .val (.ref b1), .val (.int ((u3 &&& (2147483647 : Int32)) % (192 : Int32))), .val (.long u2), .second, .val (.int (((u3 &&& (2147483647 : Int32)) % (192 : Int32)) - (128 : Int32))), .unset, .unset] [(.int (XT.cmpL (u2 <<< (Int32.toInt64 ((63 : Int32) - (((u3 &&& (2147483647 : Int32)) % (192 : Int32)) - (128 : Int32))) &&& 63)) (0 : Int64)))]))
      by_cases c3 : (u2 <<< (Int32.toInt64 ((63 : Int32) - (((u3 &&& (2147483647 : Int32)) % (192 : Int32)) - (128 : Int32))) &&& 63)) < (0 : Int64)
      · refine OEnds.pre (fun t k => XS.ifNo H5.here hx rfl (hb hby at_89) rfl (XT.ll_ge_f c3) k) ?_
        show OEnds p e below s _ _ _ (T5.setTop (mkF m 92 #[.val (.long u0), .second, .val (.long u1), .second, .val (.long u2), .second, .val (.int u3), .val (.ref b1), .val (.int ((u3 &&& (2147483647 : Int32)) % (192 : Int32))), .val (.long u2), .second, .val (.int (((u3 &&& (2147483647 : Int32)) % (192 : Int32)) - (128 : Int32))), .unset, .unset] []))
        refine OEnds.pre (fun t k => XT.iconstV H5.here hx rfl (1 : Int32) (hb hby at_92) rfl k) ?_
        show OEnds p e below s _ _ _ (T5.setTop (mkF m 93 #[.val (.long u0), .second, .val (.long u1), .second, .val (.long u2), .second, .val (.int u3), .val (.ref b1), .val (.int ((u3 &&& (2147483647 : Int32)) % (192 : Int32))), .val (.long u2), .second, .val (.int (((u3 &&& (2147483647 : Int32)) % (192 : Int32)) - (128 : Int32))), .unset, .unset] [(.int (1 : Int32))]))
        refine OEnds.pre (fun t k => XS.goto H5.here hx rfl (pc0 := 93) (pc' := 97) rfl (hb hby at_93) (by decide) (by decide) k) ?_
        show OEnds p e below s _ _ _ (T5.setTop (mkF m 97 #[.val (.long u0), .second, .val (.long u1), .second, .val (.long u2), .second, .val (.int u3), .val (.ref b1), .val (.int ((u3 &&& (2147483647 : Int32)) % (192 : Int32))), .val (.long u2), .second, .val (.int (((u3 &&& (2147483647 : Int32)) % (192 : Int32)) - (128 : Int32))), .unset, .unset] [(.int (1 : Int32))]))
        refine OEnds.pre (fun t k => XS.istore H5.here hx rfl (hb hby at_97) rfl (l' := #[.val (.long u0), .second, .val (.long u1), .second, .val (.long u2), .second, .val (.int u3), .val (.ref b1), .val (.int ((u3 &&& (2147483647 : Int32)) % (192 : Int32))), .val (.long u2), .second, .val (.int (((u3 &&& (2147483647 : Int32)) % (192 : Int32)) - (128 : Int32))), .val (.int (1 : Int32)), .unset]) rfl k) ?_
        show OEnds p e below s _ _ _ (T5.setTop (mkF m 99 #[.val (.long u0), .second, .val (.long u1), .second, .val (.long u2), .second, .val (.int u3), .val (.ref b1), .val (.int ((u3 &&& (2147483647 : Int32)) % (192 : Int32))), .val (.long u2), .second, .val (.int (((u3 &&& (2147483647 : Int32)) % (192 : Int32)) - (128 : Int32))), .val (.int (1 : Int32)), .unset] []))
        refine OEnds.pre (fun t k => XS.aload H5.here hx rfl (hb hby at_99) rfl rfl k) ?_
        show OEnds p e below s _ _ _ (T5.setTop (mkF m 101 #[.val (.long u0), .second, .val (.long u1), .second, .val (.long u2), .second, .val (.int u3), .val (.ref b1), .val (.int ((u3 &&& (2147483647 : Int32)) % (192 : Int32))), .val (.long u2), .second, .val (.int (((u3 &&& (2147483647 : Int32)) % (192 : Int32)) - (128 : Int32))), .val (.int (1 : Int32)), .unset] [(.ref b1)]))
        refine OEnds.pre (fun t k => XS.iload H5.here hx rfl (hb hby at_101) rfl k) ?_
        show OEnds p e below s _ _ _ (T5.setTop (mkF m 103 #[.val (.long u0), .second, .val (.long u1), .second, .val (.long u2), .second, .val (.int u3), .val (.ref b1), .val (.int ((u3 &&& (2147483647 : Int32)) % (192 : Int32))), .val (.long u2), .second, .val (.int (((u3 &&& (2147483647 : Int32)) % (192 : Int32)) - (128 : Int32))), .val (.int (1 : Int32)), .unset] [(.int ((u3 &&& (2147483647 : Int32)) % (192 : Int32))), (.ref b1)]))
        refine OEnds.pre (fun t k => XT.i2l H5.here hx rfl (hb hby at_103) rfl k) ?_
        show OEnds p e below s _ _ _ (T5.setTop (mkF m 104 #[.val (.long u0), .second, .val (.long u1), .second, .val (.long u2), .second, .val (.int u3), .val (.ref b1), .val (.int ((u3 &&& (2147483647 : Int32)) % (192 : Int32))), .val (.long u2), .second, .val (.int (((u3 &&& (2147483647 : Int32)) % (192 : Int32)) - (128 : Int32))), .val (.int (1 : Int32)), .unset] [(.long (Int32.toInt64 ((u3 &&& (2147483647 : Int32)) % (192 : Int32)))), (.ref b1)]))
        obtain ⟨T10, _, _, ⟨rfl, rfl⟩, H10, st10⟩ := OHere.static H5 hx hZ (y := (⟨"com/example/syndral/syndral/code/Bits", "bit", "([JJ)Z"⟩ : MethodName)) (P := _) (W := 0) hown (hw _ (List.mem_of_getElem? (i := 2) rfl)) (hw _ (List.mem_of_getElem? (i := 3) rfl)) (hw _ (List.mem_of_getElem? (i := 4) rfl)) (hw _ (List.mem_of_getElem? (i := 5) rfl)) (by decide) (con1 l Z a0 hw n0 [] b1 (Int32.toInt64 ((u3 &&& (2147483647 : Int32)) % (192 : Int32))) [(eA b1 .long [(.long u0), (.long u1), (.long u2)])] 0 [.long u0, .long u1, .long u2] u2 2 rfl (blk2 u3 c1 c2).1 (blk2 u3 c1 c2).2 rfl) (by decide) (by decide) (pc := 104) (Ls := #[.val (.long u0), .second, .val (.long u1), .second, .val (.long u2), .second, .val (.int u3), .val (.ref b1), .val (.int ((u3 &&& (2147483647 : Int32)) % (192 : Int32))), .val (.long u2), .second, .val (.int (((u3 &&& (2147483647 : Int32)) % (192 : Int32)) - (128 : Int32))), .val (.int (1 : Int32)), .unset]) (argsL := [(.ref b1), (.long (Int32.toInt64 ((u3 &&& (2147483647 : Int32)) % (192 : Int32))))]) (rest := []) (by rw [hml]; rfl) (lenOf pd_oAJJcZ rfl) rfl (Nat.le_of_eq rfl) (hb hby at_104) (by decide) (by decide)
        replace H10 : OHere p l e _ s m _ below meth c Z n0 T10 1 3 [(eA b1 .long [(.long u0), (.long u1), (.long u2)])] := H10
        refine OEnds.pre (fun t k => st10 _ k) ?_
        show OEnds p e below s _ _ _ (T10.setTop (mkF m 107 #[.val (.long u0), .second, .val (.long u1), .second, .val (.long u2), .second, .val (.int u3), .val (.ref b1), .val (.int ((u3 &&& (2147483647 : Int32)) % (192 : Int32))), .val (.long u2), .second, .val (.int (((u3 &&& (2147483647 : Int32)) % (192 : Int32)) - (128 : Int32))), .val (.int (1 : Int32)), .unset] [(.int (fbit u2 (Int32.toInt64 ((u3 &&& (2147483647 : Int32)) % (192 : Int32)))))]))
        refine OEnds.pre (fun t k => XS.istore H10.here hx rfl (hb hby at_107) rfl (l' := #[.val (.long u0), .second, .val (.long u1), .second, .val (.long u2), .second, .val (.int u3), .val (.ref b1), .val (.int ((u3 &&& (2147483647 : Int32)) % (192 : Int32))), .val (.long u2), .second, .val (.int (((u3 &&& (2147483647 : Int32)) % (192 : Int32)) - (128 : Int32))), .val (.int (1 : Int32)), .val (.int (fbit u2 (Int32.toInt64 ((u3 &&& (2147483647 : Int32)) % (192 : Int32)))))]) rfl k) ?_
        show OEnds p e below s _ _ _ (T10.setTop (mkF m 109 #[.val (.long u0), .second, .val (.long u1), .second, .val (.long u2), .second, .val (.int u3), .val (.ref b1), .val (.int ((u3 &&& (2147483647 : Int32)) % (192 : Int32))), .val (.long u2), .second, .val (.int (((u3 &&& (2147483647 : Int32)) % (192 : Int32)) - (128 : Int32))), .val (.int (1 : Int32)), .val (.int (fbit u2 (Int32.toInt64 ((u3 &&& (2147483647 : Int32)) % (192 : Int32)))))] []))
        refine OEnds.pre (fun t k => XS.iload H10.here hx rfl (hb hby at_109) rfl k) ?_
        show OEnds p e below s _ _ _ (T10.setTop (mkF m 111 #[.val (.long u0), .second, .val (.long u1), .second, .val (.long u2), .second, .val (.int u3), .val (.ref b1), .val (.int ((u3 &&& (2147483647 : Int32)) % (192 : Int32))), .val (.long u2), .second, .val (.int (((u3 &&& (2147483647 : Int32)) % (192 : Int32)) - (128 : Int32))), .val (.int (1 : Int32)), .val (.int (fbit u2 (Int32.toInt64 ((u3 &&& (2147483647 : Int32)) % (192 : Int32)))))] [(.int (fbit u2 (Int32.toInt64 ((u3 &&& (2147483647 : Int32)) % (192 : Int32)))))]))
        refine OEnds.pre (fun t k => XS.iload H10.here hx rfl (hb hby at_111) rfl k) ?_
        show OEnds p e below s _ _ _ (T10.setTop (mkF m 113 #[.val (.long u0), .second, .val (.long u1), .second, .val (.long u2), .second, .val (.int u3), .val (.ref b1), .val (.int ((u3 &&& (2147483647 : Int32)) % (192 : Int32))), .val (.long u2), .second, .val (.int (((u3 &&& (2147483647 : Int32)) % (192 : Int32)) - (128 : Int32))), .val (.int (1 : Int32)), .val (.int (fbit u2 (Int32.toInt64 ((u3 &&& (2147483647 : Int32)) % (192 : Int32)))))] [(.int (1 : Int32)), (.int (fbit u2 (Int32.toInt64 ((u3 &&& (2147483647 : Int32)) % (192 : Int32)))))]))
        refine OEnds.pre (fun t k => XS.icmpNo H10.here hx rfl (hb hby at_113) rfl (XT.ii_ne_f (ft2 u3 u2 c1 c2 c3)) k) ?_
        show OEnds p e below s _ _ _ (T10.setTop (mkF m 116 #[.val (.long u0), .second, .val (.long u1), .second, .val (.long u2), .second, .val (.int u3), .val (.ref b1), .val (.int ((u3 &&& (2147483647 : Int32)) % (192 : Int32))), .val (.long u2), .second, .val (.int (((u3 &&& (2147483647 : Int32)) % (192 : Int32)) - (128 : Int32))), .val (.int (1 : Int32)), .val (.int (fbit u2 (Int32.toInt64 ((u3 &&& (2147483647 : Int32)) % (192 : Int32)))))] []))
        refine OEnds.pre (fun t k => XS.aload H10.here hx rfl (hb hby at_116) rfl rfl k) ?_
        show OEnds p e below s _ _ _ (T10.setTop (mkF m 118 #[.val (.long u0), .second, .val (.long u1), .second, .val (.long u2), .second, .val (.int u3), .val (.ref b1), .val (.int ((u3 &&& (2147483647 : Int32)) % (192 : Int32))), .val (.long u2), .second, .val (.int (((u3 &&& (2147483647 : Int32)) % (192 : Int32)) - (128 : Int32))), .val (.int (1 : Int32)), .val (.int (fbit u2 (Int32.toInt64 ((u3 &&& (2147483647 : Int32)) % (192 : Int32)))))] [(.ref b1)]))
        refine OEnds.pre (fun t k => XT.iconstV H10.here hx rfl (0 : Int32) (hb hby at_118) rfl k) ?_
        show OEnds p e below s _ _ _ (T10.setTop (mkF m 119 #[.val (.long u0), .second, .val (.long u1), .second, .val (.long u2), .second, .val (.int u3), .val (.ref b1), .val (.int ((u3 &&& (2147483647 : Int32)) % (192 : Int32))), .val (.long u2), .second, .val (.int (((u3 &&& (2147483647 : Int32)) % (192 : Int32)) - (128 : Int32))), .val (.int (1 : Int32)), .val (.int (fbit u2 (Int32.toInt64 ((u3 &&& (2147483647 : Int32)) % (192 : Int32)))))] [(.int (0 : Int32)), (.ref b1)]))
        refine OEnds.pre (fun t k => OHere.laload H10 hx hZ (q := 0) (i := 0) (vs := [(.long u0), (.long u1), (.long u2)]) (v := (.long u0)) rfl (by decide) (by decide) rfl (hb hby at_119) k) ?_
        show OEnds p e below s _ _ _ (T10.setTop (mkF m 120 #[.val (.long u0), .second, .val (.long u1), .second, .val (.long u2), .second, .val (.int u3), .val (.ref b1), .val (.int ((u3 &&& (2147483647 : Int32)) % (192 : Int32))), .val (.long u2), .second, .val (.int (((u3 &&& (2147483647 : Int32)) % (192 : Int32)) - (128 : Int32))), .val (.int (1 : Int32)), .val (.int (fbit u2 (Int32.toInt64 ((u3 &&& (2147483647 : Int32)) % (192 : Int32)))))] [(.long u0)]))
        refine OEnds.pre (fun t k => XT.lloadN H10.here hx rfl (hb hby at_120) rfl k) ?_
        show OEnds p e below s _ _ _ (T10.setTop (mkF m 121 #[.val (.long u0), .second, .val (.long u1), .second, .val (.long u2), .second, .val (.int u3), .val (.ref b1), .val (.int ((u3 &&& (2147483647 : Int32)) % (192 : Int32))), .val (.long u2), .second, .val (.int (((u3 &&& (2147483647 : Int32)) % (192 : Int32)) - (128 : Int32))), .val (.int (1 : Int32)), .val (.int (fbit u2 (Int32.toInt64 ((u3 &&& (2147483647 : Int32)) % (192 : Int32)))))] [(.long u0), (.long u0)]))
        refine OEnds.pre (fun t k => XT.lcmp H10.here hx rfl (hb hby at_121) rfl k) ?_
        show OEnds p e below s _ _ _ (T10.setTop (mkF m 122 #[.val (.long u0), .second, .val (.long u1), .second, .val (.long u2), .second, .val (.int u3), .val (.ref b1), .val (.int ((u3 &&& (2147483647 : Int32)) % (192 : Int32))), .val (.long u2), .second, .val (.int (((u3 &&& (2147483647 : Int32)) % (192 : Int32)) - (128 : Int32))), .val (.int (1 : Int32)), .val (.int (fbit u2 (Int32.toInt64 ((u3 &&& (2147483647 : Int32)) % (192 : Int32)))))] [(.int (XT.cmpL u0 u0))]))
        refine OEnds.pre (fun t k => XS.ifNo H10.here hx rfl (hb hby at_122) rfl (XT.ll_ne_f rfl) k) ?_
        show OEnds p e below s _ _ _ (T10.setTop (mkF m 125 #[.val (.long u0), .second, .val (.long u1), .second, .val (.long u2), .second, .val (.int u3), .val (.ref b1), .val (.int ((u3 &&& (2147483647 : Int32)) % (192 : Int32))), .val (.long u2), .second, .val (.int (((u3 &&& (2147483647 : Int32)) % (192 : Int32)) - (128 : Int32))), .val (.int (1 : Int32)), .val (.int (fbit u2 (Int32.toInt64 ((u3 &&& (2147483647 : Int32)) % (192 : Int32)))))] []))
        refine OEnds.pre (fun t k => XS.aload H10.here hx rfl (hb hby at_125) rfl rfl k) ?_
        show OEnds p e below s _ _ _ (T10.setTop (mkF m 127 #[.val (.long u0), .second, .val (.long u1), .second, .val (.long u2), .second, .val (.int u3), .val (.ref b1), .val (.int ((u3 &&& (2147483647 : Int32)) % (192 : Int32))), .val (.long u2), .second, .val (.int (((u3 &&& (2147483647 : Int32)) % (192 : Int32)) - (128 : Int32))), .val (.int (1 : Int32)), .val (.int (fbit u2 (Int32.toInt64 ((u3 &&& (2147483647 : Int32)) % (192 : Int32)))))] [(.ref b1)]))
        refine OEnds.pre (fun t k => XT.iconstV H10.here hx rfl (1 : Int32) (hb hby at_127) rfl k) ?_
        show OEnds p e below s _ _ _ (T10.setTop (mkF m 128 #[.val (.long u0), .second, .val (.long u1), .second, .val (.long u2), .second, .val (.int u3), .val (.ref b1), .val (.int ((u3 &&& (2147483647 : Int32)) % (192 : Int32))), .val (.long u2), .second, .val (.int (((u3 &&& (2147483647 : Int32)) % (192 : Int32)) - (128 : Int32))), .val (.int (1 : Int32)), .val (.int (fbit u2 (Int32.toInt64 ((u3 &&& (2147483647 : Int32)) % (192 : Int32)))))] [(.int (1 : Int32)), (.ref b1)]))
        refine OEnds.pre (fun t k => OHere.laload H10 hx hZ (q := 0) (i := 1) (vs := [(.long u0), (.long u1), (.long u2)]) (v := (.long u1)) rfl (by decide) (by decide) rfl (hb hby at_128) k) ?_
        show OEnds p e below s _ _ _ (T10.setTop (mkF m 129 #[.val (.long u0), .second, .val (.long u1), .second, .val (.long u2), .second, .val (.int u3), .val (.ref b1), .val (.int ((u3 &&& (2147483647 : Int32)) % (192 : Int32))), .val (.long u2), .second, .val (.int (((u3 &&& (2147483647 : Int32)) % (192 : Int32)) - (128 : Int32))), .val (.int (1 : Int32)), .val (.int (fbit u2 (Int32.toInt64 ((u3 &&& (2147483647 : Int32)) % (192 : Int32)))))] [(.long u1)]))
        refine OEnds.pre (fun t k => XT.lloadN H10.here hx rfl (hb hby at_129) rfl k) ?_
        show OEnds p e below s _ _ _ (T10.setTop (mkF m 130 #[.val (.long u0), .second, .val (.long u1), .second, .val (.long u2), .second, .val (.int u3), .val (.ref b1), .val (.int ((u3 &&& (2147483647 : Int32)) % (192 : Int32))), .val (.long u2), .second, .val (.int (((u3 &&& (2147483647 : Int32)) % (192 : Int32)) - (128 : Int32))), .val (.int (1 : Int32)), .val (.int (fbit u2 (Int32.toInt64 ((u3 &&& (2147483647 : Int32)) % (192 : Int32)))))] [(.long u1), (.long u1)]))
        refine OEnds.pre (fun t k => XT.lcmp H10.here hx rfl (hb hby at_130) rfl k) ?_
        show OEnds p e below s _ _ _ (T10.setTop (mkF m 131 #[.val (.long u0), .second, .val (.long u1), .second, .val (.long u2), .second, .val (.int u3), .val (.ref b1), .val (.int ((u3 &&& (2147483647 : Int32)) % (192 : Int32))), .val (.long u2), .second, .val (.int (((u3 &&& (2147483647 : Int32)) % (192 : Int32)) - (128 : Int32))), .val (.int (1 : Int32)), .val (.int (fbit u2 (Int32.toInt64 ((u3 &&& (2147483647 : Int32)) % (192 : Int32)))))] [(.int (XT.cmpL u1 u1))]))
        refine OEnds.pre (fun t k => XS.ifNo H10.here hx rfl (hb hby at_131) rfl (XT.ll_ne_f rfl) k) ?_
        show OEnds p e below s _ _ _ (T10.setTop (mkF m 134 #[.val (.long u0), .second, .val (.long u1), .second, .val (.long u2), .second, .val (.int u3), .val (.ref b1), .val (.int ((u3 &&& (2147483647 : Int32)) % (192 : Int32))), .val (.long u2), .second, .val (.int (((u3 &&& (2147483647 : Int32)) % (192 : Int32)) - (128 : Int32))), .val (.int (1 : Int32)), .val (.int (fbit u2 (Int32.toInt64 ((u3 &&& (2147483647 : Int32)) % (192 : Int32)))))] []))
        refine OEnds.pre (fun t k => XS.aload H10.here hx rfl (hb hby at_134) rfl rfl k) ?_
        show OEnds p e below s _ _ _ (T10.setTop (mkF m 136 #[.val (.long u0), .second, .val (.long u1), .second, .val (.long u2), .second, .val (.int u3), .val (.ref b1), .val (.int ((u3 &&& (2147483647 : Int32)) % (192 : Int32))), .val (.long u2), .second, .val (.int (((u3 &&& (2147483647 : Int32)) % (192 : Int32)) - (128 : Int32))), .val (.int (1 : Int32)), .val (.int (fbit u2 (Int32.toInt64 ((u3 &&& (2147483647 : Int32)) % (192 : Int32)))))] [(.ref b1)]))
        refine OEnds.pre (fun t k => XT.iconstV H10.here hx rfl (2 : Int32) (hb hby at_136) rfl k) ?_
        show OEnds p e below s _ _ _ (T10.setTop (mkF m 137 #[.val (.long u0), .second, .val (.long u1), .second, .val (.long u2), .second, .val (.int u3), .val (.ref b1), .val (.int ((u3 &&& (2147483647 : Int32)) % (192 : Int32))), .val (.long u2), .second, .val (.int (((u3 &&& (2147483647 : Int32)) % (192 : Int32)) - (128 : Int32))), .val (.int (1 : Int32)), .val (.int (fbit u2 (Int32.toInt64 ((u3 &&& (2147483647 : Int32)) % (192 : Int32)))))] [(.int (2 : Int32)), (.ref b1)]))
        refine OEnds.pre (fun t k => OHere.laload H10 hx hZ (q := 0) (i := 2) (vs := [(.long u0), (.long u1), (.long u2)]) (v := (.long u2)) rfl (by decide) (by decide) rfl (hb hby at_137) k) ?_
        show OEnds p e below s _ _ _ (T10.setTop (mkF m 138 #[.val (.long u0), .second, .val (.long u1), .second, .val (.long u2), .second, .val (.int u3), .val (.ref b1), .val (.int ((u3 &&& (2147483647 : Int32)) % (192 : Int32))), .val (.long u2), .second, .val (.int (((u3 &&& (2147483647 : Int32)) % (192 : Int32)) - (128 : Int32))), .val (.int (1 : Int32)), .val (.int (fbit u2 (Int32.toInt64 ((u3 &&& (2147483647 : Int32)) % (192 : Int32)))))] [(.long u2)]))
        refine OEnds.pre (fun t k => XT.lload H10.here hx rfl (hb hby at_138) rfl k) ?_
        show OEnds p e below s _ _ _ (T10.setTop (mkF m 140 #[.val (.long u0), .second, .val (.long u1), .second, .val (.long u2), .second, .val (.int u3), .val (.ref b1), .val (.int ((u3 &&& (2147483647 : Int32)) % (192 : Int32))), .val (.long u2), .second, .val (.int (((u3 &&& (2147483647 : Int32)) % (192 : Int32)) - (128 : Int32))), .val (.int (1 : Int32)), .val (.int (fbit u2 (Int32.toInt64 ((u3 &&& (2147483647 : Int32)) % (192 : Int32)))))] [(.long u2), (.long u2)]))
        refine OEnds.pre (fun t k => XT.lcmp H10.here hx rfl (hb hby at_140) rfl k) ?_
        show OEnds p e below s _ _ _ (T10.setTop (mkF m 141 #[.val (.long u0), .second, .val (.long u1), .second, .val (.long u2), .second, .val (.int u3), .val (.ref b1), .val (.int ((u3 &&& (2147483647 : Int32)) % (192 : Int32))), .val (.long u2), .second, .val (.int (((u3 &&& (2147483647 : Int32)) % (192 : Int32)) - (128 : Int32))), .val (.int (1 : Int32)), .val (.int (fbit u2 (Int32.toInt64 ((u3 &&& (2147483647 : Int32)) % (192 : Int32)))))] [(.int (XT.cmpL u2 u2))]))
        refine OEnds.pre (fun t k => XS.ifNo H10.here hx rfl (hb hby at_141) rfl (XT.ll_ne_f rfl) k) ?_
        show OEnds p e below s _ _ _ (T10.setTop (mkF m 144 #[.val (.long u0), .second, .val (.long u1), .second, .val (.long u2), .second, .val (.int u3), .val (.ref b1), .val (.int ((u3 &&& (2147483647 : Int32)) % (192 : Int32))), .val (.long u2), .second, .val (.int (((u3 &&& (2147483647 : Int32)) % (192 : Int32)) - (128 : Int32))), .val (.int (1 : Int32)), .val (.int (fbit u2 (Int32.toInt64 ((u3 &&& (2147483647 : Int32)) % (192 : Int32)))))] []))
        refine OEnds.pre (fun t k => XT.iconstV H10.here hx rfl (1 : Int32) (hb hby at_144) rfl k) ?_
        show OEnds p e below s _ _ _ (T10.setTop (mkF m 145 #[.val (.long u0), .second, .val (.long u1), .second, .val (.long u2), .second, .val (.int u3), .val (.ref b1), .val (.int ((u3 &&& (2147483647 : Int32)) % (192 : Int32))), .val (.long u2), .second, .val (.int (((u3 &&& (2147483647 : Int32)) % (192 : Int32)) - (128 : Int32))), .val (.int (1 : Int32)), .val (.int (fbit u2 (Int32.toInt64 ((u3 &&& (2147483647 : Int32)) % (192 : Int32)))))] [(.int (1 : Int32))]))
        refine OEnds.pre (fun t k => XS.goto H10.here hx rfl (pc0 := 145) (pc' := 149) rfl (hb hby at_145) (by decide) (by decide) k) ?_
        show OEnds p e below s _ _ _ (T10.setTop (mkF m 149 #[.val (.long u0), .second, .val (.long u1), .second, .val (.long u2), .second, .val (.int u3), .val (.ref b1), .val (.int ((u3 &&& (2147483647 : Int32)) % (192 : Int32))), .val (.long u2), .second, .val (.int (((u3 &&& (2147483647 : Int32)) % (192 : Int32)) - (128 : Int32))), .val (.int (1 : Int32)), .val (.int (fbit u2 (Int32.toInt64 ((u3 &&& (2147483647 : Int32)) % (192 : Int32)))))] [(.int (1 : Int32))]))
        exact H10.nrw hx Bd.notSynchronized Bd.returns (by simp) (hb hby at_149) (by decide) (by decide) (fun h L W N => ⟨N, _, ⟨rfl, rfl⟩, W.nil⟩)
      · refine OEnds.pre (fun t k => XS.ifYes H5.here hx rfl (pc0 := 89) (pc' := 96) rfl (hb hby at_89) rfl (XT.ll_ge_t c3) (by decide) (by decide) k) ?_
        show OEnds p e below s _ _ _ (T5.setTop (mkF m 96 #[.val (.long u0), .second, .val (.long u1), .second, .val (.long u2), .second, .val (.int u3), .val (.ref b1), .val (.int ((u3 &&& (2147483647 : Int32)) % (192 : Int32))), .val (.long u2), .second, .val (.int (((u3 &&& (2147483647 : Int32)) % (192 : Int32)) - (128 : Int32))), .unset, .unset] []))
        refine OEnds.pre (fun t k => XT.iconstV H5.here hx rfl (0 : Int32) (hb hby at_96) rfl k) ?_
        show OEnds p e below s _ _ _ (T5.setTop (mkF m 97 #[.val (.long u0), .second, .val (.long u1), .second, .val (.long u2), .second, .val (.int u3), .val (.ref b1), .val (.int ((u3 &&& (2147483647 : Int32)) % (192 : Int32))), .val (.long u2), .second, .val (.int (((u3 &&& (2147483647 : Int32)) % (192 : Int32)) - (128 : Int32))), .unset, .unset] [(.int (0 : Int32))]))
        refine OEnds.pre (fun t k => XS.istore H5.here hx rfl (hb hby at_97) rfl (l' := #[.val (.long u0), .second, .val (.long u1), .second, .val (.long u2), .second, .val (.int u3), .val (.ref b1), .val (.int ((u3 &&& (2147483647 : Int32)) % (192 : Int32))), .val (.long u2), .second, .val (.int (((u3 &&& (2147483647 : Int32)) % (192 : Int32)) - (128 : Int32))), .val (.int (0 : Int32)), .unset]) rfl k) ?_
        show OEnds p e below s _ _ _ (T5.setTop (mkF m 99 #[.val (.long u0), .second, .val (.long u1), .second, .val (.long u2), .second, .val (.int u3), .val (.ref b1), .val (.int ((u3 &&& (2147483647 : Int32)) % (192 : Int32))), .val (.long u2), .second, .val (.int (((u3 &&& (2147483647 : Int32)) % (192 : Int32)) - (128 : Int32))), .val (.int (0 : Int32)), .unset] []))
        refine OEnds.pre (fun t k => XS.aload H5.here hx rfl (hb hby at_99) rfl rfl k) ?_
        show OEnds p e below s _ _ _ (T5.setTop (mkF m 101 #[.val (.long u0), .second, .val (.long u1), .second, .val (.long u2), .second, .val (.int u3), .val (.ref b1), .val (.int ((u3 &&& (2147483647 : Int32)) % (192 : Int32))), .val (.long u2), .second, .val (.int (((u3 &&& (2147483647 : Int32)) % (192 : Int32)) - (128 : Int32))), .val (.int (0 : Int32)), .unset] [(.ref b1)]))
        refine OEnds.pre (fun t k => XS.iload H5.here hx rfl (hb hby at_101) rfl k) ?_
        show OEnds p e below s _ _ _ (T5.setTop (mkF m 103 #[.val (.long u0), .second, .val (.long u1), .second, .val (.long u2), .second, .val (.int u3), .val (.ref b1), .val (.int ((u3 &&& (2147483647 : Int32)) % (192 : Int32))), .val (.long u2), .second, .val (.int (((u3 &&& (2147483647 : Int32)) % (192 : Int32)) - (128 : Int32))), .val (.int (0 : Int32)), .unset] [(.int ((u3 &&& (2147483647 : Int32)) % (192 : Int32))), (.ref b1)]))
        refine OEnds.pre (fun t k => XT.i2l H5.here hx rfl (hb hby at_103) rfl k) ?_
        show OEnds p e below s _ _ _ (T5.setTop (mkF m 104 #[.val (.long u0), .second, .val (.long u1), .second, .val (.long u2), .second, .val (.int u3), .val (.ref b1), .val (.int ((u3 &&& (2147483647 : Int32)) % (192 : Int32))), .val (.long u2), .second, .val (.int (((u3 &&& (2147483647 : Int32)) % (192 : Int32)) - (128 : Int32))), .val (.int (0 : Int32)), .unset] [(.long (Int32.toInt64 ((u3 &&& (2147483647 : Int32)) % (192 : Int32)))), (.ref b1)]))
        obtain ⟨T11, _, _, ⟨rfl, rfl⟩, H11, st11⟩ := OHere.static H5 hx hZ (y := (⟨"com/example/syndral/syndral/code/Bits", "bit", "([JJ)Z"⟩ : MethodName)) (P := _) (W := 0) hown (hw _ (List.mem_of_getElem? (i := 2) rfl)) (hw _ (List.mem_of_getElem? (i := 3) rfl)) (hw _ (List.mem_of_getElem? (i := 4) rfl)) (hw _ (List.mem_of_getElem? (i := 5) rfl)) (by decide) (con1 l Z a0 hw n0 [] b1 (Int32.toInt64 ((u3 &&& (2147483647 : Int32)) % (192 : Int32))) [(eA b1 .long [(.long u0), (.long u1), (.long u2)])] 0 [.long u0, .long u1, .long u2] u2 2 rfl (blk2 u3 c1 c2).1 (blk2 u3 c1 c2).2 rfl) (by decide) (by decide) (pc := 104) (Ls := #[.val (.long u0), .second, .val (.long u1), .second, .val (.long u2), .second, .val (.int u3), .val (.ref b1), .val (.int ((u3 &&& (2147483647 : Int32)) % (192 : Int32))), .val (.long u2), .second, .val (.int (((u3 &&& (2147483647 : Int32)) % (192 : Int32)) - (128 : Int32))), .val (.int (0 : Int32)), .unset]) (argsL := [(.ref b1), (.long (Int32.toInt64 ((u3 &&& (2147483647 : Int32)) % (192 : Int32))))]) (rest := []) (by rw [hml]; rfl) (lenOf pd_oAJJcZ rfl) rfl (Nat.le_of_eq rfl) (hb hby at_104) (by decide) (by decide)
        replace H11 : OHere p l e _ s m _ below meth c Z n0 T11 1 3 [(eA b1 .long [(.long u0), (.long u1), (.long u2)])] := H11
        refine OEnds.pre (fun t k => st11 _ k) ?_
        show OEnds p e below s _ _ _ (T11.setTop (mkF m 107 #[.val (.long u0), .second, .val (.long u1), .second, .val (.long u2), .second, .val (.int u3), .val (.ref b1), .val (.int ((u3 &&& (2147483647 : Int32)) % (192 : Int32))), .val (.long u2), .second, .val (.int (((u3 &&& (2147483647 : Int32)) % (192 : Int32)) - (128 : Int32))), .val (.int (0 : Int32)), .unset] [(.int (fbit u2 (Int32.toInt64 ((u3 &&& (2147483647 : Int32)) % (192 : Int32)))))]))
        refine OEnds.pre (fun t k => XS.istore H11.here hx rfl (hb hby at_107) rfl (l' := #[.val (.long u0), .second, .val (.long u1), .second, .val (.long u2), .second, .val (.int u3), .val (.ref b1), .val (.int ((u3 &&& (2147483647 : Int32)) % (192 : Int32))), .val (.long u2), .second, .val (.int (((u3 &&& (2147483647 : Int32)) % (192 : Int32)) - (128 : Int32))), .val (.int (0 : Int32)), .val (.int (fbit u2 (Int32.toInt64 ((u3 &&& (2147483647 : Int32)) % (192 : Int32)))))]) rfl k) ?_
        show OEnds p e below s _ _ _ (T11.setTop (mkF m 109 #[.val (.long u0), .second, .val (.long u1), .second, .val (.long u2), .second, .val (.int u3), .val (.ref b1), .val (.int ((u3 &&& (2147483647 : Int32)) % (192 : Int32))), .val (.long u2), .second, .val (.int (((u3 &&& (2147483647 : Int32)) % (192 : Int32)) - (128 : Int32))), .val (.int (0 : Int32)), .val (.int (fbit u2 (Int32.toInt64 ((u3 &&& (2147483647 : Int32)) % (192 : Int32)))))] []))
        refine OEnds.pre (fun t k => XS.iload H11.here hx rfl (hb hby at_109) rfl k) ?_
        show OEnds p e below s _ _ _ (T11.setTop (mkF m 111 #[.val (.long u0), .second, .val (.long u1), .second, .val (.long u2), .second, .val (.int u3), .val (.ref b1), .val (.int ((u3 &&& (2147483647 : Int32)) % (192 : Int32))), .val (.long u2), .second, .val (.int (((u3 &&& (2147483647 : Int32)) % (192 : Int32)) - (128 : Int32))), .val (.int (0 : Int32)), .val (.int (fbit u2 (Int32.toInt64 ((u3 &&& (2147483647 : Int32)) % (192 : Int32)))))] [(.int (fbit u2 (Int32.toInt64 ((u3 &&& (2147483647 : Int32)) % (192 : Int32)))))]))
        refine OEnds.pre (fun t k => XS.iload H11.here hx rfl (hb hby at_111) rfl k) ?_
        show OEnds p e below s _ _ _ (T11.setTop (mkF m 113 #[.val (.long u0), .second, .val (.long u1), .second, .val (.long u2), .second, .val (.int u3), .val (.ref b1), .val (.int ((u3 &&& (2147483647 : Int32)) % (192 : Int32))), .val (.long u2), .second, .val (.int (((u3 &&& (2147483647 : Int32)) % (192 : Int32)) - (128 : Int32))), .val (.int (0 : Int32)), .val (.int (fbit u2 (Int32.toInt64 ((u3 &&& (2147483647 : Int32)) % (192 : Int32)))))] [(.int (0 : Int32)), (.int (fbit u2 (Int32.toInt64 ((u3 &&& (2147483647 : Int32)) % (192 : Int32)))))]))
        refine OEnds.pre (fun t k => XS.icmpNo H11.here hx rfl (hb hby at_113) rfl (XT.ii_ne_f (ff2 u3 u2 c1 c2 c3)) k) ?_
        show OEnds p e below s _ _ _ (T11.setTop (mkF m 116 #[.val (.long u0), .second, .val (.long u1), .second, .val (.long u2), .second, .val (.int u3), .val (.ref b1), .val (.int ((u3 &&& (2147483647 : Int32)) % (192 : Int32))), .val (.long u2), .second, .val (.int (((u3 &&& (2147483647 : Int32)) % (192 : Int32)) - (128 : Int32))), .val (.int (0 : Int32)), .val (.int (fbit u2 (Int32.toInt64 ((u3 &&& (2147483647 : Int32)) % (192 : Int32)))))] []))
        refine OEnds.pre (fun t k => XS.aload H11.here hx rfl (hb hby at_116) rfl rfl k) ?_
        show OEnds p e below s _ _ _ (T11.setTop (mkF m 118 #[.val (.long u0), .second, .val (.long u1), .second, .val (.long u2), .second, .val (.int u3), .val (.ref b1), .val (.int ((u3 &&& (2147483647 : Int32)) % (192 : Int32))), .val (.long u2), .second, .val (.int (((u3 &&& (2147483647 : Int32)) % (192 : Int32)) - (128 : Int32))), .val (.int (0 : Int32)), .val (.int (fbit u2 (Int32.toInt64 ((u3 &&& (2147483647 : Int32)) % (192 : Int32)))))] [(.ref b1)]))
        refine OEnds.pre (fun t k => XT.iconstV H11.here hx rfl (0 : Int32) (hb hby at_118) rfl k) ?_
        show OEnds p e below s _ _ _ (T11.setTop (mkF m 119 #[.val (.long u0), .second, .val (.long u1), .second, .val (.long u2), .second, .val (.int u3), .val (.ref b1), .val (.int ((u3 &&& (2147483647 : Int32)) % (192 : Int32))), .val (.long u2), .second, .val (.int (((u3 &&& (2147483647 : Int32)) % (192 : Int32)) - (128 : Int32))), .val (.int (0 : Int32)), .val (.int (fbit u2 (Int32.toInt64 ((u3 &&& (2147483647 : Int32)) % (192 : Int32)))))] [(.int (0 : Int32)), (.ref b1)]))
        refine OEnds.pre (fun t k => OHere.laload H11 hx hZ (q := 0) (i := 0) (vs := [(.long u0), (.long u1), (.long u2)]) (v := (.long u0)) rfl (by decide) (by decide) rfl (hb hby at_119) k) ?_
        show OEnds p e below s _ _ _ (T11.setTop (mkF m 120 #[.val (.long u0), .second, .val (.long u1), .second, .val (.long u2), .second, .val (.int u3), .val (.ref b1), .val (.int ((u3 &&& (2147483647 : Int32)) % (192 : Int32))), .val (.long u2), .second, .val (.int (((u3 &&& (2147483647 : Int32)) % (192 : Int32)) - (128 : Int32))), .val (.int (0 : Int32)), .val (.int (fbit u2 (Int32.toInt64 ((u3 &&& (2147483647 : Int32)) % (192 : Int32)))))] [(.long u0)]))
        refine OEnds.pre (fun t k => XT.lloadN H11.here hx rfl (hb hby at_120) rfl k) ?_
        show OEnds p e below s _ _ _ (T11.setTop (mkF m 121 #[.val (.long u0), .second, .val (.long u1), .second, .val (.long u2), .second, .val (.int u3), .val (.ref b1), .val (.int ((u3 &&& (2147483647 : Int32)) % (192 : Int32))), .val (.long u2), .second, .val (.int (((u3 &&& (2147483647 : Int32)) % (192 : Int32)) - (128 : Int32))), .val (.int (0 : Int32)), .val (.int (fbit u2 (Int32.toInt64 ((u3 &&& (2147483647 : Int32)) % (192 : Int32)))))] [(.long u0), (.long u0)]))
        refine OEnds.pre (fun t k => XT.lcmp H11.here hx rfl (hb hby at_121) rfl k) ?_
        show OEnds p e below s _ _ _ (T11.setTop (mkF m 122 #[.val (.long u0), .second, .val (.long u1), .second, .val (.long u2), .second, .val (.int u3), .val (.ref b1), .val (.int ((u3 &&& (2147483647 : Int32)) % (192 : Int32))), .val (.long u2), .second, .val (.int (((u3 &&& (2147483647 : Int32)) % (192 : Int32)) - (128 : Int32))), .val (.int (0 : Int32)), .val (.int (fbit u2 (Int32.toInt64 ((u3 &&& (2147483647 : Int32)) % (192 : Int32)))))] [(.int (XT.cmpL u0 u0))]))
        refine OEnds.pre (fun t k => XS.ifNo H11.here hx rfl (hb hby at_122) rfl (XT.ll_ne_f rfl) k) ?_
        show OEnds p e below s _ _ _ (T11.setTop (mkF m 125 #[.val (.long u0), .second, .val (.long u1), .second, .val (.long u2), .second, .val (.int u3), .val (.ref b1), .val (.int ((u3 &&& (2147483647 : Int32)) % (192 : Int32))), .val (.long u2), .second, .val (.int (((u3 &&& (2147483647 : Int32)) % (192 : Int32)) - (128 : Int32))), .val (.int (0 : Int32)), .val (.int (fbit u2 (Int32.toInt64 ((u3 &&& (2147483647 : Int32)) % (192 : Int32)))))] []))
        refine OEnds.pre (fun t k => XS.aload H11.here hx rfl (hb hby at_125) rfl rfl k) ?_
        show OEnds p e below s _ _ _ (T11.setTop (mkF m 127 #[.val (.long u0), .second, .val (.long u1), .second, .val (.long u2), .second, .val (.int u3), .val (.ref b1), .val (.int ((u3 &&& (2147483647 : Int32)) % (192 : Int32))), .val (.long u2), .second, .val (.int (((u3 &&& (2147483647 : Int32)) % (192 : Int32)) - (128 : Int32))), .val (.int (0 : Int32)), .val (.int (fbit u2 (Int32.toInt64 ((u3 &&& (2147483647 : Int32)) % (192 : Int32)))))] [(.ref b1)]))
        refine OEnds.pre (fun t k => XT.iconstV H11.here hx rfl (1 : Int32) (hb hby at_127) rfl k) ?_
        show OEnds p e below s _ _ _ (T11.setTop (mkF m 128 #[.val (.long u0), .second, .val (.long u1), .second, .val (.long u2), .second, .val (.int u3), .val (.ref b1), .val (.int ((u3 &&& (2147483647 : Int32)) % (192 : Int32))), .val (.long u2), .second, .val (.int (((u3 &&& (2147483647 : Int32)) % (192 : Int32)) - (128 : Int32))), .val (.int (0 : Int32)), .val (.int (fbit u2 (Int32.toInt64 ((u3 &&& (2147483647 : Int32)) % (192 : Int32)))))] [(.int (1 : Int32)), (.ref b1)]))
        refine OEnds.pre (fun t k => OHere.laload H11 hx hZ (q := 0) (i := 1) (vs := [(.long u0), (.long u1), (.long u2)]) (v := (.long u1)) rfl (by decide) (by decide) rfl (hb hby at_128) k) ?_
        show OEnds p e below s _ _ _ (T11.setTop (mkF m 129 #[.val (.long u0), .second, .val (.long u1), .second, .val (.long u2), .second, .val (.int u3), .val (.ref b1), .val (.int ((u3 &&& (2147483647 : Int32)) % (192 : Int32))), .val (.long u2), .second, .val (.int (((u3 &&& (2147483647 : Int32)) % (192 : Int32)) - (128 : Int32))), .val (.int (0 : Int32)), .val (.int (fbit u2 (Int32.toInt64 ((u3 &&& (2147483647 : Int32)) % (192 : Int32)))))] [(.long u1)]))
        refine OEnds.pre (fun t k => XT.lloadN H11.here hx rfl (hb hby at_129) rfl k) ?_
        show OEnds p e below s _ _ _ (T11.setTop (mkF m 130 #[.val (.long u0), .second, .val (.long u1), .second, .val (.long u2), .second, .val (.int u3), .val (.ref b1), .val (.int ((u3 &&& (2147483647 : Int32)) % (192 : Int32))), .val (.long u2), .second, .val (.int (((u3 &&& (2147483647 : Int32)) % (192 : Int32)) - (128 : Int32))), .val (.int (0 : Int32)), .val (.int (fbit u2 (Int32.toInt64 ((u3 &&& (2147483647 : Int32)) % (192 : Int32)))))] [(.long u1), (.long u1)]))
        refine OEnds.pre (fun t k => XT.lcmp H11.here hx rfl (hb hby at_130) rfl k) ?_
        show OEnds p e below s _ _ _ (T11.setTop (mkF m 131 #[.val (.long u0), .second, .val (.long u1), .second, .val (.long u2), .second, .val (.int u3), .val (.ref b1), .val (.int ((u3 &&& (2147483647 : Int32)) % (192 : Int32))), .val (.long u2), .second, .val (.int (((u3 &&& (2147483647 : Int32)) % (192 : Int32)) - (128 : Int32))), .val (.int (0 : Int32)), .val (.int (fbit u2 (Int32.toInt64 ((u3 &&& (2147483647 : Int32)) % (192 : Int32)))))] [(.int (XT.cmpL u1 u1))]))
        refine OEnds.pre (fun t k => XS.ifNo H11.here hx rfl (hb hby at_131) rfl (XT.ll_ne_f rfl) k) ?_
        show OEnds p e below s _ _ _ (T11.setTop (mkF m 134 #[.val (.long u0), .second, .val (.long u1), .second, .val (.long u2), .second, .val (.int u3), .val (.ref b1), .val (.int ((u3 &&& (2147483647 : Int32)) % (192 : Int32))), .val (.long u2), .second, .val (.int (((u3 &&& (2147483647 : Int32)) % (192 : Int32)) - (128 : Int32))), .val (.int (0 : Int32)), .val (.int (fbit u2 (Int32.toInt64 ((u3 &&& (2147483647 : Int32)) % (192 : Int32)))))] []))
        refine OEnds.pre (fun t k => XS.aload H11.here hx rfl (hb hby at_134) rfl rfl k) ?_
        show OEnds p e below s _ _ _ (T11.setTop (mkF m 136 #[.val (.long u0), .second, .val (.long u1), .second, .val (.long u2), .second, .val (.int u3), .val (.ref b1), .val (.int ((u3 &&& (2147483647 : Int32)) % (192 : Int32))), .val (.long u2), .second, .val (.int (((u3 &&& (2147483647 : Int32)) % (192 : Int32)) - (128 : Int32))), .val (.int (0 : Int32)), .val (.int (fbit u2 (Int32.toInt64 ((u3 &&& (2147483647 : Int32)) % (192 : Int32)))))] [(.ref b1)]))
        refine OEnds.pre (fun t k => XT.iconstV H11.here hx rfl (2 : Int32) (hb hby at_136) rfl k) ?_
        show OEnds p e below s _ _ _ (T11.setTop (mkF m 137 #[.val (.long u0), .second, .val (.long u1), .second, .val (.long u2), .second, .val (.int u3), .val (.ref b1), .val (.int ((u3 &&& (2147483647 : Int32)) % (192 : Int32))), .val (.long u2), .second, .val (.int (((u3 &&& (2147483647 : Int32)) % (192 : Int32)) - (128 : Int32))), .val (.int (0 : Int32)), .val (.int (fbit u2 (Int32.toInt64 ((u3 &&& (2147483647 : Int32)) % (192 : Int32)))))] [(.int (2 : Int32)), (.ref b1)]))
        refine OEnds.pre (fun t k => OHere.laload H11 hx hZ (q := 0) (i := 2) (vs := [(.long u0), (.long u1), (.long u2)]) (v := (.long u2)) rfl (by decide) (by decide) rfl (hb hby at_137) k) ?_
        show OEnds p e below s _ _ _ (T11.setTop (mkF m 138 #[.val (.long u0), .second, .val (.long u1), .second, .val (.long u2), .second, .val (.int u3), .val (.ref b1), .val (.int ((u3 &&& (2147483647 : Int32)) % (192 : Int32))), .val (.long u2), .second, .val (.int (((u3 &&& (2147483647 : Int32)) % (192 : Int32)) - (128 : Int32))), .val (.int (0 : Int32)), .val (.int (fbit u2 (Int32.toInt64 ((u3 &&& (2147483647 : Int32)) % (192 : Int32)))))] [(.long u2)]))
        refine OEnds.pre (fun t k => XT.lload H11.here hx rfl (hb hby at_138) rfl k) ?_
        show OEnds p e below s _ _ _ (T11.setTop (mkF m 140 #[.val (.long u0), .second, .val (.long u1), .second, .val (.long u2), .second, .val (.int u3), .val (.ref b1), .val (.int ((u3 &&& (2147483647 : Int32)) % (192 : Int32))), .val (.long u2), .second, .val (.int (((u3 &&& (2147483647 : Int32)) % (192 : Int32)) - (128 : Int32))), .val (.int (0 : Int32)), .val (.int (fbit u2 (Int32.toInt64 ((u3 &&& (2147483647 : Int32)) % (192 : Int32)))))] [(.long u2), (.long u2)]))
        refine OEnds.pre (fun t k => XT.lcmp H11.here hx rfl (hb hby at_140) rfl k) ?_
        show OEnds p e below s _ _ _ (T11.setTop (mkF m 141 #[.val (.long u0), .second, .val (.long u1), .second, .val (.long u2), .second, .val (.int u3), .val (.ref b1), .val (.int ((u3 &&& (2147483647 : Int32)) % (192 : Int32))), .val (.long u2), .second, .val (.int (((u3 &&& (2147483647 : Int32)) % (192 : Int32)) - (128 : Int32))), .val (.int (0 : Int32)), .val (.int (fbit u2 (Int32.toInt64 ((u3 &&& (2147483647 : Int32)) % (192 : Int32)))))] [(.int (XT.cmpL u2 u2))]))
        refine OEnds.pre (fun t k => XS.ifNo H11.here hx rfl (hb hby at_141) rfl (XT.ll_ne_f rfl) k) ?_
        show OEnds p e below s _ _ _ (T11.setTop (mkF m 144 #[.val (.long u0), .second, .val (.long u1), .second, .val (.long u2), .second, .val (.int u3), .val (.ref b1), .val (.int ((u3 &&& (2147483647 : Int32)) % (192 : Int32))), .val (.long u2), .second, .val (.int (((u3 &&& (2147483647 : Int32)) % (192 : Int32)) - (128 : Int32))), .val (.int (0 : Int32)), .val (.int (fbit u2 (Int32.toInt64 ((u3 &&& (2147483647 : Int32)) % (192 : Int32)))))] []))
        refine OEnds.pre (fun t k => XT.iconstV H11.here hx rfl (1 : Int32) (hb hby at_144) rfl k) ?_
        show OEnds p e below s _ _ _ (T11.setTop (mkF m 145 #[.val (.long u0), .second, .val (.long u1), .second, .val (.long u2), .second, .val (.int u3), .val (.ref b1), .val (.int ((u3 &&& (2147483647 : Int32)) % (192 : Int32))), .val (.long u2), .second, .val (.int (((u3 &&& (2147483647 : Int32)) % (192 : Int32)) - (128 : Int32))), .val (.int (0 : Int32)), .val (.int (fbit u2 (Int32.toInt64 ((u3 &&& (2147483647 : Int32)) % (192 : Int32)))))] [(.int (1 : Int32))]))
        refine OEnds.pre (fun t k => XS.goto H11.here hx rfl (pc0 := 145) (pc' := 149) rfl (hb hby at_145) (by decide) (by decide) k) ?_
        show OEnds p e below s _ _ _ (T11.setTop (mkF m 149 #[.val (.long u0), .second, .val (.long u1), .second, .val (.long u2), .second, .val (.int u3), .val (.ref b1), .val (.int ((u3 &&& (2147483647 : Int32)) % (192 : Int32))), .val (.long u2), .second, .val (.int (((u3 &&& (2147483647 : Int32)) % (192 : Int32)) - (128 : Int32))), .val (.int (0 : Int32)), .val (.int (fbit u2 (Int32.toInt64 ((u3 &&& (2147483647 : Int32)) % (192 : Int32)))))] [(.int (1 : Int32))]))
        exact H11.nrw hx Bd.notSynchronized Bd.returns (by simp) (hb hby at_149) (by decide) (by decide) (fun h L W N => ⟨N, _, ⟨rfl, rfl⟩, W.nil⟩)
set_option maxRecDepth 65536 in
set_option maxHeartbeats 40000000 in
theorem comes_1 {Post : Tables → Env → Array Value → State → Outcome → State → Prop} (hpost : ∀ tb e args s v u, (limb_1_1.after args s (.returned v) u = true ∧ limb_1_2.after args s (.returned v) u = true ∧ True) → FrameEnd s (.returned v) u (Jvm.fieldLocs frame_1_writes args s ++ Jvm.arrayLocs frame_1_arrays args s ++ Jvm.staticLocs frame_1_statics s) 16 128 → Post tb e args s (.returned v) u) :
    ArmFor flags0 classFile x code maxLocals ret World_1 tables_1 room_1 Calls_1 rest_1 Pre_1 Post := by
  intro l hfl _ _ p e ha hc hk s m args below hf hA hF happ hP
  obtain ⟨hcalls, hrest, hpre⟩ := hP
  obtain ⟨-, -, -, hnamed, -, -, -, hat⟩ := (Spec.applies_iff hf).mp happ
  obtain ⟨hg, hn⟩ := and_e (Cond.before_iff.mp (show (Jvm.Cond.and given_1 narrow_1).before args s = true from hpre))
  obtain ⟨g0, q0⟩ := and_e hg
  obtain ⟨g1, q1⟩ := and_e q0
  obtain ⟨g2, q2⟩ := and_e q1
  obtain ⟨g3, q3⟩ := and_e q2
  obtain ⟨w0, w1, w2, w3, rfl⟩ : ∃ w0 w1 w2 w3 : Value, args = #[w0, w1, w2, w3] := by
    have hs : args.size = 4 := by simpa [Cond.value, given_1] using g0
    obtain ⟨L⟩ := args
    match L, hs with
    | [w0, w1, w2, w3], _ => exact ⟨w0, w1, w2, w3, rfl⟩
  have hw := fun d (hd : d ∈ tables_1) => atoms_spec (ws := Jvm.Cond.code x code maxLocals ret :: tables_1) hat d (List.mem_cons_of_mem _ hd)
  obtain ⟨i0, j0⟩ := isL_v g1
  obtain rfl : w0 = (.long i0) := Option.some.inj j0
  obtain ⟨i1, j1⟩ := isL_v g2
  obtain rfl : w1 = (.long i1) := Option.some.inj j1
  obtain ⟨i2, j2⟩ := isL_v g3
  obtain rfl : w2 = (.long i2) := Option.some.inj j2
  obtain ⟨i3, j3⟩ := is_v q3
  obtain rfl : w3 = (.int i3) := Option.some.inj j3
  obtain ⟨n, o, h1, h2, h3, _, L, rfl, ⟨N, _, ⟨rfl, rfl⟩, -⟩, hq⟩ := con0 l s _ hw s.heap.size tables_1 i0 i1 i2 i3 s.heap (OWorld.start s) p e ha hc hk s m _ below hf ((Spec.applies_iff_loose hf).mp happ).1 ⟨rfl, State.Warmed39.refl s, rfl⟩ trivial
  refine ⟨n, _, h1, h2, h3, hpost _ _ _ _ _ _ ⟨Cond.after_iff.mpr rfl, Cond.after_iff.mpr (eq_i res_at (Term.int_eval (1)) rfl), trivial⟩ ⟨hq.1, hq.2.1, (hq.2.2.sift fun y hy => Or.inr (N y hy)).mono (by decide) (by decide)⟩⟩
theorem main_1_1 : Claimed_1_1 := comes_1 fun _ _ _ _ _ _ h hF => ⟨h.1, hF⟩
theorem main_1_2 : Claimed_1_2 := comes_1 fun _ _ _ _ _ _ h hF => ⟨h.2.1, hF⟩
end Jvm.Pilot.@@N@@
namespace Jvm.Pilot.@@N@@
open Jvm Jvm.ClassFile Sem Op Lib Jvm.Free Jvm.Stand Jvm.Pilot.@@N@@.Jvm.D
/-! MADE BY PROGRAM (witnessworld.py) out of the Statement's table words and the real class files: 11 classes; the members and pool entries that the words name. The judged class is class 1, her method 1. -/
namespace start1
open Jvm.ClassFile
def u (s : String) : CpInfo := .utf8 (stringToUtf16 s)
/-- a pool by its gaps: so many unusable entries, then the entry; so many at the end -/
def gap : Nat → List CpInfo → List CpInfo
  | 0, r => r
  | n + 1, r => .unusable :: gap n r
def poolList (es : List (Nat × CpInfo)) (last : Nat) : List CpInfo := es.foldr (fun e r => gap e.1 (e.2 :: r)) (gap last [])
def pool (es : List (Nat × CpInfo)) (last : Nat) : Array CpInfo := ⟨poolList es last⟩
def fileOf (pool : Array CpInfo) (this : Nat) (attrs : Array Attribute := #[]) (ms : Array MethodInfo := #[]) (fl : Nat := 33) (sup : Nat := 0) (ifs : Array Nat := #[]) (fds : Array FieldInfo := #[]) : ClassFile where
  minorVersion := 0
  majorVersion := 65
  constantPool := pool
  accessFlags := fl
  thisClass := this
  superClass := sup
  interfaces := ifs
  fields := fds
  methods := ms
  attributes := attrs
def plain (name : String) (sup : Option ClassId) : Class where
  name := name
  kind := .ordinary
  loader := none
  accessFlags := 33
  super := sup
  interfaces := #[]
  cf := none
  fields := #[]
  methods := #[]
  instanceTypes := #[]
  staticTypes := #[]
  resolved := #[]
  callSites := []
  init := .initialized
  statics := none
  mirror := none

def pool0 : Array CpInfo := pool [(5, u "<init>"), (0, u "()V"), (1, .class_ 10), (1, u "java/lang/Object")] 113

def k0m0 : Method := { name := "<init>", desc := "()V", sig := { parameters := [], returnType := none }, accessFlags := 1, code := none }
/-- java/lang/Object -/
def k0 : Class := { plain "java/lang/Object" none with
  accessFlags := 33
  interfaces := #[]
  cf := some (fileOf pool0 8 #[] #[{ accessFlags := 1, nameIndex := 5, descriptorIndex := 6, attributes := #[] }] 33 0 #[] #[])
  fields := #[]
  methods := #[k0m0]
  instanceTypes := #[]
  staticTypes := #[]
  resolved := Array.replicate 124 none
  statics := none }

def pool1 : Array CpInfo := pool [(2, .class_ 4), (1, u "java/lang/Object"), (0, u "<init>"), (0, u "()V"), (0, .integer 2147483647), (0, .methodref 9 10), (0, .class_ 11), (0, .nameAndType 12 13), (0, u "com/example/syndral/syndral/code/Bits"), (0, u "bit"), (0, u "([JJ)Z"), (0, .class_ 15), (0, u "com/example/syndral/syndral/code/BitsBitPinLaw"), (2, u "law"), (0, u "(JJJI)Z")] 5

def k1m0 : Method := { name := "<init>", desc := "()V", sig := { parameters := [], returnType := none }, accessFlags := 1, code := none }
def k1c1 : Code := { maxStack := 5, maxLocals := 14, code := code, exceptionTable := #[], attributes := #[] }
def k1m1 : Method := { name := "law", desc := "(JJJI)Z", sig := { parameters := [.long, .long, .long, .int], returnType := some .boolean }, accessFlags := 9, code := some k1c1 }
/-- com/example/syndral/syndral/code/BitsBitPinLaw -/
def k1 : Class := { plain "com/example/syndral/syndral/code/BitsBitPinLaw" (some 0) with
  accessFlags := 49
  interfaces := #[]
  cf := some (fileOf pool1 14 #[] #[{ accessFlags := 1, nameIndex := 5, descriptorIndex := 6, attributes := #[] }, { accessFlags := 9, nameIndex := 18, descriptorIndex := 19, attributes := #[] }] 49 2 #[] #[])
  fields := #[]
  methods := #[k1m0, k1m1]
  instanceTypes := #[]
  staticTypes := #[]
  resolved := Array.replicate 25 none
  statics := none }

def pool2 : Array CpInfo := pool [(2, .class_ 4), (1, u "java/lang/Object"), (3, .class_ 10), (1, u "com/example/syndral/syndral/code/Bits"), (0, u "length"), (0, u "I"), (2, u "words"), (0, u "[J"), (59, u "LITTLE_ENDIAN_LONGS"), (0, u "Ljava/lang/invoke/VarHandle;"), (37, u "bit"), (0, u "([JJ)Z")] 119

def k2c0 : Code := { maxStack := 6, maxLocals := 3, code := prog_5_method_19_code, exceptionTable := #[], attributes := #[] }
def k2m0 : Method := { name := "bit", desc := "([JJ)Z", sig := { parameters := [(.array .long), .long], returnType := some .boolean }, accessFlags := 8, code := some k2c0 }
/-- com/example/syndral/syndral/code/Bits -/
def k2 : Class := { plain "com/example/syndral/syndral/code/Bits" (some 0) with
  accessFlags := 49
  interfaces := #[]
  cf := some (fileOf pool2 8 #[] #[{ accessFlags := 8, nameIndex := 115, descriptorIndex := 116, attributes := #[] }] 49 2 #[] #[{ accessFlags := 26, nameIndex := 76, descriptorIndex := 77, attributes := #[] }, { accessFlags := 18, nameIndex := 11, descriptorIndex := 12, attributes := #[] }, { accessFlags := 18, nameIndex := 15, descriptorIndex := 16, attributes := #[] }])
  fields := #[{ name := "LITTLE_ENDIAN_LONGS", type := (.object "java/lang/invoke/VarHandle"), accessFlags := 26, slot := 0, constantValue := 0 }, { name := "length", type := .int, accessFlags := 18, slot := 0, constantValue := 0 }, { name := "words", type := (.array .long), accessFlags := 18, slot := 1, constantValue := 0 }]
  methods := #[k2m0]
  instanceTypes := #[.int, (.array .long)]
  staticTypes := #[(.object "java/lang/invoke/VarHandle")]
  resolved := Array.replicate 236 none
  statics := none }

def pool3 : Array CpInfo := pool [(1, u "java/lang/Cloneable"), (0, .class_ 1), (0, u "java/lang/Object"), (0, .class_ 3)] 3

/-- java/lang/Cloneable -/
def k3 : Class := { plain "java/lang/Cloneable" (some 0) with
  accessFlags := 1537
  interfaces := #[]
  cf := some (fileOf pool3 2 #[] #[] 1537 4 #[] #[])
  fields := #[]
  methods := #[]
  instanceTypes := #[]
  staticTypes := #[]
  resolved := Array.replicate 8 none
  statics := none }

def pool4 : Array CpInfo := pool [(1, u "java/io/Serializable"), (0, .class_ 1), (0, u "java/lang/Object"), (0, .class_ 3)] 3

/-- java/io/Serializable -/
def k4 : Class := { plain "java/io/Serializable" (some 0) with
  accessFlags := 1537
  interfaces := #[]
  cf := some (fileOf pool4 2 #[] #[] 1537 4 #[] #[])
  fields := #[]
  methods := #[]
  instanceTypes := #[]
  staticTypes := #[]
  resolved := Array.replicate 8 none
  statics := none }

/-- the primitive byte -/
def k5 : Class := { plain "byte" none with kind := .primitive 'B', accessFlags := 0x411 }
/-- [B -/
def k6 : Class := { plain "[B" (some 0) with kind := .array 5 .byte, interfaces := #[3, 4], accessFlags := 1041 }

/-- the primitive int -/
def k7 : Class := { plain "int" none with kind := .primitive 'I', accessFlags := 0x411 }
/-- [I -/
def k8 : Class := { plain "[I" (some 0) with kind := .array 7 .int, interfaces := #[3, 4], accessFlags := 1041 }

/-- the primitive long -/
def k9 : Class := { plain "long" none with kind := .primitive 'J', accessFlags := 0x411 }
/-- [J -/
def k10 : Class := { plain "[J" (some 0) with kind := .array 9 .long, interfaces := #[3, 4], accessFlags := 1041 }

def heap : Heap := #[]
def classes : Array Class := #[k0, k1, k2, k3, k4, k5, k6, k7, k8, k9, k10]
def interned : List (Array UInt16 × Addr) := []
def slotsUsed : Nat := 0
def theMethod : MethodId := ⟨1, 1⟩
def args0 : Array Value := #[.long 5, .long 6, .long 7, .int 8]
def aboutOver (below : List Frame) : State where
  vm := { classes := classes, interned := interned.toArray }
  heap := heap
  slotsUsed := slotsUsed
  threads := #[{ frames := .invoking theMethod args0 :: below }]
def below0 : List Frame := [.native { method := ⟨0, 0⟩, args := #[] }]
def about1 : State := aboutOver below0
def p0 : Program := .bare "" "" ""
def e0 : Env := launch0.env 0 0 0
theorem w_frames : about1.frames = Frame.invoking theMethod args0 :: below0 := rfl
set_option maxRecDepth 65536 in
theorem w_args : argsFit about1.vm theMethod args0 = true := by decide +kernel
set_option maxRecDepth 65536 in
theorem w_heap : heapFits about1 = true := by decide +kernel
set_option maxRecDepth 65536 in
theorem w_runnable : about1.curStatus? = some .runnable := by decide +kernel
set_option maxRecDepth 65536 in
theorem w_alone : about1.alone = true := by decide +kernel
set_option maxRecDepth 65536 in
theorem w_named : about1.methodNamed? x = some theMethod := by decide +kernel
set_option maxRecDepth 65536 in
theorem w_hears : about1.hears theMethod below0 = true := by decide +kernel
set_option maxRecDepth 65536 in
theorem w_ripe : about1.ripe theMethod args0 below0 = true := by decide +kernel
theorem w_running : about1.status = .running := rfl
set_option maxRecDepth 65536 in
theorem w_room : about1.hasRoom e0.platform room_1 = true :=
  launch0.hasRoom_least _ room_1 (by decide +kernel) (by decide +kernel) (by decide +kernel) (by decide +kernel) (by decide +kernel) (by decide +kernel)
theorem allAtoms_all (ts : List Jvm.Cond) (a : Array Jvm.Value) (st : Jvm.State) : (allAtoms ts).before a st = ts.all (fun c => c.before a st) := by
  induction ts with
  | nil => rfl
  | cons c t ih =>
    show (Jvm.Cond.and c (allAtoms t)).before a st = _
    rw [Jvm.Cond.before_and, ih, List.all_cons]
def words1 : List Jvm.Cond := Jvm.Cond.code x code maxLocals ret :: tables_1
/-- a 'code' word, met by the world's own term for the bytes: nothing is compared byte by byte -/
theorem code_word {y : MethodName} {bytes : ByteArray} {mx : Nat} {rt : Option FieldType} {a : Array Value} {s : State} {m : MethodId} {meth : Method} {c : Code} (h1 : s.methodNamed? y = some m) (h2 : s.vm.method? m = some meth) (h3 : meth.code = some c) (h4 : c.code = bytes)
    (h5 : (c.maxLocals == mx && c.exceptionTable.isEmpty && decide (c.maxStack ≤ mostOperands) && decide (meth.sig.returnType = rt) && !meth.locks && decide (parseMethodDescriptor y.desc = some meth.sig)) = true) : (Jvm.Cond.code y bytes mx rt).before a s = true := by
  simp only [Bool.and_eq_true, beq_iff_eq, Bool.not_eq_true', decide_eq_true_eq] at h5
  obtain ⟨⟨⟨⟨⟨g1, g2⟩, g3⟩, g4⟩, g5⟩, g6⟩ := h5
  simp [Cond.before, Cond.holds, Cond.value, h1, h2, h3, h4, g1, g2, g3, g4, g5, g6]
def isCode : Jvm.Cond → Bool
  | .code _ _ _ _ => true
  | _ => false
theorem all_split {L : List Jvm.Cond} {P : Jvm.Cond → Bool} (h1 : L.all (fun c => isCode c || P c) = true) (h2 : ∀ c ∈ L.filter isCode, P c = true) : L.all P = true := by
  refine List.all_eq_true.mpr fun c hc => ?_
  have h := List.all_eq_true.mp h1 c hc
  rcases Bool.eq_false_or_eq_true (isCode c) with hi | hi
  · exact h2 c (List.mem_filter.mpr ⟨hc, hi⟩)
  · simpa [hi] using h
set_option maxRecDepth 65536 in
theorem w_c0 : (Jvm.Cond.code x code maxLocals ret).before args0 about1 = true := code_word (m := ⟨1, 1⟩) (meth := k1m1) (c := k1c1) (by decide +kernel) rfl rfl rfl (by decide +kernel)
set_option maxRecDepth 65536 in
theorem w_c1 : (Jvm.Cond.code ({ cls := "com/example/syndral/syndral/code/Bits", name := "bit", desc := "([JJ)Z" } : Jvm.MethodName) prog_5_method_19_code (3 : Nat) (Option.some Jvm.ClassFile.FieldType.boolean)).before args0 about1 = true := code_word (m := ⟨2, 0⟩) (meth := k2m0) (c := k2c0) (by decide +kernel) rfl rfl rfl (by decide +kernel)
def codes1 : List Jvm.Cond := [Jvm.Cond.code x code maxLocals ret, Jvm.Cond.code ({ cls := "com/example/syndral/syndral/code/Bits", name := "bit", desc := "([JJ)Z" } : Jvm.MethodName) prog_5_method_19_code (3 : Nat) (Option.some Jvm.ClassFile.FieldType.boolean)]
set_option maxRecDepth 65536 in
theorem codes_eq : words1.filter isCode = codes1 := rfl
theorem w_codes : ∀ c ∈ words1.filter isCode, c.before args0 about1 = true := by
  rw [codes_eq]
  intro c hc
  simp only [codes1, List.mem_cons, List.not_mem_nil, or_false] at hc
  rcases hc with rfl | rfl
  · exact w_c0
  · exact w_c1
set_option maxRecDepth 65536 in
theorem w_t1 : words1.all (fun c => isCode c || c.before args0 about1) = true := by decide +kernel
theorem w_tables : (allAtoms (Jvm.Cond.code x code maxLocals ret :: tables_1)).before args0 about1 = true := by
  rw [allAtoms_all]
  show words1.all (fun c => c.before args0 about1) = true
  refine all_split ?_ w_codes
  rw [w_t1]
set_option maxRecDepth 65536 in
theorem w_case : (Jvm.Cond.and given_1 narrow_1).before args0 about1 = true := by decide +kernel
theorem w_applies : (headSpec (Jvm.Cond.code x code maxLocals ret :: tables_1) room_1).applies x e0.platform about1 = true :=
  (Spec.applies_iff w_frames).mpr ⟨w_running, w_runnable, w_alone, w_named, w_hears, w_ripe, w_room, w_tables⟩
theorem atStart : AtStart classFile x code maxLocals ret World_1 tables_1 room_1 Calls_1 rest_1 Pre_1 launch0 p0 e0 about1 theMethod args0 below0 :=
  ⟨lists_1, trivial, launch0.admits_env _ _ _, launch0.least_env, fairChoices_fair.cas, fairChoices_fair.clock, w_frames, w_args, w_heap, w_applies, trivial, trivial, w_case⟩
end start1
theorem witness_1 : WitnessClaimed_1 := ⟨start1.p0, start1.e0, start1.about1, start1.theMethod, start1.args0, start1.below0, start1.atStart⟩
end Jvm.Pilot.@@N@@
