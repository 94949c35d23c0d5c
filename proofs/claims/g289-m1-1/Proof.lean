import JvmDerived
import JvmDerived.Pilot.@@N@@Statement
import JvmDerived.Pilot.@@N@@Code
set_option linter.unusedVariables false
set_option linter.unusedSimpArgs false
namespace Jvm.Pilot.@@N@@
open Jvm Jvm.ClassFile Sem Op Lib Jvm.Free Jvm.Stand Jvm.LawKit Jvm.RoadKit Bundle Jvm.Pilot.@@N@@.Jvm.D
/-! ## the own layer: a picture of the heap, one fact for where a walk stands, steps in continuation form -/
abbrev Ob : Type := Sum (String × List ((String × String × String) × Value)) (FieldType × List Value)
abbrev Obs : Type := List (Addr × Ob)
def Ara (Z : State) (h : Heap) (a : Addr) (ty : FieldType) (vs : List Value) : Prop :=
  ∃ c : Cell, Arr Z h a c ty ∧ c.slots = vs.toArray ∧ vs.length < 2 ^ 31 ∧ (∀ v ∈ vs, fits ty v = true) ∧ Exa Z h a ("[" ++ ty.toString)
def Is (Z : State) (h : Heap) (a : Addr) (o : Ob) : Prop :=
  match o with
  | .inl q => Exa Z h a q.1 ∧ ∀ f ∈ q.2, Fld Z h a f.1.1 f.1.2.1 f.1.2.2 f.2
  | .inr q => Ara Z h a q.1 q.2
def Pic (Z : State) (n0 : Nat) (h : Heap) (L : Obs) : Prop := (∀ q ∈ L, n0 ≤ q.1 ∧ Is Z h q.1 q.2) ∧ (L.map Prod.fst).Nodup
def Lays (Z : State) (a0 : Array Value) (C : String) (fn : List (String × String × String)) : Prop :=
  (∀ q ∈ fn, Laid Z a0 C q.1 q.2.1 q.2.2 ∧ ∃ t, parseFieldDescriptor q.2.2 = some t) ∧ (fn.map fun q => q.2.1).Nodup
section Pics
variable {Z : State} {h h' : Heap} {a b : Addr} {o o' : Ob} {n0 : Nat} {L L' : Obs} {sl : Nat} {v : Value} {a0 : Array Value}
theorem Is.lt (I : Is Z h a o) : a < h.size := by
  cases o with
  | inl q => exact I.1.lt
  | inr q => obtain ⟨c, A, _⟩ := I; exact A.lt
theorem Is.ext (E : Ext h h') (I : Is Z h a o) : Is Z h' a o := by
  cases o with
  | inl q => exact ⟨I.1.ext E, fun f hf => (I.2 f hf).ext E⟩
  | inr q => obtain ⟨c, A, r1, r2, r3, r4⟩ := I; exact ⟨c, A.ext E, r1, r2, r3, r4.ext E⟩
theorem Is.other (W : Wr h h' b sl v) (ne : a ≠ b) (I : Is Z h a o) : Is Z h' a o := by
  cases o with
  | inl q => exact ⟨I.1.wr W, fun f hf => (I.2 f hf).other W (Or.inl ne)⟩
  | inr q => obtain ⟨c, A, r1, r2, r3, r4⟩ := I; exact ⟨c, A.other W ne, r1, r2, r3, r4.wr W⟩
theorem nodup_get {α : Type} : ∀ {l : List α} {i j : Nat} {x : α}, l.Nodup → l[i]? = some x → l[j]? = some x → i = j
  | [], i, j, x, _, h, _ => by simp at h
  | y :: t, 0, 0, x, _, _, _ => rfl
  | y :: t, 0, j + 1, x, hn, h1, h2 => by
    simp at h1 h2; subst h1
    exact absurd (List.mem_of_getElem? h2) (List.nodup_cons.mp hn).1
  | y :: t, i + 1, 0, x, hn, h1, h2 => by
    simp at h1 h2; subst h2
    exact absurd (List.mem_of_getElem? h1) (List.nodup_cons.mp hn).1
  | y :: t, i + 1, j + 1, x, hn, h1, h2 => by
    simp at h1 h2
    rw [nodup_get (List.nodup_cons.mp hn).2 h1 h2]
theorem mem_set_get {α : Type} {l : List α} {i : Nat} {x q : α} (h : q ∈ l.set i x) : q = x ∨ ∃ j, j ≠ i ∧ l[j]? = some q := by
  obtain ⟨j, hj⟩ := List.mem_iff_getElem?.mp h
  by_cases e : j = i
  · subst e
    rw [List.getElem?_set] at hj
    by_cases hl : j < l.length
    · simp [hl] at hj; exact Or.inl hj.symm
    · simp [hl] at hj
  · rw [List.getElem?_set_ne (Ne.symm e)] at hj
    exact Or.inr ⟨j, e, hj⟩
theorem Pic.new (P : Pic Z n0 h L) (E : Ext h h') (Z0 : n0 ≤ h.size) (I : Is Z h' h.size o) : Pic Z n0 h' ((h.size, o) :: L) := by
  refine ⟨fun q hq => ?_, ?_⟩
  · rcases List.mem_cons.mp hq with rfl | hq
    · exact ⟨Z0, I⟩
    · exact ⟨(P.1 q hq).1, (P.1 q hq).2.ext E⟩
  · show (h.size :: L.map Prod.fst).Nodup
    refine List.nodup_cons.mpr ⟨fun hm => ?_, P.2⟩
    obtain ⟨q, hq, e⟩ := List.mem_map.mp hm
    have lt := (P.1 q hq).2.lt
    rw [e] at lt
    exact Nat.lt_irrefl _ lt
theorem map_set_same {α β : Type} (f : α → β) : ∀ {l : List α} {i : Nat} {x y : α}, l[i]? = some x → f y = f x → (l.set i y).map f = l.map f
  | [], i, x, y, h, _ => by simp at h
  | z :: t, 0, x, y, h, e => by simp at h; subst h; simp [e]
  | z :: t, i + 1, x, y, h, e => by simp at h; simp [map_set_same f h e]
theorem Pic.set {i : Nat} (P : Pic Z n0 h L) (W : Wr h h' a sl v) (hi : L[i]? = some (a, o)) (I : Is Z h' a o') : Pic Z n0 h' (L.set i (a, o')) := by
  refine ⟨fun q hq => ?_, ?_⟩
  · rcases mem_set_get hq with rfl | ⟨j, ne, hj⟩
    · exact ⟨(P.1 _ (List.mem_of_getElem? hi)).1, I⟩
    · refine ⟨(P.1 _ (List.mem_of_getElem? hj)).1, (P.1 _ (List.mem_of_getElem? hj)).2.other W fun e => ne ?_⟩
      refine nodup_get P.2 (x := a) ?_ ?_
      · rw [List.getElem?_map, hj]; simp [e]
      · rw [List.getElem?_map, hi]; simp
  · rw [map_set_same Prod.fst (y := (a, o')) hi rfl]; exact P.2
theorem front_perm {α : Type} : ∀ {l : List α} {i : Nat} {x : α}, l[i]? = some x → List.Perm (x :: l.eraseIdx i) l
  | [], i, x, h => by simp at h
  | z :: t, 0, x, h => by simp at h; subst h; exact List.Perm.refl _
  | z :: t, i + 1, x, h => by
    simp at h
    exact (List.Perm.swap z x _).trans ((front_perm h).cons z)
theorem Pic.perm (P : Pic Z n0 h L) (q : List.Perm L' L) : Pic Z n0 h L' :=
  ⟨fun x hx => P.1 x (q.mem_iff.mp hx), ((q.map Prod.fst).nodup_iff).mpr P.2⟩
theorem Pic.front {i : Nat} {x : Addr × Ob} (P : Pic Z n0 h L) (hi : L[i]? = some x) : Pic Z n0 h (x :: L.eraseIdx i) := P.perm (front_perm hi)
theorem Pic.ne {i j : Nat} {x y : Ob} (P : Pic Z n0 h L) (hi : L[i]? = some (a, x)) (hj : L[j]? = some (b, y)) (hn : i ≠ j) : a ≠ b := fun e => hn (by
  subst e
  refine nodup_get P.2 (x := a) ?_ ?_
  · rw [List.getElem?_map, hi]; simp
  · rw [List.getElem?_map, hj]; simp)
theorem Is.put {C O n d : String} {fs : List ((String × String × String) × Value)} {j : Nat} {old : Value} (W : Wr h h' a (Jvm.RoadKit.slotOf Z O n d) v) (hl : Lays Z a0 C (fs.map Prod.fst)) (I : Is Z h a (.inl (C, fs))) (hf : fs[j]? = some ((O, n, d), old)) : Is Z h' a (.inl (C, fs.set j ((O, n, d), v))) := by
  refine ⟨I.1.wr W, fun f hm => ?_⟩
  rcases mem_set_get hm with rfl | ⟨i, ne, hi⟩
  · exact Fld.same W (I.2 ((O, n, d), old) (List.mem_of_getElem? hf))
  · have g1 : (fs.map Prod.fst)[i]? = some f.1 := by rw [List.getElem?_map, hi]; rfl
    have g2 : (fs.map Prod.fst)[j]? = some (O, n, d) := by rw [List.getElem?_map, hf]; rfl
    obtain ⟨l1, t1, p1⟩ := hl.1 _ (List.mem_of_getElem? g1)
    obtain ⟨l2, t2, p2⟩ := hl.1 _ (List.mem_of_getElem? g2)
    refine (I.2 _ (List.mem_of_getElem? hi)).other W (Or.inr (slot_ne l1 l2 (fun e => ne ?_) p1 p2))
    refine nodup_get hl.2 (x := n) ?_ ?_
    · rw [List.getElem?_map, g1]; simp [← e]
    · rw [List.getElem?_map, g2]; try rfl
theorem Ara.put {ty : FieldType} {vs : List Value} {j : Int32} (I : Ara Z h a ty vs) (W : Wr h h' a j.toNatClampNeg v) (hf : fits ty v = true) : Ara Z h' a ty (vs.set j.toNatClampNeg v) := by
  obtain ⟨c, A, r1, r2, r3, r4⟩ := I
  refine ⟨c.setSlot j.toNatClampNeg v, A.same W, ?_, by rw [List.length_set]; exact r2, fun x hx => ?_, r4.wr W⟩
  · show c.slots.setIfInBounds _ _ = _
    rw [r1]; simp
  · rcases mem_set_get hx with rfl | ⟨i, _, hi⟩
    · exact hf
    · exact r3 _ (List.mem_of_getElem? hi)
theorem fits_def (aty : ArrayType) : fits (newarray.typeOf aty) (defaultValue (newarray.typeOf aty)) = true := by cases aty <;> decide
theorem Is.keep {ws : List Addr} (K : Keep h h' ws) (hn : a ∉ ws) (I : Is Z h a o) : Is Z h' a o := by
  cases o with
  | inl q => exact ⟨I.1.keep K, fun f hf => (I.2 f hf).keep K hn⟩
  | inr q => obtain ⟨c, A, r1, r2, r3, r4⟩ := I; exact ⟨c, ⟨K.2.1 a c A.1 hn, A.2⟩, r1, r2, r3, r4.keep K⟩
theorem Pic.setK {i : Nat} (P : Pic Z n0 h L) (K : Keep h h' [a]) (hi : L[i]? = some (a, o)) (I : Is Z h' a o') : Pic Z n0 h' (L.set i (a, o')) := by
  refine ⟨fun q hq => ?_, ?_⟩
  · rcases mem_set_get hq with rfl | ⟨j, ne, hj⟩
    · exact ⟨(P.1 _ (List.mem_of_getElem? hi)).1, I⟩
    · refine ⟨(P.1 _ (List.mem_of_getElem? hj)).1, (P.1 _ (List.mem_of_getElem? hj)).2.keep K fun e => ne ?_⟩
      have e := List.mem_singleton.mp e
      refine nodup_get P.2 (x := a) ?_ ?_
      · rw [List.getElem?_map, hj]; simp [e]
      · rw [List.getElem?_map, hi]; simp
  · rw [map_set_same Prod.fst (y := (a, o')) hi rfl]; exact P.2
theorem Arv.toAra {k : ClassId} {ty : FieldType} {z : Int32} {vs : List Value} {dv : Value} (V : Arv Z h a k ty z vs dv) (hz : z.toNatClampNeg = vs.length) (hl : vs.length < 2 ^ 31) (E : Exa Z h a ("[" ++ ty.toString)) : Ara Z h a ty vs := by
  obtain ⟨c, A, q1, q2, q3, H, G⟩ := V
  refine ⟨c, A, ?_, hl, fun v hv => ?_, E⟩
  · refine Array.ext_getElem? fun i => ?_
    by_cases hi : i < c.slots.size
    · rw [H i hi, List.getElem?_toArray, List.getD_eq_getElem?_getD]
      have : i < vs.length := by omega
      rw [List.getElem?_eq_getElem this]; rfl
    · rw [Array.getElem?_eq_none (by omega), List.getElem?_toArray, List.getElem?_eq_none (by omega)]
  · obtain ⟨i, hi⟩ := List.mem_iff_getElem?.mp hv
    have hlt := (List.getElem?_eq_some_iff.mp hi).1
    have := G i (by omega)
    rw [List.getD_eq_getElem?_getD, hi] at this
    exact this
theorem Ara.toArv {ty : FieldType} {vs : List Value} (I : Ara Z h a ty vs) (dv : Value) : ∃ k, Arv Z h a k ty vs.length.toInt32 vs dv ∧ vs.length.toInt32.toNatClampNeg = vs.length ∧ ¬ vs.length.toInt32 < 0 := by
  obtain ⟨c, A, r1, r2, r3, r4⟩ := I
  have e1 : vs.length.toInt32.toInt = vs.length := len_toInt r2
  have e2 : vs.length.toInt32.toNatClampNeg = vs.length := by simp only [Int32.toNatClampNeg, e1]; omega
  have e3 : ¬ vs.length.toInt32 < 0 := by rw [Int32.lt_iff_toInt_lt, e1]; simp only [Int32.reduceToInt]; omega
  have e4 : c.slots.size = vs.length := by rw [r1]; simp
  refine ⟨c.cls, ⟨c, A, rfl, by omega, e3, fun k hk => ?_, fun k hk => ?_⟩, e2, e3⟩
  · have : k < vs.length := by omega
    rw [r1, List.getElem?_toArray, List.getElem?_eq_getElem this, List.getD_eq_getElem?_getD, List.getElem?_eq_getElem this]; rfl
  · have : k < vs.length := by omega
    rw [List.getD_eq_getElem?_getD, List.getElem?_eq_getElem this]
    exact r3 _ (List.getElem_mem this)
end Pics
def Go (p : Program) (e : Env) (below : List Frame) (F : State → Prop) (U : State) : Prop := ∃ t, Steps p.tables e below U t ∧ F t
theorem Go.st {p : Program} {e : Env} {below : List Frame} {F : State → Prop} {U U' : State} (h : ∀ t, Steps p.tables e below U' t → Steps p.tables e below U t) (g : Go p e below F U') : Go p e below F U := by
  obtain ⟨t, s, f⟩ := g; exact ⟨t, h t s, f⟩
def Here (p : Program) (l : Launch) (e : Env) (R : Room) (s : State) (m : MethodId) (args : Array Value) (below : List Frame) (meth : Method) (c : Code) (Z : State) (a0 : Array Value) (tbl : List Jvm.Cond) (own nm : String) (bc : ByteArray) (mxl : Nat) (rt : Option FieldType) (n0 : Nat) (T : State) (L : Obs) (cells slots : Nat) : Prop :=
  (p.tables.exec = Jvm.exec ∧ Z.Warmed39 s.vm ∧ s.vm.findClass own = some m.cls ∧ c.code = bc ∧ c.maxLocals = mxl ∧ (∀ d ∈ tbl, d.before a0 Z = true) ∧ meth.name = nm ∧ meth.sig.returnType = rt ∧ meth.locks = false) ∧
  ∃ locs, Stand p l e R s m args below meth c T locs cells slots ∧ Fr n0 locs ∧ n0 ≤ T.heap.size ∧ Pic Z n0 T.heap L
def EndS (below : List Frame) (s : State) (n0 : Nat) (Z : State) (kc ks : Nat) (Q : Option Value → Obs → Prop) (t : State) : Prop :=
  ∃ o, t.status = .running ∧ Ended t below o ∧ ∃ v Lc, o = .returned v ∧ (Fr n0 Lc ∧ n0 ≤ t.heap.size ∧ ∃ L', Q v L' ∧ Pic Z n0 t.heap L') ∧ FrameEnd s o t Lc kc ks
def Triple (l : Launch) (Z : State) (n0 : Nat) (y : MethodName) (bytes : ByteArray) (ml : Nat) (rt : Option FieldType) (rm : Room) (kc ks : Nat) (as : List Value) (L : Obs) (Q : Option Value → Obs → Prop) : Prop :=
  ∀ (h0 : Heap) (ws : List Jvm.Cond), n0 ≤ h0.size → Pic Z n0 h0 L →
    MetFree l y (head1 (Jvm.Cond.code y bytes ml rt :: ws) rm) (fun a U => a = as.toArray ∧ Z.Warmed39 U.vm ∧ U.heap = h0) (fun _ _ _ _ _ => True)
      (fun _ U o U' => ∃ v Lc, o = .returned v ∧ (Fr n0 Lc ∧ n0 ≤ U'.heap.size ∧ ∃ L', Q v L' ∧ Pic Z n0 U'.heap L') ∧ FrameEnd U o U' Lc kc ks)
theorem Triple.of_body {l : Launch} {Z : State} {a0 : Array Value} {tbl : List Jvm.Cond} {n0 : Nat} {y : MethodName} {bytes : ByteArray} {ml : Nat} {rt : Option FieldType} {rm : Room} {kc ks : Nat} {as : List Value} {L : Obs} {Q : Option Value → Obs → Prop} {Ls : Array Slot}
    (hp : plainFor y = true) (hw : ∀ d ∈ tbl, d.before a0 Z = true) (ef : (Jvm.Sym.laidSlots as ++ List.replicate (ml - (Jvm.Sym.laidSlots as).length) Slot.unset).toArray = Ls)
    (body : ∀ p e s m below meth c T, Here p l e rm s m as.toArray below meth c Z a0 tbl y.cls y.name bytes ml rt n0 T L 0 0 → Go p e below (EndS below s n0 Z kc ks Q) (T.setTop (mkF m 0 Ls []))) :
    Triple l Z n0 y bytes ml rt rm kc ks as L Q := by
  intro h0 ws Z0 P0
  refine MetFree.of_bodySF hp hisR ?_
  intro p e s m args below meth c s₁ Bd hml0 hP hK
  obtain ⟨rfl, hZ, hh⟩ := hP
  have e0 : s₁.heap = h0 := by rw [← hh, Bd.state]; rfl
  have A : Here p l e rm s m as.toArray below meth c Z a0 tbl y.cls y.name bytes ml rt n0 s₁ L 0 0 :=
    ⟨⟨Bd.exec, hZ, findClass_of_methodNamed Bd.named, Bd.bytes, hml0, hw, (name_of_methodNamed Bd.named Bd.method).1, Bd.returns, Bd.notSynchronized⟩, [], Stand.of_body Bd, Fr.nil n0, by rw [e0]; exact Z0, by rw [e0]; exact P0⟩
  obtain ⟨t, st, o, h1, h2, h3⟩ := body p e s m below meth c s₁ A
  have ef' : entryFrame m as.toArray ml = mkF m 0 Ls [] := by
    have q := Jvm.Sym.argsToLocals_toList as.toArray ml
    have q2 : argsToLocals as.toArray ml = Ls := by rw [← ef, ← q, Array.toArray_toList]
    unfold entryFrame mkF; rw [q2]
  exact ⟨t, o, castTop ef' st, h1, h2, h3⟩

section Walk
variable {p : Program} {l : Launch} {e : Env} {R : Room} {s : State} {m : MethodId} {args : Array Value} {below : List Frame} {meth : Method} {c : Code} {Z : State} {a0 : Array Value} {tbl : List Jvm.Cond} {own nm : String} {bc : ByteArray} {mxl : Nat} {rt : Option FieldType} {n0 : Nat} {T : State} {L : Obs} {cells slots : Nat} {F : State → Prop}
theorem Here.pt (A : Here p l e R s m args below meth c Z a0 tbl own nm bc mxl rt n0 T L cells slots) : At T m c below := by obtain ⟨_, X, _⟩ := A.2; exact X.here
theorem Here.iadd (A : Here p l e R s m args below meth c Z a0 tbl own nm bc mxl rt n0 T L cells slots) {pc q : Nat} {Ls : Array Slot} {st : List Value} {x y v : Int32} (hd : decode bc pc = .ok (.iadd, 1)) (hq : pc + 1 = q) (hv : x + y = v) (k : Go p e below F (T.setTop (mkF m q Ls (.int v :: st)))) : Go p e below F (T.setTop (mkF m pc Ls (.int y :: .int x :: st))) := by
  subst hq hv
  exact Go.st (fun t h => XS.iadd A.pt A.1.1 rfl (hb A.1.2.2.2.1 hd) rfl h) k
theorem Here.isub (A : Here p l e R s m args below meth c Z a0 tbl own nm bc mxl rt n0 T L cells slots) {pc q : Nat} {Ls : Array Slot} {st : List Value} {x y v : Int32} (hd : decode bc pc = .ok (.isub, 1)) (hq : pc + 1 = q) (hv : x - y = v) (k : Go p e below F (T.setTop (mkF m q Ls (.int v :: st)))) : Go p e below F (T.setTop (mkF m pc Ls (.int y :: .int x :: st))) := by
  subst hq hv
  exact Go.st (fun t h => XS.isub A.pt A.1.1 rfl (hb A.1.2.2.2.1 hd) rfl h) k
theorem Here.imul (A : Here p l e R s m args below meth c Z a0 tbl own nm bc mxl rt n0 T L cells slots) {pc q : Nat} {Ls : Array Slot} {st : List Value} {x y v : Int32} (hd : decode bc pc = .ok (.imul, 1)) (hq : pc + 1 = q) (hv : x * y = v) (k : Go p e below F (T.setTop (mkF m q Ls (.int v :: st)))) : Go p e below F (T.setTop (mkF m pc Ls (.int y :: .int x :: st))) := by
  subst hq hv
  exact Go.st (fun t h => XS.imul A.pt A.1.1 rfl (hb A.1.2.2.2.1 hd) rfl h) k
theorem Here.iand (A : Here p l e R s m args below meth c Z a0 tbl own nm bc mxl rt n0 T L cells slots) {pc q : Nat} {Ls : Array Slot} {st : List Value} {x y v : Int32} (hd : decode bc pc = .ok (.iand, 1)) (hq : pc + 1 = q) (hv : x &&& y = v) (k : Go p e below F (T.setTop (mkF m q Ls (.int v :: st)))) : Go p e below F (T.setTop (mkF m pc Ls (.int y :: .int x :: st))) := by
  subst hq hv
  exact Go.st (fun t h => XS.iand A.pt A.1.1 rfl (hb A.1.2.2.2.1 hd) rfl h) k
theorem Here.ior (A : Here p l e R s m args below meth c Z a0 tbl own nm bc mxl rt n0 T L cells slots) {pc q : Nat} {Ls : Array Slot} {st : List Value} {x y v : Int32} (hd : decode bc pc = .ok (.ior, 1)) (hq : pc + 1 = q) (hv : x ||| y = v) (k : Go p e below F (T.setTop (mkF m q Ls (.int v :: st)))) : Go p e below F (T.setTop (mkF m pc Ls (.int y :: .int x :: st))) := by
  subst hq hv
  exact Go.st (fun t h => XS.ior A.pt A.1.1 rfl (hb A.1.2.2.2.1 hd) rfl h) k
theorem Here.ixor (A : Here p l e R s m args below meth c Z a0 tbl own nm bc mxl rt n0 T L cells slots) {pc q : Nat} {Ls : Array Slot} {st : List Value} {x y v : Int32} (hd : decode bc pc = .ok (.ixor, 1)) (hq : pc + 1 = q) (hv : x ^^^ y = v) (k : Go p e below F (T.setTop (mkF m q Ls (.int v :: st)))) : Go p e below F (T.setTop (mkF m pc Ls (.int y :: .int x :: st))) := by
  subst hq hv
  exact Go.st (fun t h => XS.ixor A.pt A.1.1 rfl (hb A.1.2.2.2.1 hd) rfl h) k
theorem Here.ishl (A : Here p l e R s m args below meth c Z a0 tbl own nm bc mxl rt n0 T L cells slots) {pc q : Nat} {Ls : Array Slot} {st : List Value} {x y v : Int32} (hd : decode bc pc = .ok (.ishl, 1)) (hq : pc + 1 = q) (hv : x <<< (y &&& 31) = v) (k : Go p e below F (T.setTop (mkF m q Ls (.int v :: st)))) : Go p e below F (T.setTop (mkF m pc Ls (.int y :: .int x :: st))) := by
  subst hq hv
  exact Go.st (fun t h => XS.ishl A.pt A.1.1 rfl (hb A.1.2.2.2.1 hd) rfl h) k
theorem Here.ishr (A : Here p l e R s m args below meth c Z a0 tbl own nm bc mxl rt n0 T L cells slots) {pc q : Nat} {Ls : Array Slot} {st : List Value} {x y v : Int32} (hd : decode bc pc = .ok (.ishr, 1)) (hq : pc + 1 = q) (hv : x >>> (y &&& 31) = v) (k : Go p e below F (T.setTop (mkF m q Ls (.int v :: st)))) : Go p e below F (T.setTop (mkF m pc Ls (.int y :: .int x :: st))) := by
  subst hq hv
  exact Go.st (fun t h => XS.ishr A.pt A.1.1 rfl (hb A.1.2.2.2.1 hd) rfl h) k
theorem Here.iushr (A : Here p l e R s m args below meth c Z a0 tbl own nm bc mxl rt n0 T L cells slots) {pc q : Nat} {Ls : Array Slot} {st : List Value} {x y v : Int32} (hd : decode bc pc = .ok (.iushr, 1)) (hq : pc + 1 = q) (hv : (x.toUInt32 >>> (y &&& 31).toUInt32).toInt32 = v) (k : Go p e below F (T.setTop (mkF m q Ls (.int v :: st)))) : Go p e below F (T.setTop (mkF m pc Ls (.int y :: .int x :: st))) := by
  subst hq hv
  exact Go.st (fun t h => XS.iushr A.pt A.1.1 rfl (hb A.1.2.2.2.1 hd) rfl h) k
theorem Here.idiv (A : Here p l e R s m args below meth c Z a0 tbl own nm bc mxl rt n0 T L cells slots) {pc q : Nat} {Ls : Array Slot} {st : List Value} {x y v : Int32} (hd : decode bc pc = .ok (.idiv, 1)) (hq : pc + 1 = q) (hy : y ≠ 0) (hv : x / y = v) (k : Go p e below F (T.setTop (mkF m q Ls (.int v :: st)))) : Go p e below F (T.setTop (mkF m pc Ls (.int y :: .int x :: st))) := by
  subst hq hv
  exact Go.st (fun t h => XS.idiv A.pt A.1.1 rfl (hb A.1.2.2.2.1 hd) rfl hy h) k
theorem Here.irem (A : Here p l e R s m args below meth c Z a0 tbl own nm bc mxl rt n0 T L cells slots) {pc q : Nat} {Ls : Array Slot} {st : List Value} {x y v : Int32} (hd : decode bc pc = .ok (.irem, 1)) (hq : pc + 1 = q) (hy : y ≠ 0) (hv : x % y = v) (k : Go p e below F (T.setTop (mkF m q Ls (.int v :: st)))) : Go p e below F (T.setTop (mkF m pc Ls (.int y :: .int x :: st))) := by
  subst hq hv
  obtain ⟨_, X, _⟩ := A.2
  exact Go.st (fun t h => iremM X A.1.1 rfl (hb A.1.2.2.2.1 hd) rfl hy h) k
theorem Here.ineg (A : Here p l e R s m args below meth c Z a0 tbl own nm bc mxl rt n0 T L cells slots) {pc q : Nat} {Ls : Array Slot} {st : List Value} {x v : Int32} (hd : decode bc pc = .ok (.ineg, 1)) (hq : pc + 1 = q) (hv : -x = v) (k : Go p e below F (T.setTop (mkF m q Ls (.int v :: st)))) : Go p e below F (T.setTop (mkF m pc Ls (.int x :: st))) := by
  subst hq hv
  exact Go.st (fun t h => XS.ineg A.pt A.1.1 rfl (hb A.1.2.2.2.1 hd) rfl h) k
theorem Here.ladd (A : Here p l e R s m args below meth c Z a0 tbl own nm bc mxl rt n0 T L cells slots) {pc q : Nat} {Ls : Array Slot} {st : List Value} {x y v : Int64} (hd : decode bc pc = .ok (.ladd, 1)) (hq : pc + 1 = q) (hv : x + y = v) (k : Go p e below F (T.setTop (mkF m q Ls (.long v :: st)))) : Go p e below F (T.setTop (mkF m pc Ls (.long y :: .long x :: st))) := by
  subst hq hv
  exact Go.st (fun t h => XS.ladd A.pt A.1.1 rfl (hb A.1.2.2.2.1 hd) rfl h) k
theorem Here.lsub (A : Here p l e R s m args below meth c Z a0 tbl own nm bc mxl rt n0 T L cells slots) {pc q : Nat} {Ls : Array Slot} {st : List Value} {x y v : Int64} (hd : decode bc pc = .ok (.lsub, 1)) (hq : pc + 1 = q) (hv : x - y = v) (k : Go p e below F (T.setTop (mkF m q Ls (.long v :: st)))) : Go p e below F (T.setTop (mkF m pc Ls (.long y :: .long x :: st))) := by
  subst hq hv
  exact Go.st (fun t h => XS.lsub A.pt A.1.1 rfl (hb A.1.2.2.2.1 hd) rfl h) k
theorem Here.lmul (A : Here p l e R s m args below meth c Z a0 tbl own nm bc mxl rt n0 T L cells slots) {pc q : Nat} {Ls : Array Slot} {st : List Value} {x y v : Int64} (hd : decode bc pc = .ok (.lmul, 1)) (hq : pc + 1 = q) (hv : x * y = v) (k : Go p e below F (T.setTop (mkF m q Ls (.long v :: st)))) : Go p e below F (T.setTop (mkF m pc Ls (.long y :: .long x :: st))) := by
  subst hq hv
  exact Go.st (fun t h => XS.lmul A.pt A.1.1 rfl (hb A.1.2.2.2.1 hd) rfl h) k
theorem Here.land (A : Here p l e R s m args below meth c Z a0 tbl own nm bc mxl rt n0 T L cells slots) {pc q : Nat} {Ls : Array Slot} {st : List Value} {x y v : Int64} (hd : decode bc pc = .ok (.land, 1)) (hq : pc + 1 = q) (hv : x &&& y = v) (k : Go p e below F (T.setTop (mkF m q Ls (.long v :: st)))) : Go p e below F (T.setTop (mkF m pc Ls (.long y :: .long x :: st))) := by
  subst hq hv
  exact Go.st (fun t h => XS.land A.pt A.1.1 rfl (hb A.1.2.2.2.1 hd) rfl h) k
theorem Here.lor (A : Here p l e R s m args below meth c Z a0 tbl own nm bc mxl rt n0 T L cells slots) {pc q : Nat} {Ls : Array Slot} {st : List Value} {x y v : Int64} (hd : decode bc pc = .ok (.lor, 1)) (hq : pc + 1 = q) (hv : x ||| y = v) (k : Go p e below F (T.setTop (mkF m q Ls (.long v :: st)))) : Go p e below F (T.setTop (mkF m pc Ls (.long y :: .long x :: st))) := by
  subst hq hv
  exact Go.st (fun t h => XS.lor A.pt A.1.1 rfl (hb A.1.2.2.2.1 hd) rfl h) k
theorem Here.lxor (A : Here p l e R s m args below meth c Z a0 tbl own nm bc mxl rt n0 T L cells slots) {pc q : Nat} {Ls : Array Slot} {st : List Value} {x y v : Int64} (hd : decode bc pc = .ok (.lxor, 1)) (hq : pc + 1 = q) (hv : x ^^^ y = v) (k : Go p e below F (T.setTop (mkF m q Ls (.long v :: st)))) : Go p e below F (T.setTop (mkF m pc Ls (.long y :: .long x :: st))) := by
  subst hq hv
  exact Go.st (fun t h => XS.lxor A.pt A.1.1 rfl (hb A.1.2.2.2.1 hd) rfl h) k
theorem Here.lshl (A : Here p l e R s m args below meth c Z a0 tbl own nm bc mxl rt n0 T L cells slots) {pc q : Nat} {Ls : Array Slot} {st : List Value} {x v : Int64} {y : Int32} (hd : decode bc pc = .ok (.lshl, 1)) (hq : pc + 1 = q) (hv : x <<< (y &&& 0x3f).toInt64 = v) (k : Go p e below F (T.setTop (mkF m q Ls (.long v :: st)))) : Go p e below F (T.setTop (mkF m pc Ls (.int y :: .long x :: st))) := by
  subst hq hv
  exact Go.st (fun t h => XS.lshl A.pt A.1.1 rfl (hb A.1.2.2.2.1 hd) rfl h) k
theorem Here.lshr (A : Here p l e R s m args below meth c Z a0 tbl own nm bc mxl rt n0 T L cells slots) {pc q : Nat} {Ls : Array Slot} {st : List Value} {x v : Int64} {y : Int32} (hd : decode bc pc = .ok (.lshr, 1)) (hq : pc + 1 = q) (hv : x >>> (y &&& 0x3f).toInt64 = v) (k : Go p e below F (T.setTop (mkF m q Ls (.long v :: st)))) : Go p e below F (T.setTop (mkF m pc Ls (.int y :: .long x :: st))) := by
  subst hq hv
  exact Go.st (fun t h => XS.lshr A.pt A.1.1 rfl (hb A.1.2.2.2.1 hd) rfl h) k
theorem Here.lushr (A : Here p l e R s m args below meth c Z a0 tbl own nm bc mxl rt n0 T L cells slots) {pc q : Nat} {Ls : Array Slot} {st : List Value} {x v : Int64} {y : Int32} (hd : decode bc pc = .ok (.lushr, 1)) (hq : pc + 1 = q) (hv : (x.toUInt64 >>> (y &&& 0x3f).toInt64.toUInt64).toInt64 = v) (k : Go p e below F (T.setTop (mkF m q Ls (.long v :: st)))) : Go p e below F (T.setTop (mkF m pc Ls (.int y :: .long x :: st))) := by
  subst hq hv
  exact Go.st (fun t h => XS.lushr A.pt A.1.1 rfl (hb A.1.2.2.2.1 hd) rfl h) k
theorem Here.ldiv (A : Here p l e R s m args below meth c Z a0 tbl own nm bc mxl rt n0 T L cells slots) {pc q : Nat} {Ls : Array Slot} {st : List Value} {x y v : Int64} (hd : decode bc pc = .ok (.ldiv, 1)) (hq : pc + 1 = q) (hy : y ≠ 0) (hv : x / y = v) (k : Go p e below F (T.setTop (mkF m q Ls (.long v :: st)))) : Go p e below F (T.setTop (mkF m pc Ls (.long y :: .long x :: st))) := by
  subst hq hv
  exact Go.st (fun t h => XS.ldiv A.pt A.1.1 rfl (hb A.1.2.2.2.1 hd) rfl hy h) k
theorem Here.lrem (A : Here p l e R s m args below meth c Z a0 tbl own nm bc mxl rt n0 T L cells slots) {pc q : Nat} {Ls : Array Slot} {st : List Value} {x y v : Int64} (hd : decode bc pc = .ok (.lrem, 1)) (hq : pc + 1 = q) (hy : y ≠ 0) (hv : x - (x / y) * y = v) (k : Go p e below F (T.setTop (mkF m q Ls (.long v :: st)))) : Go p e below F (T.setTop (mkF m pc Ls (.long y :: .long x :: st))) := by
  subst hq hv
  exact Go.st (fun t h => XS.lrem A.pt A.1.1 rfl (hb A.1.2.2.2.1 hd) rfl hy h) k
theorem Here.lneg (A : Here p l e R s m args below meth c Z a0 tbl own nm bc mxl rt n0 T L cells slots) {pc q : Nat} {Ls : Array Slot} {st : List Value} {x v : Int64} (hd : decode bc pc = .ok (.lneg, 1)) (hq : pc + 1 = q) (hv : -x = v) (k : Go p e below F (T.setTop (mkF m q Ls (.long v :: st)))) : Go p e below F (T.setTop (mkF m pc Ls (.long x :: st))) := by
  subst hq hv
  exact Go.st (fun t h => XS.lneg A.pt A.1.1 rfl (hb A.1.2.2.2.1 hd) rfl h) k
theorem Here.i2l (A : Here p l e R s m args below meth c Z a0 tbl own nm bc mxl rt n0 T L cells slots) {pc q : Nat} {Ls : Array Slot} {st : List Value} {x : Int32} {v : Int64} (hd : decode bc pc = .ok (.i2l, 1)) (hq : pc + 1 = q) (hv : x.toInt64 = v) (k : Go p e below F (T.setTop (mkF m q Ls (.long v :: st)))) : Go p e below F (T.setTop (mkF m pc Ls (.int x :: st))) := by
  subst hq hv
  exact Go.st (fun t h => XS.i2l A.pt A.1.1 rfl (hb A.1.2.2.2.1 hd) rfl h) k
theorem Here.l2i (A : Here p l e R s m args below meth c Z a0 tbl own nm bc mxl rt n0 T L cells slots) {pc q : Nat} {Ls : Array Slot} {st : List Value} {x : Int64} {v : Int32} (hd : decode bc pc = .ok (.l2i, 1)) (hq : pc + 1 = q) (hv : x.toInt32 = v) (k : Go p e below F (T.setTop (mkF m q Ls (.int v :: st)))) : Go p e below F (T.setTop (mkF m pc Ls (.long x :: st))) := by
  subst hq hv
  exact Go.st (fun t h => XS.l2i A.pt A.1.1 rfl (hb A.1.2.2.2.1 hd) rfl h) k
theorem Here.i2b (A : Here p l e R s m args below meth c Z a0 tbl own nm bc mxl rt n0 T L cells slots) {pc q : Nat} {Ls : Array Slot} {st : List Value} {x v : Int32} (hd : decode bc pc = .ok (.i2b, 1)) (hq : pc + 1 = q) (hv : x.toInt8.toInt32 = v) (k : Go p e below F (T.setTop (mkF m q Ls (.int v :: st)))) : Go p e below F (T.setTop (mkF m pc Ls (.int x :: st))) := by
  subst hq hv
  exact Go.st (fun t h => XS.i2b A.pt A.1.1 rfl (hb A.1.2.2.2.1 hd) rfl h) k
theorem Here.i2c (A : Here p l e R s m args below meth c Z a0 tbl own nm bc mxl rt n0 T L cells slots) {pc q : Nat} {Ls : Array Slot} {st : List Value} {x v : Int32} (hd : decode bc pc = .ok (.i2c, 1)) (hq : pc + 1 = q) (hv : x.toUInt32.toUInt16.toUInt32.toInt32 = v) (k : Go p e below F (T.setTop (mkF m q Ls (.int v :: st)))) : Go p e below F (T.setTop (mkF m pc Ls (.int x :: st))) := by
  subst hq hv
  exact Go.st (fun t h => XS.i2c A.pt A.1.1 rfl (hb A.1.2.2.2.1 hd) rfl h) k
theorem Here.i2s (A : Here p l e R s m args below meth c Z a0 tbl own nm bc mxl rt n0 T L cells slots) {pc q : Nat} {Ls : Array Slot} {st : List Value} {x v : Int32} (hd : decode bc pc = .ok (.i2s, 1)) (hq : pc + 1 = q) (hv : x.toInt16.toInt32 = v) (k : Go p e below F (T.setTop (mkF m q Ls (.int v :: st)))) : Go p e below F (T.setTop (mkF m pc Ls (.int x :: st))) := by
  subst hq hv
  exact Go.st (fun t h => XS.i2s A.pt A.1.1 rfl (hb A.1.2.2.2.1 hd) rfl h) k
theorem Here.iloadN (A : Here p l e R s m args below meth c Z a0 tbl own nm bc mxl rt n0 T L cells slots) {pc q : Nat} {Ls : Array Slot} {st : List Value} {k : Fin 4} {v : Int32} (hd : decode bc pc = .ok (.iload_n k, 1)) (hq : pc + 1 = q) (hl : Ls[k.val]? = some (.val (.int v))) (k : Go p e below F (T.setTop (mkF m q Ls (.int v :: st)))) : Go p e below F (T.setTop (mkF m pc Ls st)) := by
  subst hq
  exact Go.st (fun t h => XS.iloadN A.pt A.1.1 rfl (hb A.1.2.2.2.1 hd) hl h) k
theorem Here.iload (A : Here p l e R s m args below meth c Z a0 tbl own nm bc mxl rt n0 T L cells slots) {pc q : Nat} {Ls : Array Slot} {st : List Value} {k : Nat} {v : Int32} (hd : decode bc pc = .ok (.iload k, 2)) (hq : pc + 2 = q) (hl : Ls[k]? = some (.val (.int v))) (k : Go p e below F (T.setTop (mkF m q Ls (.int v :: st)))) : Go p e below F (T.setTop (mkF m pc Ls st)) := by
  subst hq
  exact Go.st (fun t h => XS.iload A.pt A.1.1 rfl (hb A.1.2.2.2.1 hd) hl h) k
theorem Here.istoreN (A : Here p l e R s m args below meth c Z a0 tbl own nm bc mxl rt n0 T L cells slots) {pc q : Nat} {Ls : Array Slot} {st : List Value} {k : Fin 4} {v : Int32} {l' : Array Slot} (hd : decode bc pc = .ok (.istore_n k, 1)) (hq : pc + 1 = q) (hl : storeLocals Ls k.val (.int v) = some l') (k : Go p e below F (T.setTop (mkF m q l' st))) : Go p e below F (T.setTop (mkF m pc Ls (.int v :: st))) := by
  subst hq
  exact Go.st (fun t h => XS.istoreN A.pt A.1.1 rfl (hb A.1.2.2.2.1 hd) rfl hl h) k
theorem Here.istore (A : Here p l e R s m args below meth c Z a0 tbl own nm bc mxl rt n0 T L cells slots) {pc q : Nat} {Ls : Array Slot} {st : List Value} {k : Nat} {v : Int32} {l' : Array Slot} (hd : decode bc pc = .ok (.istore k, 2)) (hq : pc + 2 = q) (hl : storeLocals Ls k (.int v) = some l') (k : Go p e below F (T.setTop (mkF m q l' st))) : Go p e below F (T.setTop (mkF m pc Ls (.int v :: st))) := by
  subst hq
  exact Go.st (fun t h => XS.istore A.pt A.1.1 rfl (hb A.1.2.2.2.1 hd) rfl hl h) k
theorem Here.lloadN (A : Here p l e R s m args below meth c Z a0 tbl own nm bc mxl rt n0 T L cells slots) {pc q : Nat} {Ls : Array Slot} {st : List Value} {k : Fin 4} {v : Int64} (hd : decode bc pc = .ok (.lload_n k, 1)) (hq : pc + 1 = q) (hl : Ls[k.val]? = some (.val (.long v))) (k : Go p e below F (T.setTop (mkF m q Ls (.long v :: st)))) : Go p e below F (T.setTop (mkF m pc Ls st)) := by
  subst hq
  exact Go.st (fun t h => XS.lloadN A.pt A.1.1 rfl (hb A.1.2.2.2.1 hd) hl h) k
theorem Here.lload (A : Here p l e R s m args below meth c Z a0 tbl own nm bc mxl rt n0 T L cells slots) {pc q : Nat} {Ls : Array Slot} {st : List Value} {k : Nat} {v : Int64} (hd : decode bc pc = .ok (.lload k, 2)) (hq : pc + 2 = q) (hl : Ls[k]? = some (.val (.long v))) (k : Go p e below F (T.setTop (mkF m q Ls (.long v :: st)))) : Go p e below F (T.setTop (mkF m pc Ls st)) := by
  subst hq
  exact Go.st (fun t h => XS.lload A.pt A.1.1 rfl (hb A.1.2.2.2.1 hd) hl h) k
theorem Here.lstoreN (A : Here p l e R s m args below meth c Z a0 tbl own nm bc mxl rt n0 T L cells slots) {pc q : Nat} {Ls : Array Slot} {st : List Value} {k : Fin 4} {v : Int64} {l' : Array Slot} (hd : decode bc pc = .ok (.lstore_n k, 1)) (hq : pc + 1 = q) (hl : storeLocals Ls k.val (.long v) = some l') (k : Go p e below F (T.setTop (mkF m q l' st))) : Go p e below F (T.setTop (mkF m pc Ls (.long v :: st))) := by
  subst hq
  exact Go.st (fun t h => XS.lstoreN A.pt A.1.1 rfl (hb A.1.2.2.2.1 hd) rfl hl h) k
theorem Here.lstore (A : Here p l e R s m args below meth c Z a0 tbl own nm bc mxl rt n0 T L cells slots) {pc q : Nat} {Ls : Array Slot} {st : List Value} {k : Nat} {v : Int64} {l' : Array Slot} (hd : decode bc pc = .ok (.lstore k, 2)) (hq : pc + 2 = q) (hl : storeLocals Ls k (.long v) = some l') (k : Go p e below F (T.setTop (mkF m q l' st))) : Go p e below F (T.setTop (mkF m pc Ls (.long v :: st))) := by
  subst hq
  exact Go.st (fun t h => XS.lstore A.pt A.1.1 rfl (hb A.1.2.2.2.1 hd) rfl hl h) k
theorem Here.aloadN (A : Here p l e R s m args below meth c Z a0 tbl own nm bc mxl rt n0 T L cells slots) {pc q : Nat} {Ls : Array Slot} {st : List Value} {k : Fin 4} {v : Value} (hd : decode bc pc = .ok (.aload_n k, 1)) (hq : pc + 1 = q) (hl : Ls[k.val]? = some (.val v)) (hr : v.isRef = true) (k : Go p e below F (T.setTop (mkF m q Ls (v :: st)))) : Go p e below F (T.setTop (mkF m pc Ls st)) := by
  subst hq
  exact Go.st (fun t h => XS.aloadN A.pt A.1.1 rfl (hb A.1.2.2.2.1 hd) hl hr h) k
theorem Here.aload (A : Here p l e R s m args below meth c Z a0 tbl own nm bc mxl rt n0 T L cells slots) {pc q : Nat} {Ls : Array Slot} {st : List Value} {k : Nat} {v : Value} (hd : decode bc pc = .ok (.aload k, 2)) (hq : pc + 2 = q) (hl : Ls[k]? = some (.val v)) (hr : v.isRef = true) (k : Go p e below F (T.setTop (mkF m q Ls (v :: st)))) : Go p e below F (T.setTop (mkF m pc Ls st)) := by
  subst hq
  exact Go.st (fun t h => XS.aload A.pt A.1.1 rfl (hb A.1.2.2.2.1 hd) hl hr h) k
theorem Here.astoreN (A : Here p l e R s m args below meth c Z a0 tbl own nm bc mxl rt n0 T L cells slots) {pc q : Nat} {Ls : Array Slot} {st : List Value} {k : Fin 4} {v : Value} {l' : Array Slot} (hd : decode bc pc = .ok (.astore_n k, 1)) (hq : pc + 1 = q) (hr : v.isRef = true) (hl : storeLocals Ls k.val v = some l') (k : Go p e below F (T.setTop (mkF m q l' st))) : Go p e below F (T.setTop (mkF m pc Ls (v :: st))) := by
  subst hq
  exact Go.st (fun t h => XS.astoreN A.pt A.1.1 rfl (hb A.1.2.2.2.1 hd) rfl hr hl h) k
theorem Here.astore (A : Here p l e R s m args below meth c Z a0 tbl own nm bc mxl rt n0 T L cells slots) {pc q : Nat} {Ls : Array Slot} {st : List Value} {k : Nat} {v : Value} {l' : Array Slot} (hd : decode bc pc = .ok (.astore k, 2)) (hq : pc + 2 = q) (hr : v.isRef = true) (hl : storeLocals Ls k v = some l') (k : Go p e below F (T.setTop (mkF m q l' st))) : Go p e below F (T.setTop (mkF m pc Ls (v :: st))) := by
  subst hq
  exact Go.st (fun t h => XS.astore A.pt A.1.1 rfl (hb A.1.2.2.2.1 hd) rfl hr hl h) k
theorem Here.iconst (A : Here p l e R s m args below meth c Z a0 tbl own nm bc mxl rt n0 T L cells slots) {pc q : Nat} {Ls : Array Slot} {st : List Value} {i : Int} {v : Int32} (hd : decode bc pc = .ok (.iconst i, 1)) (hq : pc + 1 = q) (hv : Int32.ofInt i = v) (k : Go p e below F (T.setTop (mkF m q Ls (.int v :: st)))) : Go p e below F (T.setTop (mkF m pc Ls st)) := by
  subst hq hv
  exact Go.st (fun t h => XS.iconst A.pt A.1.1 rfl (hb A.1.2.2.2.1 hd)  h) k
theorem Here.bipush (A : Here p l e R s m args below meth c Z a0 tbl own nm bc mxl rt n0 T L cells slots) {pc q : Nat} {Ls : Array Slot} {st : List Value} {i : Int} {v : Int32} (hd : decode bc pc = .ok (.bipush i, 2)) (hq : pc + 2 = q) (hv : (Int8.ofInt i).toInt32 = v) (k : Go p e below F (T.setTop (mkF m q Ls (.int v :: st)))) : Go p e below F (T.setTop (mkF m pc Ls st)) := by
  subst hq hv
  exact Go.st (fun t h => XS.bipush A.pt A.1.1 rfl (hb A.1.2.2.2.1 hd)  h) k
theorem Here.sipush (A : Here p l e R s m args below meth c Z a0 tbl own nm bc mxl rt n0 T L cells slots) {pc q : Nat} {Ls : Array Slot} {st : List Value} {i : Int} {v : Int32} (hd : decode bc pc = .ok (.sipush i, 3)) (hq : pc + 3 = q) (hv : (Int16.ofInt i).toInt32 = v) (k : Go p e below F (T.setTop (mkF m q Ls (.int v :: st)))) : Go p e below F (T.setTop (mkF m pc Ls st)) := by
  subst hq hv
  exact Go.st (fun t h => XS.sipush A.pt A.1.1 rfl (hb A.1.2.2.2.1 hd)  h) k
theorem Here.lconst (A : Here p l e R s m args below meth c Z a0 tbl own nm bc mxl rt n0 T L cells slots) {pc q : Nat} {Ls : Array Slot} {st : List Value} {i : Fin 2} {v : Int64} (hd : decode bc pc = .ok (.lconst i, 1)) (hq : pc + 1 = q) (hv : Int64.ofNat i = v) (k : Go p e below F (T.setTop (mkF m q Ls (.long v :: st)))) : Go p e below F (T.setTop (mkF m pc Ls st)) := by
  subst hq hv
  exact Go.st (fun t h => XS.lconst A.pt A.1.1 rfl (hb A.1.2.2.2.1 hd)  h) k
theorem Here.aconst_null (A : Here p l e R s m args below meth c Z a0 tbl own nm bc mxl rt n0 T L cells slots) {pc q : Nat} {Ls : Array Slot} {st : List Value}  (hd : decode bc pc = .ok (.aconst_null, 1)) (hq : pc + 1 = q)  (k : Go p e below F (T.setTop (mkF m q Ls (.null :: st)))) : Go p e below F (T.setTop (mkF m pc Ls st)) := by
  subst hq
  exact Go.st (fun t h => XS.aconstNull A.pt A.1.1 rfl (hb A.1.2.2.2.1 hd)  h) k
theorem Here.dup (A : Here p l e R s m args below meth c Z a0 tbl own nm bc mxl rt n0 T L cells slots) {pc q : Nat} {Ls : Array Slot} {st : List Value} {v : Value} (hd : decode bc pc = .ok (.dup, 1)) (hq : pc + 1 = q) (hc : v.category = 1) (k : Go p e below F (T.setTop (mkF m q Ls (v :: v :: st)))) : Go p e below F (T.setTop (mkF m pc Ls (v :: st))) := by
  subst hq
  exact Go.st (fun t h => XS.dup A.pt A.1.1 rfl (hb A.1.2.2.2.1 hd) rfl hc h) k
theorem Here.dup_x1 (A : Here p l e R s m args below meth c Z a0 tbl own nm bc mxl rt n0 T L cells slots) {pc q : Nat} {Ls : Array Slot} {st : List Value} {v w : Value} (hd : decode bc pc = .ok (.dup_x1, 1)) (hq : pc + 1 = q) (hc : v.category = 1) (hc' : w.category = 1) (k : Go p e below F (T.setTop (mkF m q Ls (v :: w :: v :: st)))) : Go p e below F (T.setTop (mkF m pc Ls (v :: w :: st))) := by
  subst hq
  exact Go.st (fun t h => XS.dupX1 A.pt A.1.1 rfl (hb A.1.2.2.2.1 hd) rfl hc hc' h) k
theorem Here.dup2 (A : Here p l e R s m args below meth c Z a0 tbl own nm bc mxl rt n0 T L cells slots) {pc q : Nat} {Ls : Array Slot} {st : List Value} {v w : Value} (hd : decode bc pc = .ok (.dup2, 1)) (hq : pc + 1 = q) (hc : v.category = 1) (hc' : w.category = 1) (k : Go p e below F (T.setTop (mkF m q Ls (v :: w :: v :: w :: st)))) : Go p e below F (T.setTop (mkF m pc Ls (v :: w :: st))) := by
  subst hq
  exact Go.st (fun t h => XT.dup2 A.pt A.1.1 rfl (hb A.1.2.2.2.1 hd) rfl hc hc' h) k
theorem Here.pop (A : Here p l e R s m args below meth c Z a0 tbl own nm bc mxl rt n0 T L cells slots) {pc q : Nat} {Ls : Array Slot} {st : List Value} {v : Value} (hd : decode bc pc = .ok (.pop, 1)) (hq : pc + 1 = q) (hc : v.category = 1) (k : Go p e below F (T.setTop (mkF m q Ls st))) : Go p e below F (T.setTop (mkF m pc Ls (v :: st))) := by
  subst hq
  exact Go.st (fun t h => XS.pop A.pt A.1.1 rfl (hb A.1.2.2.2.1 hd) rfl hc h) k
theorem Here.iinc (A : Here p l e R s m args below meth c Z a0 tbl own nm bc mxl rt n0 T L cells slots) {pc q : Nat} {Ls : Array Slot} {st : List Value} {k : Nat} {cst : Int} {x v : Int32} {l' : Array Slot} (hd : decode bc pc = .ok (.iinc k cst, 3)) (hq : pc + 3 = q) (hl : Ls[k]? = some (.val (.int x))) (hv : x + Int32.ofInt cst = v) (hl' : storeLocals Ls k (.int v) = some l') (k : Go p e below F (T.setTop (mkF m q l' st))) : Go p e below F (T.setTop (mkF m pc Ls st)) := by
  subst hq hv
  exact Go.st (fun t h => XS.iinc A.pt A.1.1 rfl (hb A.1.2.2.2.1 hd) hl hl' h) k
theorem Here.goto (A : Here p l e R s m args below meth c Z a0 tbl own nm bc mxl rt n0 T L cells slots) {pc r : Nat} {Ls : Array Slot} {st : List Value} {o : Int} (hd : decode bc pc = .ok (.goto o, 3)) (hr : (pc : Int) + o = (r : Int)) (k : Go p e below F (T.setTop (mkF m r Ls st))) : Go p e below F (T.setTop (mkF m pc Ls st)) :=
  Go.st (fun t h => XS.goto A.pt A.1.1 rfl (pc0 := pc) (pc' := r) rfl (hb A.1.2.2.2.1 hd) (by omega) (by omega) h) k
theorem Here.icmp_lt (A : Here p l e R s m args below meth c Z a0 tbl own nm bc mxl rt n0 T L cells slots) {pc q r : Nat} {Ls : Array Slot} {st : List Value} {x y : Int32} {o : Int} (hd : decode bc pc = .ok (.if_icmp .lt o, 3)) (hq : pc + 3 = q) (hr : (pc : Int) + o = (r : Int)) (kt : x < y → Go p e below F (T.setTop (mkF m r Ls st))) (kf : ¬ (x < y) → Go p e below F (T.setTop (mkF m q Ls st))) : Go p e below F (T.setTop (mkF m pc Ls (.int y :: .int x :: st))) := by
  by_cases hc : x < y
  · exact Go.st (fun t h => XS.icmpYes A.pt A.1.1 rfl (pc0 := pc) (pc' := r) rfl (hb A.1.2.2.2.1 hd) rfl (tlt hc).1 (by omega) (by omega) h) (kt hc)
  · subst hq; exact Go.st (fun t h => XS.icmpNo A.pt A.1.1 rfl (hb A.1.2.2.2.1 hd) rfl (flt hc).1 h) (kf hc)
theorem Here.if_lt (A : Here p l e R s m args below meth c Z a0 tbl own nm bc mxl rt n0 T L cells slots) {pc q r : Nat} {Ls : Array Slot} {st : List Value} {x : Int32} {o : Int} (hd : decode bc pc = .ok (.ifCond .lt o, 3)) (hq : pc + 3 = q) (hr : (pc : Int) + o = (r : Int)) (kt : x < (0 : Int32) → Go p e below F (T.setTop (mkF m r Ls st))) (kf : ¬ (x < (0 : Int32)) → Go p e below F (T.setTop (mkF m q Ls st))) : Go p e below F (T.setTop (mkF m pc Ls (.int x :: st))) := by
  by_cases hc : x < (0 : Int32)
  · exact Go.st (fun t h => XS.ifYes A.pt A.1.1 rfl (pc0 := pc) (pc' := r) rfl (hb A.1.2.2.2.1 hd) rfl ((if0 _ _).trans (tlt hc).1) (by omega) (by omega) h) (kt hc)
  · subst hq; exact Go.st (fun t h => XS.ifNo A.pt A.1.1 rfl (hb A.1.2.2.2.1 hd) rfl ((if0 _ _).trans (flt hc).1) h) (kf hc)
theorem Here.icmp_ge (A : Here p l e R s m args below meth c Z a0 tbl own nm bc mxl rt n0 T L cells slots) {pc q r : Nat} {Ls : Array Slot} {st : List Value} {x y : Int32} {o : Int} (hd : decode bc pc = .ok (.if_icmp .ge o, 3)) (hq : pc + 3 = q) (hr : (pc : Int) + o = (r : Int)) (kt : ¬ (x < y) → Go p e below F (T.setTop (mkF m r Ls st))) (kf : x < y → Go p e below F (T.setTop (mkF m q Ls st))) : Go p e below F (T.setTop (mkF m pc Ls (.int y :: .int x :: st))) := by
  by_cases hc : x < y
  · subst hq; exact Go.st (fun t h => XS.icmpNo A.pt A.1.1 rfl (hb A.1.2.2.2.1 hd) rfl (tlt hc).2.1 h) (kf hc)
  · exact Go.st (fun t h => XS.icmpYes A.pt A.1.1 rfl (pc0 := pc) (pc' := r) rfl (hb A.1.2.2.2.1 hd) rfl (flt hc).2.1 (by omega) (by omega) h) (kt hc)
theorem Here.if_ge (A : Here p l e R s m args below meth c Z a0 tbl own nm bc mxl rt n0 T L cells slots) {pc q r : Nat} {Ls : Array Slot} {st : List Value} {x : Int32} {o : Int} (hd : decode bc pc = .ok (.ifCond .ge o, 3)) (hq : pc + 3 = q) (hr : (pc : Int) + o = (r : Int)) (kt : ¬ (x < (0 : Int32)) → Go p e below F (T.setTop (mkF m r Ls st))) (kf : x < (0 : Int32) → Go p e below F (T.setTop (mkF m q Ls st))) : Go p e below F (T.setTop (mkF m pc Ls (.int x :: st))) := by
  by_cases hc : x < (0 : Int32)
  · subst hq; exact Go.st (fun t h => XS.ifNo A.pt A.1.1 rfl (hb A.1.2.2.2.1 hd) rfl ((if0 _ _).trans (tlt hc).2.1) h) (kf hc)
  · exact Go.st (fun t h => XS.ifYes A.pt A.1.1 rfl (pc0 := pc) (pc' := r) rfl (hb A.1.2.2.2.1 hd) rfl ((if0 _ _).trans (flt hc).2.1) (by omega) (by omega) h) (kt hc)
theorem Here.icmp_gt (A : Here p l e R s m args below meth c Z a0 tbl own nm bc mxl rt n0 T L cells slots) {pc q r : Nat} {Ls : Array Slot} {st : List Value} {x y : Int32} {o : Int} (hd : decode bc pc = .ok (.if_icmp .gt o, 3)) (hq : pc + 3 = q) (hr : (pc : Int) + o = (r : Int)) (kt : y < x → Go p e below F (T.setTop (mkF m r Ls st))) (kf : ¬ (y < x) → Go p e below F (T.setTop (mkF m q Ls st))) : Go p e below F (T.setTop (mkF m pc Ls (.int y :: .int x :: st))) := by
  by_cases hc : y < x
  · exact Go.st (fun t h => XS.icmpYes A.pt A.1.1 rfl (pc0 := pc) (pc' := r) rfl (hb A.1.2.2.2.1 hd) rfl (tlt hc).2.2.1 (by omega) (by omega) h) (kt hc)
  · subst hq; exact Go.st (fun t h => XS.icmpNo A.pt A.1.1 rfl (hb A.1.2.2.2.1 hd) rfl (flt hc).2.2.1 h) (kf hc)
theorem Here.if_gt (A : Here p l e R s m args below meth c Z a0 tbl own nm bc mxl rt n0 T L cells slots) {pc q r : Nat} {Ls : Array Slot} {st : List Value} {x : Int32} {o : Int} (hd : decode bc pc = .ok (.ifCond .gt o, 3)) (hq : pc + 3 = q) (hr : (pc : Int) + o = (r : Int)) (kt : (0 : Int32) < x → Go p e below F (T.setTop (mkF m r Ls st))) (kf : ¬ ((0 : Int32) < x) → Go p e below F (T.setTop (mkF m q Ls st))) : Go p e below F (T.setTop (mkF m pc Ls (.int x :: st))) := by
  by_cases hc : (0 : Int32) < x
  · exact Go.st (fun t h => XS.ifYes A.pt A.1.1 rfl (pc0 := pc) (pc' := r) rfl (hb A.1.2.2.2.1 hd) rfl ((if0 _ _).trans (tlt hc).2.2.1) (by omega) (by omega) h) (kt hc)
  · subst hq; exact Go.st (fun t h => XS.ifNo A.pt A.1.1 rfl (hb A.1.2.2.2.1 hd) rfl ((if0 _ _).trans (flt hc).2.2.1) h) (kf hc)
theorem Here.icmp_le (A : Here p l e R s m args below meth c Z a0 tbl own nm bc mxl rt n0 T L cells slots) {pc q r : Nat} {Ls : Array Slot} {st : List Value} {x y : Int32} {o : Int} (hd : decode bc pc = .ok (.if_icmp .le o, 3)) (hq : pc + 3 = q) (hr : (pc : Int) + o = (r : Int)) (kt : ¬ (y < x) → Go p e below F (T.setTop (mkF m r Ls st))) (kf : y < x → Go p e below F (T.setTop (mkF m q Ls st))) : Go p e below F (T.setTop (mkF m pc Ls (.int y :: .int x :: st))) := by
  by_cases hc : y < x
  · subst hq; exact Go.st (fun t h => XS.icmpNo A.pt A.1.1 rfl (hb A.1.2.2.2.1 hd) rfl (tlt hc).2.2.2 h) (kf hc)
  · exact Go.st (fun t h => XS.icmpYes A.pt A.1.1 rfl (pc0 := pc) (pc' := r) rfl (hb A.1.2.2.2.1 hd) rfl (flt hc).2.2.2 (by omega) (by omega) h) (kt hc)
theorem Here.if_le (A : Here p l e R s m args below meth c Z a0 tbl own nm bc mxl rt n0 T L cells slots) {pc q r : Nat} {Ls : Array Slot} {st : List Value} {x : Int32} {o : Int} (hd : decode bc pc = .ok (.ifCond .le o, 3)) (hq : pc + 3 = q) (hr : (pc : Int) + o = (r : Int)) (kt : ¬ ((0 : Int32) < x) → Go p e below F (T.setTop (mkF m r Ls st))) (kf : (0 : Int32) < x → Go p e below F (T.setTop (mkF m q Ls st))) : Go p e below F (T.setTop (mkF m pc Ls (.int x :: st))) := by
  by_cases hc : (0 : Int32) < x
  · subst hq; exact Go.st (fun t h => XS.ifNo A.pt A.1.1 rfl (hb A.1.2.2.2.1 hd) rfl ((if0 _ _).trans (tlt hc).2.2.2) h) (kf hc)
  · exact Go.st (fun t h => XS.ifYes A.pt A.1.1 rfl (pc0 := pc) (pc' := r) rfl (hb A.1.2.2.2.1 hd) rfl ((if0 _ _).trans (flt hc).2.2.2) (by omega) (by omega) h) (kt hc)
theorem Here.icmp_eq (A : Here p l e R s m args below meth c Z a0 tbl own nm bc mxl rt n0 T L cells slots) {pc q r : Nat} {Ls : Array Slot} {st : List Value} {x y : Int32} {o : Int} (hd : decode bc pc = .ok (.if_icmp .eq o, 3)) (hq : pc + 3 = q) (hr : (pc : Int) + o = (r : Int)) (kt : x = y → Go p e below F (T.setTop (mkF m r Ls st))) (kf : ¬ (x = y) → Go p e below F (T.setTop (mkF m q Ls st))) : Go p e below F (T.setTop (mkF m pc Ls (.int y :: .int x :: st))) := by
  by_cases hc : x = y
  · exact Go.st (fun t h => XS.icmpYes A.pt A.1.1 rfl (pc0 := pc) (pc' := r) rfl (hb A.1.2.2.2.1 hd) rfl (teq hc).1 (by omega) (by omega) h) (kt hc)
  · subst hq; exact Go.st (fun t h => XS.icmpNo A.pt A.1.1 rfl (hb A.1.2.2.2.1 hd) rfl (feq hc).1 h) (kf hc)
theorem Here.if_eq (A : Here p l e R s m args below meth c Z a0 tbl own nm bc mxl rt n0 T L cells slots) {pc q r : Nat} {Ls : Array Slot} {st : List Value} {x : Int32} {o : Int} (hd : decode bc pc = .ok (.ifCond .eq o, 3)) (hq : pc + 3 = q) (hr : (pc : Int) + o = (r : Int)) (kt : x = (0 : Int32) → Go p e below F (T.setTop (mkF m r Ls st))) (kf : ¬ (x = (0 : Int32)) → Go p e below F (T.setTop (mkF m q Ls st))) : Go p e below F (T.setTop (mkF m pc Ls (.int x :: st))) := by
  by_cases hc : x = (0 : Int32)
  · exact Go.st (fun t h => XS.ifYes A.pt A.1.1 rfl (pc0 := pc) (pc' := r) rfl (hb A.1.2.2.2.1 hd) rfl ((if0 _ _).trans (teq hc).1) (by omega) (by omega) h) (kt hc)
  · subst hq; exact Go.st (fun t h => XS.ifNo A.pt A.1.1 rfl (hb A.1.2.2.2.1 hd) rfl ((if0 _ _).trans (feq hc).1) h) (kf hc)
theorem Here.icmp_ne (A : Here p l e R s m args below meth c Z a0 tbl own nm bc mxl rt n0 T L cells slots) {pc q r : Nat} {Ls : Array Slot} {st : List Value} {x y : Int32} {o : Int} (hd : decode bc pc = .ok (.if_icmp .ne o, 3)) (hq : pc + 3 = q) (hr : (pc : Int) + o = (r : Int)) (kt : ¬ (x = y) → Go p e below F (T.setTop (mkF m r Ls st))) (kf : x = y → Go p e below F (T.setTop (mkF m q Ls st))) : Go p e below F (T.setTop (mkF m pc Ls (.int y :: .int x :: st))) := by
  by_cases hc : x = y
  · subst hq; exact Go.st (fun t h => XS.icmpNo A.pt A.1.1 rfl (hb A.1.2.2.2.1 hd) rfl (teq hc).2 h) (kf hc)
  · exact Go.st (fun t h => XS.icmpYes A.pt A.1.1 rfl (pc0 := pc) (pc' := r) rfl (hb A.1.2.2.2.1 hd) rfl (feq hc).2 (by omega) (by omega) h) (kt hc)
theorem Here.if_ne (A : Here p l e R s m args below meth c Z a0 tbl own nm bc mxl rt n0 T L cells slots) {pc q r : Nat} {Ls : Array Slot} {st : List Value} {x : Int32} {o : Int} (hd : decode bc pc = .ok (.ifCond .ne o, 3)) (hq : pc + 3 = q) (hr : (pc : Int) + o = (r : Int)) (kt : ¬ (x = (0 : Int32)) → Go p e below F (T.setTop (mkF m r Ls st))) (kf : x = (0 : Int32) → Go p e below F (T.setTop (mkF m q Ls st))) : Go p e below F (T.setTop (mkF m pc Ls (.int x :: st))) := by
  by_cases hc : x = (0 : Int32)
  · subst hq; exact Go.st (fun t h => XS.ifNo A.pt A.1.1 rfl (hb A.1.2.2.2.1 hd) rfl ((if0 _ _).trans (teq hc).2) h) (kf hc)
  · exact Go.st (fun t h => XS.ifYes A.pt A.1.1 rfl (pc0 := pc) (pc' := r) rfl (hb A.1.2.2.2.1 hd) rfl ((if0 _ _).trans (feq hc).2) (by omega) (by omega) h) (kt hc)
theorem Here.icmpT (A : Here p l e R s m args below meth c Z a0 tbl own nm bc mxl rt n0 T L cells slots) {pc r : Nat} {Ls : Array Slot} {st : List Value} {x y : Int32} {o : Int} {cd : ClassFile.Cond} (hd : decode bc pc = .ok (.if_icmp cd o, 3)) (hr : (pc : Int) + o = (r : Int)) (hc : if_icmp.holds cd x y = true) (k : Go p e below F (T.setTop (mkF m r Ls st))) : Go p e below F (T.setTop (mkF m pc Ls (.int y :: .int x :: st))) :=
  Go.st (fun t h => XS.icmpYes A.pt A.1.1 rfl (pc0 := pc) (pc' := r) rfl (hb A.1.2.2.2.1 hd) rfl hc (by omega) (by omega) h) k
theorem Here.icmpF (A : Here p l e R s m args below meth c Z a0 tbl own nm bc mxl rt n0 T L cells slots) {pc q : Nat} {Ls : Array Slot} {st : List Value} {x y : Int32} {o : Int} {cd : ClassFile.Cond} (hd : decode bc pc = .ok (.if_icmp cd o, 3)) (hq : pc + 3 = q) (hc : if_icmp.holds cd x y = false) (k : Go p e below F (T.setTop (mkF m q Ls st))) : Go p e below F (T.setTop (mkF m pc Ls (.int y :: .int x :: st))) := by
  subst hq; exact Go.st (fun t h => XS.icmpNo A.pt A.1.1 rfl (hb A.1.2.2.2.1 hd) rfl hc h) k
theorem Here.ifT (A : Here p l e R s m args below meth c Z a0 tbl own nm bc mxl rt n0 T L cells slots) {pc r : Nat} {Ls : Array Slot} {st : List Value} {x : Int32} {o : Int} {cd : ClassFile.Cond} (hd : decode bc pc = .ok (.ifCond cd o, 3)) (hr : (pc : Int) + o = (r : Int)) (hc : ifCond.holds cd x = true) (k : Go p e below F (T.setTop (mkF m r Ls st))) : Go p e below F (T.setTop (mkF m pc Ls (.int x :: st))) :=
  Go.st (fun t h => XS.ifYes A.pt A.1.1 rfl (pc0 := pc) (pc' := r) rfl (hb A.1.2.2.2.1 hd) rfl hc (by omega) (by omega) h) k
theorem Here.ifF (A : Here p l e R s m args below meth c Z a0 tbl own nm bc mxl rt n0 T L cells slots) {pc q : Nat} {Ls : Array Slot} {st : List Value} {x : Int32} {o : Int} {cd : ClassFile.Cond} (hd : decode bc pc = .ok (.ifCond cd o, 3)) (hq : pc + 3 = q) (hc : ifCond.holds cd x = false) (k : Go p e below F (T.setTop (mkF m q Ls st))) : Go p e below F (T.setTop (mkF m pc Ls (.int x :: st))) := by
  subst hq; exact Go.st (fun t h => XS.ifNo A.pt A.1.1 rfl (hb A.1.2.2.2.1 hd) rfl hc h) k
theorem Here.lcmp_lt (A : Here p l e R s m args below meth c Z a0 tbl own nm bc mxl rt n0 T L cells slots) {pc q q2 r : Nat} {Ls : Array Slot} {st : List Value} {x y : Int64} {o : Int} (hd : decode bc pc = .ok (.lcmp, 1)) (hq : pc + 1 = q) (hd2 : decode bc q = .ok (.ifCond .lt o, 3)) (hq2 : q + 3 = q2) (hr : (q : Int) + o = (r : Int)) (kt : x < y → Go p e below F (T.setTop (mkF m r Ls st))) (kf : ¬ (x < y) → Go p e below F (T.setTop (mkF m q2 Ls st))) : Go p e below F (T.setTop (mkF m pc Ls (.long y :: .long x :: st))) := by
  have key : Go p e below F (T.setTop (mkF m q Ls (.int (lcmpW x y) :: st))) := by
    by_cases hc : x < y
    · exact A.ifT hd2 hr ((if0 _ _).trans (tlt ((lw_lt x y).mpr hc)).1) (kt hc)
    · exact A.ifF hd2 hq2 ((if0 _ _).trans (flt (mt (lw_lt x y).mp hc)).1) (kf hc)
  subst hq
  exact Go.st (fun t h => XS.lcmp A.pt A.1.1 rfl (hb A.1.2.2.2.1 hd) rfl h) key
theorem Here.lcmp_ge (A : Here p l e R s m args below meth c Z a0 tbl own nm bc mxl rt n0 T L cells slots) {pc q q2 r : Nat} {Ls : Array Slot} {st : List Value} {x y : Int64} {o : Int} (hd : decode bc pc = .ok (.lcmp, 1)) (hq : pc + 1 = q) (hd2 : decode bc q = .ok (.ifCond .ge o, 3)) (hq2 : q + 3 = q2) (hr : (q : Int) + o = (r : Int)) (kt : ¬ (x < y) → Go p e below F (T.setTop (mkF m r Ls st))) (kf : x < y → Go p e below F (T.setTop (mkF m q2 Ls st))) : Go p e below F (T.setTop (mkF m pc Ls (.long y :: .long x :: st))) := by
  have key : Go p e below F (T.setTop (mkF m q Ls (.int (lcmpW x y) :: st))) := by
    by_cases hc : x < y
    · exact A.ifF hd2 hq2 ((if0 _ _).trans (tlt ((lw_lt x y).mpr hc)).2.1) (kf hc)
    · exact A.ifT hd2 hr ((if0 _ _).trans (flt (mt (lw_lt x y).mp hc)).2.1) (kt hc)
  subst hq
  exact Go.st (fun t h => XS.lcmp A.pt A.1.1 rfl (hb A.1.2.2.2.1 hd) rfl h) key
theorem Here.lcmp_gt (A : Here p l e R s m args below meth c Z a0 tbl own nm bc mxl rt n0 T L cells slots) {pc q q2 r : Nat} {Ls : Array Slot} {st : List Value} {x y : Int64} {o : Int} (hd : decode bc pc = .ok (.lcmp, 1)) (hq : pc + 1 = q) (hd2 : decode bc q = .ok (.ifCond .gt o, 3)) (hq2 : q + 3 = q2) (hr : (q : Int) + o = (r : Int)) (kt : y < x → Go p e below F (T.setTop (mkF m r Ls st))) (kf : ¬ (y < x) → Go p e below F (T.setTop (mkF m q2 Ls st))) : Go p e below F (T.setTop (mkF m pc Ls (.long y :: .long x :: st))) := by
  have key : Go p e below F (T.setTop (mkF m q Ls (.int (lcmpW x y) :: st))) := by
    by_cases hc : y < x
    · exact A.ifT hd2 hr ((if0 _ _).trans (tlt ((lw_gt x y).mpr hc)).2.2.1) (kt hc)
    · exact A.ifF hd2 hq2 ((if0 _ _).trans (flt (mt (lw_gt x y).mp hc)).2.2.1) (kf hc)
  subst hq
  exact Go.st (fun t h => XS.lcmp A.pt A.1.1 rfl (hb A.1.2.2.2.1 hd) rfl h) key
theorem Here.lcmp_le (A : Here p l e R s m args below meth c Z a0 tbl own nm bc mxl rt n0 T L cells slots) {pc q q2 r : Nat} {Ls : Array Slot} {st : List Value} {x y : Int64} {o : Int} (hd : decode bc pc = .ok (.lcmp, 1)) (hq : pc + 1 = q) (hd2 : decode bc q = .ok (.ifCond .le o, 3)) (hq2 : q + 3 = q2) (hr : (q : Int) + o = (r : Int)) (kt : ¬ (y < x) → Go p e below F (T.setTop (mkF m r Ls st))) (kf : y < x → Go p e below F (T.setTop (mkF m q2 Ls st))) : Go p e below F (T.setTop (mkF m pc Ls (.long y :: .long x :: st))) := by
  have key : Go p e below F (T.setTop (mkF m q Ls (.int (lcmpW x y) :: st))) := by
    by_cases hc : y < x
    · exact A.ifF hd2 hq2 ((if0 _ _).trans (tlt ((lw_gt x y).mpr hc)).2.2.2) (kf hc)
    · exact A.ifT hd2 hr ((if0 _ _).trans (flt (mt (lw_gt x y).mp hc)).2.2.2) (kt hc)
  subst hq
  exact Go.st (fun t h => XS.lcmp A.pt A.1.1 rfl (hb A.1.2.2.2.1 hd) rfl h) key
theorem Here.lcmp_eq (A : Here p l e R s m args below meth c Z a0 tbl own nm bc mxl rt n0 T L cells slots) {pc q q2 r : Nat} {Ls : Array Slot} {st : List Value} {x y : Int64} {o : Int} (hd : decode bc pc = .ok (.lcmp, 1)) (hq : pc + 1 = q) (hd2 : decode bc q = .ok (.ifCond .eq o, 3)) (hq2 : q + 3 = q2) (hr : (q : Int) + o = (r : Int)) (kt : x = y → Go p e below F (T.setTop (mkF m r Ls st))) (kf : ¬ (x = y) → Go p e below F (T.setTop (mkF m q2 Ls st))) : Go p e below F (T.setTop (mkF m pc Ls (.long y :: .long x :: st))) := by
  have key : Go p e below F (T.setTop (mkF m q Ls (.int (lcmpW x y) :: st))) := by
    by_cases hc : x = y
    · exact A.ifT hd2 hr ((if0 _ _).trans (teq ((lw_eq x y).mpr hc)).1) (kt hc)
    · exact A.ifF hd2 hq2 ((if0 _ _).trans (feq (mt (lw_eq x y).mp hc)).1) (kf hc)
  subst hq
  exact Go.st (fun t h => XS.lcmp A.pt A.1.1 rfl (hb A.1.2.2.2.1 hd) rfl h) key
theorem Here.lcmp_ne (A : Here p l e R s m args below meth c Z a0 tbl own nm bc mxl rt n0 T L cells slots) {pc q q2 r : Nat} {Ls : Array Slot} {st : List Value} {x y : Int64} {o : Int} (hd : decode bc pc = .ok (.lcmp, 1)) (hq : pc + 1 = q) (hd2 : decode bc q = .ok (.ifCond .ne o, 3)) (hq2 : q + 3 = q2) (hr : (q : Int) + o = (r : Int)) (kt : ¬ (x = y) → Go p e below F (T.setTop (mkF m r Ls st))) (kf : x = y → Go p e below F (T.setTop (mkF m q2 Ls st))) : Go p e below F (T.setTop (mkF m pc Ls (.long y :: .long x :: st))) := by
  have key : Go p e below F (T.setTop (mkF m q Ls (.int (lcmpW x y) :: st))) := by
    by_cases hc : x = y
    · exact A.ifF hd2 hq2 ((if0 _ _).trans (teq ((lw_eq x y).mpr hc)).2) (kf hc)
    · exact A.ifT hd2 hr ((if0 _ _).trans (feq (mt (lw_eq x y).mp hc)).2) (kt hc)
  subst hq
  exact Go.st (fun t h => XS.lcmp A.pt A.1.1 rfl (hb A.1.2.2.2.1 hd) rfl h) key
theorem Here.ifnonnullT (A : Here p l e R s m args below meth c Z a0 tbl own nm bc mxl rt n0 T L cells slots) {pc r : Nat} {Ls : Array Slot} {st : List Value} {b : Addr} {o : Int} (hd : decode bc pc = .ok (.ifnonnull o, 3)) (hr : (pc : Int) + o = (r : Int)) (k : Go p e below F (T.setTop (mkF m r Ls st))) : Go p e below F (T.setTop (mkF m pc Ls (.ref b :: st))) :=
  Go.st (fun t h => XS.ifnonnullYes A.pt A.1.1 rfl (pc0 := pc) (pc' := r) rfl (hb A.1.2.2.2.1 hd) rfl (by omega) (by omega) h) k
theorem Here.ifnonnullF (A : Here p l e R s m args below meth c Z a0 tbl own nm bc mxl rt n0 T L cells slots) {pc q : Nat} {Ls : Array Slot} {st : List Value} {o : Int} (hd : decode bc pc = .ok (.ifnonnull o, 3)) (hq : pc + 3 = q) (k : Go p e below F (T.setTop (mkF m q Ls st))) : Go p e below F (T.setTop (mkF m pc Ls (.null :: st))) := by
  subst hq; exact Go.st (fun t h => XS.ifnonnullNo A.pt A.1.1 rfl (hb A.1.2.2.2.1 hd) rfl h) k
theorem Here.ifnullT (A : Here p l e R s m args below meth c Z a0 tbl own nm bc mxl rt n0 T L cells slots) {pc r : Nat} {Ls : Array Slot} {st : List Value} {o : Int} (hd : decode bc pc = .ok (.ifnull o, 3)) (hr : (pc : Int) + o = (r : Int)) (k : Go p e below F (T.setTop (mkF m r Ls st))) : Go p e below F (T.setTop (mkF m pc Ls (.null :: st))) :=
  Go.st (fun t h => XS.ifnullYes A.pt A.1.1 rfl (pc0 := pc) (pc' := r) rfl (hb A.1.2.2.2.1 hd) rfl (by omega) (by omega) h) k
theorem Here.ifnullF (A : Here p l e R s m args below meth c Z a0 tbl own nm bc mxl rt n0 T L cells slots) {pc q : Nat} {Ls : Array Slot} {st : List Value} {b : Addr} {o : Int} (hd : decode bc pc = .ok (.ifnull o, 3)) (hq : pc + 3 = q) (k : Go p e below F (T.setTop (mkF m q Ls st))) : Go p e below F (T.setTop (mkF m pc Ls (.ref b :: st))) := by
  subst hq; exact Go.st (fun t h => XS.ifnullNo A.pt A.1.1 rfl (hb A.1.2.2.2.1 hd) rfl h) k
theorem Here.acmp (A : Here p l e R s m args below meth c Z a0 tbl own nm bc mxl rt n0 T L cells slots) {pc r : Nat} {Ls : Array Slot} {st : List Value} {x y : Value} {cd : ACond} {o : Int} {same : Bool} (hd : decode bc pc = .ok (.if_acmp cd o, 3)) (h1 : x.isRef = true) (h2 : y.isRef = true) (hs : decide (x = y) = same) (ho : 0 ≤ (pc : Int) + o) (hp : r = if acV cd same = true then ((pc : Int) + o).toNat else pc + 3) (k : Go p e below F (T.setTop (mkF m r Ls st))) : Go p e below F (T.setTop (mkF m pc Ls (y :: x :: st))) := by
  obtain ⟨_, X, _⟩ := A.2
  exact Go.st (fun t h => Jvm.RoadKit.acmp X A.1.1 rfl h1 h2 (pc0 := pc) (pc' := r) (same := same) rfl (hb A.1.2.2.2.1 hd) rfl hs ho hp h) k
theorem Here.ldc (A : Here p l e R s m args below meth c Z a0 tbl own nm bc mxl rt n0 T L cells slots) {pc q w index : Nat} {Ls : Array Slot} {st : List Value} {v : Int32} (hd : decode bc pc = .ok (.ldc index, 2)) (hq : pc + 2 = q) (hw : tbl[w]? = some (Jvm.Cond.constant own index v)) (k : Go p e below F (T.setTop (mkF m q Ls (.int v :: st)))) : Go p e below F (T.setTop (mkF m pc Ls st)) := by
  obtain ⟨⟨hx, hZ, hown, hby, hml, hww, hnm, hrt, hlk⟩, locs, X, N, Z0, P⟩ := id A
  subst hq
  exact Go.st (X.ldcInt hx hown (mvT hZ (hww _ (List.mem_of_getElem? hw))) (g := mkF m pc Ls st) rfl (hb hby hd)) k
theorem Here.ldc_w (A : Here p l e R s m args below meth c Z a0 tbl own nm bc mxl rt n0 T L cells slots) {pc q w index : Nat} {Ls : Array Slot} {st : List Value} {v : Int32} (hd : decode bc pc = .ok (.ldc_w index, 3)) (hq : pc + 3 = q) (hw : tbl[w]? = some (Jvm.Cond.constant own index v)) (k : Go p e below F (T.setTop (mkF m q Ls (.int v :: st)))) : Go p e below F (T.setTop (mkF m pc Ls st)) := by
  obtain ⟨⟨hx, hZ, hown, hby, hml, hww, hnm, hrt, hlk⟩, locs, X, N, Z0, P⟩ := id A
  subst hq
  exact Go.st (X.ldcwInt hx hown (mvT hZ (hww _ (List.mem_of_getElem? hw))) (g := mkF m pc Ls st) rfl (hb hby hd)) k
theorem Here.ldc2_w (A : Here p l e R s m args below meth c Z a0 tbl own nm bc mxl rt n0 T L cells slots) {pc q w index : Nat} {Ls : Array Slot} {st : List Value} {v : Int64} (hd : decode bc pc = .ok (.ldc2_w index, 3)) (hq : pc + 3 = q) (hw : tbl[w]? = some (Jvm.Cond.constantLong own index v)) (k : Go p e below F (T.setTop (mkF m q Ls (.long v :: st)))) : Go p e below F (T.setTop (mkF m pc Ls st)) := by
  obtain ⟨⟨hx, hZ, hown, hby, hml, hww, hnm, hrt, hlk⟩, locs, X, N, Z0, P⟩ := id A
  subst hq
  exact Go.st (X.ldc2Long hx hown (mvT hZ (hww _ (List.mem_of_getElem? hw))) (g := mkF m pc Ls st) rfl (hb hby hd)) k
theorem Here.getF (A : Here p l e R s m args below meth c Z a0 tbl own nm bc mxl rt n0 T L cells slots) {pc q w i j index : Nat} {Ls : Array Slot} {st : List Value} {O n d C : String} {a : Addr} {fs : List ((String × String × String) × Value)} {v : Value} (hd : decode bc pc = .ok (.getfield index, 3)) (hq : pc + 3 = q) (hw : tbl[w]? = some (Jvm.Cond.fieldLink own index O n d)) (hL : L[i]? = some (a, .inl (C, fs))) (hf : fs[j]? = some ((O, n, d), v))
    (k : ∀ T', Here p l e R s m args below meth c Z a0 tbl own nm bc mxl rt n0 T' L cells slots → Go p e below F (T'.setTop (mkF m q Ls (v :: st)))) : Go p e below F (T.setTop (mkF m pc Ls (.ref a :: st))) := by
  obtain ⟨⟨hx, hZ, hown, hby, hml, hww, hnm, hrt, hlk⟩, locs, X, N, Z0, P⟩ := id A
  have Fd := (P.1 _ (List.mem_of_getElem? hL)).2.2 _ (List.mem_of_getElem? hf)
  obtain ⟨T', X', e', st'⟩ := Jvm.RoadKit.getF X hx hZ hown (host := "") (Or.inl (hww _ (List.mem_of_getElem? hw))) Via.refl rfl Fd (g := mkF m pc Ls (.ref a :: st)) rfl rfl (hb hby hd)
  subst hq
  exact Go.st st' (k T' ⟨A.1, locs, X', N, by rw [e']; exact Z0, by rw [e']; exact P⟩)
theorem Here.putF (A : Here p l e R s m args below meth c Z a0 tbl own nm bc mxl rt n0 T L cells slots) {pc q w w2 w3 i j index kk : Nat} {Ls : Array Slot} {st : List Value} {O n d C : String} {a : Addr} {fs : List ((String × String × String) × Value)} {v v' old : Value} {ty : FieldType} {L' : Obs} (hd : decode bc pc = .ok (.putfield index, 3)) (hq : pc + 3 = q) (hw : tbl[w]? = some (Jvm.Cond.fieldLink own index O n d)) (hL : L[i]? = some (a, .inl (C, fs))) (hf : fs[j]? = some ((O, n, d), old))
    (hl : Lays Z a0 C (fs.map Prod.fst)) (hp : tbl[w2]? = some (Jvm.Cond.lays C O n d) ∨ (tbl[w2]? = some (Jvm.Cond.laysFinal C O n d) ∧ own = O ∧ nm = "<init>")) (hi : tbl[w3]? = some (Jvm.Cond.instantiable C kk)) (hty : parseFieldDescriptor d = some ty) (hn : narrow ty v = v') (hfit : fits ty v' = true) (hL' : L.set i (a, .inl (C, fs.set j ((O, n, d), v'))) = L')
    (k : ∀ T', Here p l e R s m args below meth c Z a0 tbl own nm bc mxl rt n0 T' L' cells slots → Go p e below F (T'.setTop (mkF m q Ls st))) : Go p e below F (T.setTop (mkF m pc Ls (v :: .ref a :: st))) := by
  obtain ⟨⟨hx, hZ, hown, hby, hml, hww, hnm, hrt, hlk⟩, locs, X, N, Z0, P⟩ := id A
  have I := P.1 _ (List.mem_of_getElem? hL)
  obtain ⟨T', h', X', e', W, st'⟩ := Jvm.RoadKit.putFN X hx hZ hown (hww _ (List.mem_of_getElem? hw)) Via.refl rfl (I.2.2 _ (List.mem_of_getElem? hf)) I.2.1 (hp.imp (fun q => hww _ (List.mem_of_getElem? q)) (fun q => ⟨hww _ (List.mem_of_getElem? q.1), q.2.1, by rw [hnm]; exact q.2.2⟩)) (hww _ (List.mem_of_getElem? hi)) hty hn hfit (g := mkF m pc Ls (v :: .ref a :: st)) rfl rfl (hb hby hd)
  subst hq hL' e'
  exact Go.st st' (k T' ⟨A.1, _, X', Fr.snoc X' N I.1, by rw [W.size]; exact Z0, P.set W hL (I.2.put W hl hf)⟩)
theorem Here.newO (A : Here p l e R s m args below meth c Z a0 tbl own nm bc mxl rt n0 T L cells slots) {pc q w1 w2 w3 index n : Nat} {Ls : Array Slot} {st : List Value} {C : String} {fs : List ((String × String × String) × Value)} (hd : decode bc pc = .ok (.new index, 3)) (hq : pc + 3 = q) (h1 : tbl[w1]? = some (Jvm.Cond.classLink own index C)) (h2 : tbl[w2]? = some (Jvm.Cond.instantiable C n)) (h3 : tbl[w3]? = some (Jvm.Cond.initialized C)) (hl : Lays Z a0 C (fs.map Prod.fst))
    (hdef : (fs.all fun q => match parseFieldDescriptor q.1.2.2 with | some t => decide (defaultValue t = q.2) | none => false) = true) (hc : cells + 1 ≤ R.cells) (hs : slots + n ≤ R.slots)
    (k : ∀ T' a, Here p l e R s m args below meth c Z a0 tbl own nm bc mxl rt n0 T' ((a, .inl (C, fs)) :: L) (cells + 1) (slots + n) → Go p e below F (T'.setTop (mkF m q Ls (.ref a :: st)))) : Go p e below F (T.setTop (mkF m pc Ls st)) := by
  obtain ⟨⟨hx, hZ, hown, hby, hml, hww, hnm, hrt, hlk⟩, locs, X, N, Z0, P⟩ := id A
  obtain ⟨T', h', X', e', E, Ex, D, -, st'⟩ := Jvm.RoadKit.newO X hx hZ hown (hww _ (List.mem_of_getElem? h1)) (hww _ (List.mem_of_getElem? h2)) (hww _ (List.mem_of_getElem? h3)) rfl (g := mkF m pc Ls st) rfl (hb hby hd) hc hs
  subst hq e'
  refine Go.st st' (k T' _ ⟨A.1, locs, X', N, Nat.le_trans Z0 E.1, P.new E Z0 ⟨Ex, fun f hf => ?_⟩⟩)
  obtain ⟨lf, -⟩ := hl.1 _ (List.mem_map.mpr ⟨f, hf, rfl⟩)
  have q := List.all_eq_true.mp hdef f hf
  cases ht : parseFieldDescriptor f.1.2.2 with
  | none => rw [ht] at q; cases q
  | some t =>
    rw [ht] at q
    have q' : defaultValue t = f.2 := of_decide_eq_true q
    rw [← q']; exact D lf ht
theorem Here.newA (A : Here p l e R s m args below meth c Z a0 tbl own nm bc mxl rt n0 T L cells slots) {pc q w cap : Nat} {Ls : Array Slot} {st : List Value} {aty : ArrayType} {n : Int32} {ty : FieldType} {vs : List Value} (hd : decode bc pc = .ok (.newarray aty, 2)) (hq : pc + 2 = q) (hty : newarray.typeOf aty = ty) (hw : tbl[w]? = some (Jvm.Cond.arrayClass ty)) (hn : ¬ n < 0) (hcap : n.toNatClampNeg ≤ cap) (hb8 : cap * 8 ≤ 536870912) (hvs : List.replicate n.toNatClampNeg (defaultValue ty) = vs) (hc : cells + 1 ≤ R.cells) (hs : slots + cap ≤ R.slots)
    (k : ∀ T' a, Here p l e R s m args below meth c Z a0 tbl own nm bc mxl rt n0 T' ((a, .inr (ty, vs)) :: L) (cells + 1) (slots + cap) → Go p e below F (T'.setTop (mkF m q Ls (.ref a :: st)))) : Go p e below F (T.setTop (mkF m pc Ls (.int n :: st))) := by
  obtain ⟨⟨hx, hZ, hown, hby, hml, hww, hnm, hrt, hlk⟩, locs, X, N, Z0, P⟩ := id A
  subst hty
  obtain ⟨T', h', cA, X', e', E, Ar, Ex, st'⟩ := newPE X hx hZ (hww _ (List.mem_of_getElem? hw)) rfl (g := mkF m pc Ls (.int n :: st)) rfl (hb hby hd) rfl hn hcap hb8 hc hs rfl
  subst hq e' hvs
  refine Go.st st' (k T' _ ⟨A.1, locs, X', N, Nat.le_trans Z0 E.1, P.new E Z0 ⟨_, Ar, ?_, ?_, ?_, Ex⟩⟩)
  · simp [Jvm.RoadKit.newA]
  · rw [List.length_replicate]; omega
  · intro v hv
    rw [(List.mem_replicate.mp hv).2]; exact fits_def aty

theorem Here.iaload (A : Here p l e R s m args below meth c Z a0 tbl own nm bc mxl rt n0 T L cells slots) {pc q i : Nat} {Ls : Array Slot} {st : List Value} {a : Addr} {j : Int32} {vs : List Value} {v : Value} (hd : decode bc pc = .ok (.iaload, 1)) (hq : pc + 1 = q) (hL : L[i]? = some (a, .inr (.int, vs))) (hj : ¬ j < 0) (hv : vs[j.toNatClampNeg]? = some v) (k : Go p e below F (T.setTop (mkF m q Ls (v :: st)))) : Go p e below F (T.setTop (mkF m pc Ls (.int j :: .ref a :: st))) := by
  obtain ⟨⟨hx, hZ, hown, hby, hml, hww, hnm, hrt, hlk⟩, locs, X, N, Z0, P⟩ := id A
  obtain ⟨cl, Ar, r1, r2, r3, r4⟩ := (P.1 _ (List.mem_of_getElem? hL)).2
  have hlt : j.toNatClampNeg < vs.length := (List.getElem?_eq_some_iff.mp hv).1
  subst hq
  exact Go.st (fun t h => X.iaload hx (j := j) (v := v) Ar.1 (State.isArrayOf_alike hZ.alike Ar.2.1) Ar.2.2 (fun q => q.elim hj (fun q => by rw [r1] at q; simp at q; omega)) (by rw [r1]; simpa using hv) (g := mkF m pc Ls (.int j :: .ref a :: st)) rfl rfl (hb hby hd) t h) k
theorem Here.laload (A : Here p l e R s m args below meth c Z a0 tbl own nm bc mxl rt n0 T L cells slots) {pc q i : Nat} {Ls : Array Slot} {st : List Value} {a : Addr} {j : Int32} {vs : List Value} {v : Value} (hd : decode bc pc = .ok (.laload, 1)) (hq : pc + 1 = q) (hL : L[i]? = some (a, .inr (.long, vs))) (hj : ¬ j < 0) (hv : vs[j.toNatClampNeg]? = some v) (k : Go p e below F (T.setTop (mkF m q Ls (v :: st)))) : Go p e below F (T.setTop (mkF m pc Ls (.int j :: .ref a :: st))) := by
  obtain ⟨⟨hx, hZ, hown, hby, hml, hww, hnm, hrt, hlk⟩, locs, X, N, Z0, P⟩ := id A
  obtain ⟨cl, Ar, r1, r2, r3, r4⟩ := (P.1 _ (List.mem_of_getElem? hL)).2
  have hlt : j.toNatClampNeg < vs.length := (List.getElem?_eq_some_iff.mp hv).1
  subst hq
  exact Go.st (fun t h => X.laload hx (j := j) (v := v) Ar.1 (State.isArrayOf_alike hZ.alike Ar.2.1) Ar.2.2 (fun q => q.elim hj (fun q => by rw [r1] at q; simp at q; omega)) (by rw [r1]; simpa using hv) (g := mkF m pc Ls (.int j :: .ref a :: st)) rfl rfl (hb hby hd) t h) k
theorem Here.baloadB (A : Here p l e R s m args below meth c Z a0 tbl own nm bc mxl rt n0 T L cells slots) {pc q i : Nat} {Ls : Array Slot} {st : List Value} {a : Addr} {j : Int32} {vs : List Value} {v : Value} (hd : decode bc pc = .ok (.baload, 1)) (hq : pc + 1 = q) (hL : L[i]? = some (a, .inr (.byte, vs))) (hj : ¬ j < 0) (hv : vs[j.toNatClampNeg]? = some v) (k : Go p e below F (T.setTop (mkF m q Ls (v :: st)))) : Go p e below F (T.setTop (mkF m pc Ls (.int j :: .ref a :: st))) := by
  obtain ⟨⟨hx, hZ, hown, hby, hml, hww, hnm, hrt, hlk⟩, locs, X, N, Z0, P⟩ := id A
  obtain ⟨cl, Ar, r1, r2, r3, r4⟩ := (P.1 _ (List.mem_of_getElem? hL)).2
  have hlt : j.toNatClampNeg < vs.length := (List.getElem?_eq_some_iff.mp hv).1
  subst hq
  exact Go.st (fun t h => X.baloadBytes hx (j := j) (v := v) Ar.1 (State.isArrayOf_alike hZ.alike Ar.2.1) Ar.2.2 (fun q => q.elim hj (fun q => by rw [r1] at q; simp at q; omega)) (by rw [r1]; simpa using hv) (g := mkF m pc Ls (.int j :: .ref a :: st)) rfl rfl (hb hby hd) t h) k
theorem Here.baloadZ (A : Here p l e R s m args below meth c Z a0 tbl own nm bc mxl rt n0 T L cells slots) {pc q i : Nat} {Ls : Array Slot} {st : List Value} {a : Addr} {j : Int32} {vs : List Value} {v : Value} (hd : decode bc pc = .ok (.baload, 1)) (hq : pc + 1 = q) (hL : L[i]? = some (a, .inr (.boolean, vs))) (hj : ¬ j < 0) (hv : vs[j.toNatClampNeg]? = some v) (k : Go p e below F (T.setTop (mkF m q Ls (v :: st)))) : Go p e below F (T.setTop (mkF m pc Ls (.int j :: .ref a :: st))) := by
  obtain ⟨⟨hx, hZ, hown, hby, hml, hww, hnm, hrt, hlk⟩, locs, X, N, Z0, P⟩ := id A
  obtain ⟨cl, Ar, r1, r2, r3, r4⟩ := (P.1 _ (List.mem_of_getElem? hL)).2
  have hlt : j.toNatClampNeg < vs.length := (List.getElem?_eq_some_iff.mp hv).1
  subst hq
  exact Go.st (fun t h => X.baloadBooleans hx (j := j) (v := v) Ar.1 (State.isArrayOf_alike hZ.alike Ar.2.1) Ar.2.2 (fun q => q.elim hj (fun q => by rw [r1] at q; simp at q; omega)) (by rw [r1]; simpa using hv) (g := mkF m pc Ls (.int j :: .ref a :: st)) rfl rfl (hb hby hd) t h) k
theorem Here.iastore (A : Here p l e R s m args below meth c Z a0 tbl own nm bc mxl rt n0 T L cells slots) {pc q i : Nat} {Ls : Array Slot} {st : List Value} {a : Addr} {j : Int32} {x x' : Int32} {vs : List Value} {L' : Obs} (hd : decode bc pc = .ok (.iastore, 1)) (hq : pc + 1 = q) (hL : L[i]? = some (a, .inr (.int, vs))) (hj : ¬ j < 0) (hlt : j.toNatClampNeg < vs.length) (hx' : x = x') (hL' : L.set i (a, .inr (.int, vs.set j.toNatClampNeg (.int x'))) = L') (k : ∀ T', Here p l e R s m args below meth c Z a0 tbl own nm bc mxl rt n0 T' L' cells slots → Go p e below F (T'.setTop (mkF m q Ls st))) : Go p e below F (T.setTop (mkF m pc Ls (.int x :: .int j :: .ref a :: st))) := by
  obtain ⟨⟨hx, hZ, hown, hby, hml, hww, hnm, hrt, hlk⟩, locs, X, N, Z0, P⟩ := id A
  have I := P.1 _ (List.mem_of_getElem? hL)
  obtain ⟨cl, Ar, r1, r2, r3, r4⟩ := id I.2
  obtain ⟨T', h', X', e', W, st'⟩ := stI X hx hZ rfl Ar (j := j) (x := x) (fun q => q.elim hj (fun q => by rw [r1] at q; simp at q; omega)) (g := mkF m pc Ls (.int x :: .int j :: .ref a :: st)) rfl rfl (hb hby hd)
  subst hq hL' e' hx'
  exact Go.st st' (k T' ⟨A.1, _, X', Fr.snoc X' N I.1, by rw [W.size]; exact Z0, P.set W hL (Ara.put (show Ara Z T.heap a .int vs from I.2) W rfl)⟩)
theorem Here.lastore (A : Here p l e R s m args below meth c Z a0 tbl own nm bc mxl rt n0 T L cells slots) {pc q i : Nat} {Ls : Array Slot} {st : List Value} {a : Addr} {j : Int32} {x x' : Int64} {vs : List Value} {L' : Obs} (hd : decode bc pc = .ok (.lastore, 1)) (hq : pc + 1 = q) (hL : L[i]? = some (a, .inr (.long, vs))) (hj : ¬ j < 0) (hlt : j.toNatClampNeg < vs.length) (hx' : x = x') (hL' : L.set i (a, .inr (.long, vs.set j.toNatClampNeg (.long x'))) = L') (k : ∀ T', Here p l e R s m args below meth c Z a0 tbl own nm bc mxl rt n0 T' L' cells slots → Go p e below F (T'.setTop (mkF m q Ls st))) : Go p e below F (T.setTop (mkF m pc Ls (.long x :: .int j :: .ref a :: st))) := by
  obtain ⟨⟨hx, hZ, hown, hby, hml, hww, hnm, hrt, hlk⟩, locs, X, N, Z0, P⟩ := id A
  have I := P.1 _ (List.mem_of_getElem? hL)
  obtain ⟨cl, Ar, r1, r2, r3, r4⟩ := id I.2
  obtain ⟨T', h', X', e', W, st'⟩ := stJ X hx hZ rfl Ar (j := j) (x := x) (fun q => q.elim hj (fun q => by rw [r1] at q; simp at q; omega)) (g := mkF m pc Ls (.long x :: .int j :: .ref a :: st)) rfl rfl (hb hby hd)
  subst hq hL' e' hx'
  exact Go.st st' (k T' ⟨A.1, _, X', Fr.snoc X' N I.1, by rw [W.size]; exact Z0, P.set W hL (Ara.put (show Ara Z T.heap a .long vs from I.2) W rfl)⟩)
theorem Here.bastoreB (A : Here p l e R s m args below meth c Z a0 tbl own nm bc mxl rt n0 T L cells slots) {pc q i : Nat} {Ls : Array Slot} {st : List Value} {a : Addr} {j : Int32} {x x' : Int32} {vs : List Value} {L' : Obs} (hd : decode bc pc = .ok (.bastore, 1)) (hq : pc + 1 = q) (hL : L[i]? = some (a, .inr (.byte, vs))) (hj : ¬ j < 0) (hlt : j.toNatClampNeg < vs.length) (hx' : (nar .byte x) = x') (hL' : L.set i (a, .inr (.byte, vs.set j.toNatClampNeg (.int x'))) = L') (k : ∀ T', Here p l e R s m args below meth c Z a0 tbl own nm bc mxl rt n0 T' L' cells slots → Go p e below F (T'.setTop (mkF m q Ls st))) : Go p e below F (T.setTop (mkF m pc Ls (.int x :: .int j :: .ref a :: st))) := by
  obtain ⟨⟨hx, hZ, hown, hby, hml, hww, hnm, hrt, hlk⟩, locs, X, N, Z0, P⟩ := id A
  have I := P.1 _ (List.mem_of_getElem? hL)
  obtain ⟨cl, Ar, r1, r2, r3, r4⟩ := id I.2
  obtain ⟨T', h', X', e', W, st'⟩ := stB X hx hZ rfl Ar (j := j) (x := x) (fun q => q.elim hj (fun q => by rw [r1] at q; simp at q; omega)) (g := mkF m pc Ls (.int x :: .int j :: .ref a :: st)) rfl rfl (hb hby hd)
  subst hq hL' e' hx'
  exact Go.st st' (k T' ⟨A.1, _, X', Fr.snoc X' N I.1, by rw [W.size]; exact Z0, P.set W hL (Ara.put (show Ara Z T.heap a .byte vs from I.2) W (fits_nar_byte _))⟩)
theorem Here.bastoreZ (A : Here p l e R s m args below meth c Z a0 tbl own nm bc mxl rt n0 T L cells slots) {pc q i : Nat} {Ls : Array Slot} {st : List Value} {a : Addr} {j : Int32} {x x' : Int32} {vs : List Value} {L' : Obs} (hd : decode bc pc = .ok (.bastore, 1)) (hq : pc + 1 = q) (hL : L[i]? = some (a, .inr (.boolean, vs))) (hj : ¬ j < 0) (hlt : j.toNatClampNeg < vs.length) (hx' : (nar .boolean x) = x') (hL' : L.set i (a, .inr (.boolean, vs.set j.toNatClampNeg (.int x'))) = L') (k : ∀ T', Here p l e R s m args below meth c Z a0 tbl own nm bc mxl rt n0 T' L' cells slots → Go p e below F (T'.setTop (mkF m q Ls st))) : Go p e below F (T.setTop (mkF m pc Ls (.int x :: .int j :: .ref a :: st))) := by
  obtain ⟨⟨hx, hZ, hown, hby, hml, hww, hnm, hrt, hlk⟩, locs, X, N, Z0, P⟩ := id A
  have I := P.1 _ (List.mem_of_getElem? hL)
  obtain ⟨cl, Ar, r1, r2, r3, r4⟩ := id I.2
  obtain ⟨T', h', X', e', W, st'⟩ := stZ X hx hZ rfl Ar (j := j) (x := x) (fun q => q.elim hj (fun q => by rw [r1] at q; simp at q; omega)) (g := mkF m pc Ls (.int x :: .int j :: .ref a :: st)) rfl rfl (hb hby hd)
  subst hq hL' e' hx'
  exact Go.st st' (k T' ⟨A.1, _, X', Fr.snoc X' N I.1, by rw [W.size]; exact Z0, P.set W hL (Ara.put (show Ara Z T.heap a .boolean vs from I.2) W (fits_nar_bool _))⟩)
theorem Here.arraylength (A : Here p l e R s m args below meth c Z a0 tbl own nm bc mxl rt n0 T L cells slots) {pc q i : Nat} {Ls : Array Slot} {st : List Value} {a : Addr} {ty : FieldType} {vs : List Value} {v : Int32} (hd : decode bc pc = .ok (.arraylength, 1)) (hq : pc + 1 = q) (hL : L[i]? = some (a, .inr (ty, vs))) (hv : vs.length.toInt32 = v) (k : Go p e below F (T.setTop (mkF m q Ls (.int v :: st)))) : Go p e below F (T.setTop (mkF m pc Ls (.ref a :: st))) := by
  obtain ⟨⟨hx, hZ, hown, hby, hml, hww, hnm, hrt, hlk⟩, locs, X, N, Z0, P⟩ := id A
  obtain ⟨cl, Ar, r1, r2, r3, r4⟩ := (P.1 _ (List.mem_of_getElem? hL)).2
  have hn : cl.slots.size = vs.length := by rw [r1]; simp
  subst hq hv
  exact Go.st (fun t h => X.arraylength hx Ar.1 (State.isArrayOf_alike hZ.alike Ar.2.1) (g := mkF m pc Ls (.ref a :: st)) rfl rfl (hb hby hd) t (by rw [hn]; exact h)) k
theorem Here.castArr (A : Here p l e R s m args below meth c Z a0 tbl own nm bc mxl rt n0 T L cells slots) {pc q i w index : Nat} {Ls : Array Slot} {st : List Value} {a : Addr} {ty : FieldType} {vs : List Value} {K : String} (hd : decode bc pc = .ok (.checkcast index, 3)) (hq : pc + 3 = q) (hw : tbl[w]? = some (Jvm.Cond.classLink own index K)) (hL : L[i]? = some (a, .inr (ty, vs))) (hK : "[" ++ ty.toString = K) (k : ∀ T', Here p l e R s m args below meth c Z a0 tbl own nm bc mxl rt n0 T' L cells slots → Go p e below F (T'.setTop (mkF m q Ls (.ref a :: st)))) : Go p e below F (T.setTop (mkF m pc Ls (.ref a :: st))) := by
  obtain ⟨⟨hx, hZ, hown, hby, hml, hww, hnm, hrt, hlk⟩, locs, X, N, Z0, P⟩ := id A
  obtain ⟨cl, Ar, r1, r2, r3, r4⟩ := (P.1 _ (List.mem_of_getElem? hL)).2
  subst hK hq
  obtain ⟨T', X', e', st'⟩ := castY X hx hZ hown (hww _ (List.mem_of_getElem? hw)) rfl (Ins.self r4) (g := mkF m pc Ls (.ref a :: st)) rfl rfl (hb hby hd)
  exact Go.st st' (k T' ⟨A.1, locs, X', N, by rw [e']; exact Z0, by rw [e']; exact P⟩)
theorem Here.clone (A : Here p l e R s m args below meth c Z a0 tbl own nm bc mxl rt n0 T L cells slots) {pc q i index W w1 w2 w3 w4 w5 w6 cap : Nat} {Ls : Array Slot} {st : List Value} {a : Addr} {ty : FieldType} {vs : List Value} {ad : String} (hd : decode bc pc = .ok (.invokevirtual index, 3)) (hq : pc + 3 = q) (hL : L[i]? = some (a, .inr (ty, vs))) (hK : "[" ++ ty.toString = ad)
    (h1 : tbl[w1]? = some (Jvm.Cond.methodLink own index ⟨ad, "clone", "()Ljava/lang/Object;"⟩)) (h2 : tbl[w2]? = some (Jvm.Cond.sameMethod ad "java/lang/Object" "clone" "()Ljava/lang/Object;")) (h3 : tbl[w3]? = some (Jvm.Cond.native ⟨"java/lang/Object", "clone", "()Ljava/lang/Object;"⟩)) (h4 : tbl[w4]? = some (Jvm.Cond.instanceMethod ⟨"java/lang/Object", "clone", "()Ljava/lang/Object;"⟩)) (h5 : tbl[w5]? = some (Jvm.Cond.selects ad ⟨ad, "clone", "()Ljava/lang/Object;"⟩ ⟨"java/lang/Object", "clone", "()Ljava/lang/Object;"⟩)) (h6 : tbl[w6]? = some (Jvm.Cond.castable ad "java/lang/Cloneable"))
    (hsz : Ls.size = mxl) (hW : (st.map fun v => v.category).sum = W) (hf : 1 ≤ R.frames) (hl : W + 14 ≤ R.locals) (hcap : vs.length ≤ cap) (hc : cells + 1 ≤ R.cells) (hs : slots + cap ≤ R.slots)
    (k : ∀ T' b, Here p l e R s m args below meth c Z a0 tbl own nm bc mxl rt n0 T' ((b, .inr (ty, vs)) :: L) (cells + 1) (slots + cap) → Go p e below F (T'.setTop (mkF m q Ls (.ref b :: st)))) : Go p e below F (T.setTop (mkF m pc Ls (.ref a :: st))) := by
  obtain ⟨⟨hx, hZ, hown, hby, hml, hww, hnm, hrt, hlk⟩, locs, X, N, Z0, P⟩ := id A
  obtain ⟨cl, Ar, r1, r2, r3, r4⟩ := (P.1 _ (List.mem_of_getElem? hL)).2
  subst hK hq
  have hn : cl.slots.size = vs.length := by rw [r1]; simp
  have FC : FitC Z cl := fitC_of Ar fun i hi v hv => r3 v (by rw [r1] at hv; exact List.mem_of_getElem? (by simpa using hv))
  obtain ⟨T', h', X', e', E, Ar', Ex, st'⟩ := cloneA X hx hZ hown (hww _ (List.mem_of_getElem? h1)) (hww _ (List.mem_of_getElem? h2)) (hww _ (List.mem_of_getElem? h3)) (hww _ (List.mem_of_getElem? h4)) (hww _ (List.mem_of_getElem? h5)) (hww _ (List.mem_of_getElem? h6)) rfl Ar r4 FC (g := mkF m pc Ls (.ref a :: st)) rfl (by rw [hml]; exact hsz) rfl (hb hby hd) hf (W := W) (cap := cap) (by show 2 * 0 + _ ≤ _; omega) hl (by omega) hc hs
  subst e'
  exact Go.st st' (k T' _ ⟨A.1, locs, X', N, Nat.le_trans Z0 E.1, P.new E Z0 ⟨_, Ar', r1, r2, r3, Ex⟩⟩)
theorem Here.initObj (A : Here p l e R s m args below meth c Z a0 tbl own nm bc mxl rt n0 T L cells slots) {pc q index w1 w2 w3 W : Nat} {Ls : Array Slot} {st : List Value} {a : Addr} (hd : decode bc pc = .ok (.invokespecial index, 3)) (hq : pc + 3 = q) (h1 : tbl[w1]? = some (Jvm.Cond.methodLink own index Lib.objectInit)) (h2 : tbl[w2]? = some (Jvm.Cond.instanceMethod Lib.objectInit)) (h3 : tbl[w3]? = some (Jvm.Cond.code Lib.objectInit ⟨#[0xb1]⟩ 1 none)) (hsz : Ls.size = mxl) (hW : (st.map fun v => v.category).sum = W) (hf : 1 ≤ R.frames) (hl : W + 12 ≤ R.locals) (k : ∀ T', Here p l e R s m args below meth c Z a0 tbl own nm bc mxl rt n0 T' L cells slots → Go p e below F (T'.setTop (mkF m q Ls st))) : Go p e below F (T.setTop (mkF m pc Ls (.ref a :: st))) := by
  obtain ⟨⟨hx, hZ, hown, hby, hml, hww, hnm, hrt, hlk⟩, locs, X, N, Z0, P⟩ := id A
  subst hq
  obtain ⟨T', X', e', st'⟩ := initO X hx hZ hown (hww _ (List.mem_of_getElem? h1)) (hww _ (List.mem_of_getElem? h2)) (hww _ (List.mem_of_getElem? h3)) rfl (g := mkF m pc Ls (.ref a :: st)) rfl (by rw [hml]; exact hsz) rfl (hb hby hd) hf (W := W) (by show 2 * 0 + _ ≤ _; omega) hl
  exact Go.st st' (k T' ⟨A.1, locs, X', N, by rw [e']; exact Z0, by rw [e']; exact P⟩)
theorem Here.front (A : Here p l e R s m args below meth c Z a0 tbl own nm bc mxl rt n0 T L cells slots) {i : Nat} {x : Addr × Ob} {L' : Obs} (hi : L[i]? = some x) (hL' : x :: L.eraseIdx i = L') : Here p l e R s m args below meth c Z a0 tbl own nm bc mxl rt n0 T L' cells slots := by
  obtain ⟨⟨hx, hZ, hown, hby, hml, hww, hnm, hrt, hlk⟩, locs, X, N, Z0, P⟩ := id A
  subst hL'
  exact ⟨A.1, locs, X, N, Z0, P.front hi⟩
theorem Here.ne (A : Here p l e R s m args below meth c Z a0 tbl own nm bc mxl rt n0 T L cells slots) {i j : Nat} {a b : Addr} {x y : Ob} (hi : L[i]? = some (a, x)) (hj : L[j]? = some (b, y)) (hn : i ≠ j) : a ≠ b := by
  obtain ⟨⟨hx, hZ, hown, hby, hml, hww, hnm, hrt, hlk⟩, locs, X, N, Z0, P⟩ := id A
  exact P.ne hi hj hn

theorem Here.ialoadM (A : Here p l e R s m args below meth c Z a0 tbl own nm bc mxl rt n0 T L cells slots) {pc q i : Nat} {Ls : Array Slot} {st : List Value} {a : Addr} {j : Int32} {xs : List Int32} {v : Int32} (hd : decode bc pc = .ok (.iaload, 1)) (hq : pc + 1 = q) (hL : L[i]? = some (a, .inr (.int, xs.map Value.int))) (hj : ¬ j < 0) (hv : xs[j.toNatClampNeg]? = some v) (k : Go p e below F (T.setTop (mkF m q Ls (Value.int v :: st)))) : Go p e below F (T.setTop (mkF m pc Ls (.int j :: .ref a :: st))) :=
  A.iaload hd hq hL hj (by rw [List.getElem?_map, hv]; rfl) k
theorem Here.laloadM (A : Here p l e R s m args below meth c Z a0 tbl own nm bc mxl rt n0 T L cells slots) {pc q i : Nat} {Ls : Array Slot} {st : List Value} {a : Addr} {j : Int32} {xs : List Int64} {v : Int64} (hd : decode bc pc = .ok (.laload, 1)) (hq : pc + 1 = q) (hL : L[i]? = some (a, .inr (.long, xs.map Value.long))) (hj : ¬ j < 0) (hv : xs[j.toNatClampNeg]? = some v) (k : Go p e below F (T.setTop (mkF m q Ls (Value.long v :: st)))) : Go p e below F (T.setTop (mkF m pc Ls (.int j :: .ref a :: st))) :=
  A.laload hd hq hL hj (by rw [List.getElem?_map, hv]; rfl) k
theorem Here.baloadBM (A : Here p l e R s m args below meth c Z a0 tbl own nm bc mxl rt n0 T L cells slots) {pc q i : Nat} {Ls : Array Slot} {st : List Value} {a : Addr} {j : Int32} {xs : List Int32} {v : Int32} (hd : decode bc pc = .ok (.baload, 1)) (hq : pc + 1 = q) (hL : L[i]? = some (a, .inr (.byte, xs.map Value.int))) (hj : ¬ j < 0) (hv : xs[j.toNatClampNeg]? = some v) (k : Go p e below F (T.setTop (mkF m q Ls (Value.int v :: st)))) : Go p e below F (T.setTop (mkF m pc Ls (.int j :: .ref a :: st))) :=
  A.baloadB hd hq hL hj (by rw [List.getElem?_map, hv]; rfl) k
theorem Here.baloadZM (A : Here p l e R s m args below meth c Z a0 tbl own nm bc mxl rt n0 T L cells slots) {pc q i : Nat} {Ls : Array Slot} {st : List Value} {a : Addr} {j : Int32} {xs : List Int32} {v : Int32} (hd : decode bc pc = .ok (.baload, 1)) (hq : pc + 1 = q) (hL : L[i]? = some (a, .inr (.boolean, xs.map Value.int))) (hj : ¬ j < 0) (hv : xs[j.toNatClampNeg]? = some v) (k : Go p e below F (T.setTop (mkF m q Ls (Value.int v :: st)))) : Go p e below F (T.setTop (mkF m pc Ls (.int j :: .ref a :: st))) :=
  A.baloadZ hd hq hL hj (by rw [List.getElem?_map, hv]; rfl) k
theorem Here.iastoreM (A : Here p l e R s m args below meth c Z a0 tbl own nm bc mxl rt n0 T L cells slots) {pc q i : Nat} {Ls : Array Slot} {st : List Value} {a : Addr} {j : Int32} {x x' : Int32} {xs : List Int32} {L' : Obs} (hd : decode bc pc = .ok (.iastore, 1)) (hq : pc + 1 = q) (hL : L[i]? = some (a, .inr (.int, xs.map Value.int))) (hj : ¬ j < 0) (hlt : j.toNatClampNeg < xs.length) (hx' : x = x') (hL' : L.set i (a, .inr (.int, (xs.set j.toNatClampNeg x').map Value.int)) = L') (k : ∀ T', Here p l e R s m args below meth c Z a0 tbl own nm bc mxl rt n0 T' L' cells slots → Go p e below F (T'.setTop (mkF m q Ls st))) : Go p e below F (T.setTop (mkF m pc Ls (Value.int x :: .int j :: .ref a :: st))) :=
  A.iastore hd hq hL hj (by rw [List.length_map]; exact hlt) hx' (by rw [← hL', List.map_set]) k
theorem Here.lastoreM (A : Here p l e R s m args below meth c Z a0 tbl own nm bc mxl rt n0 T L cells slots) {pc q i : Nat} {Ls : Array Slot} {st : List Value} {a : Addr} {j : Int32} {x x' : Int64} {xs : List Int64} {L' : Obs} (hd : decode bc pc = .ok (.lastore, 1)) (hq : pc + 1 = q) (hL : L[i]? = some (a, .inr (.long, xs.map Value.long))) (hj : ¬ j < 0) (hlt : j.toNatClampNeg < xs.length) (hx' : x = x') (hL' : L.set i (a, .inr (.long, (xs.set j.toNatClampNeg x').map Value.long)) = L') (k : ∀ T', Here p l e R s m args below meth c Z a0 tbl own nm bc mxl rt n0 T' L' cells slots → Go p e below F (T'.setTop (mkF m q Ls st))) : Go p e below F (T.setTop (mkF m pc Ls (Value.long x :: .int j :: .ref a :: st))) :=
  A.lastore hd hq hL hj (by rw [List.length_map]; exact hlt) hx' (by rw [← hL', List.map_set]) k
theorem Here.bastoreBM (A : Here p l e R s m args below meth c Z a0 tbl own nm bc mxl rt n0 T L cells slots) {pc q i : Nat} {Ls : Array Slot} {st : List Value} {a : Addr} {j : Int32} {x x' : Int32} {xs : List Int32} {L' : Obs} (hd : decode bc pc = .ok (.bastore, 1)) (hq : pc + 1 = q) (hL : L[i]? = some (a, .inr (.byte, xs.map Value.int))) (hj : ¬ j < 0) (hlt : j.toNatClampNeg < xs.length) (hx' : (nar .byte x) = x') (hL' : L.set i (a, .inr (.byte, (xs.set j.toNatClampNeg x').map Value.int)) = L') (k : ∀ T', Here p l e R s m args below meth c Z a0 tbl own nm bc mxl rt n0 T' L' cells slots → Go p e below F (T'.setTop (mkF m q Ls st))) : Go p e below F (T.setTop (mkF m pc Ls (Value.int x :: .int j :: .ref a :: st))) :=
  A.bastoreB hd hq hL hj (by rw [List.length_map]; exact hlt) hx' (by rw [← hL', List.map_set]) k
theorem Here.bastoreZM (A : Here p l e R s m args below meth c Z a0 tbl own nm bc mxl rt n0 T L cells slots) {pc q i : Nat} {Ls : Array Slot} {st : List Value} {a : Addr} {j : Int32} {x x' : Int32} {xs : List Int32} {L' : Obs} (hd : decode bc pc = .ok (.bastore, 1)) (hq : pc + 1 = q) (hL : L[i]? = some (a, .inr (.boolean, xs.map Value.int))) (hj : ¬ j < 0) (hlt : j.toNatClampNeg < xs.length) (hx' : (nar .boolean x) = x') (hL' : L.set i (a, .inr (.boolean, (xs.set j.toNatClampNeg x').map Value.int)) = L') (k : ∀ T', Here p l e R s m args below meth c Z a0 tbl own nm bc mxl rt n0 T' L' cells slots → Go p e below F (T'.setTop (mkF m q Ls st))) : Go p e below F (T.setTop (mkF m pc Ls (Value.int x :: .int j :: .ref a :: st))) :=
  A.bastoreZ hd hq hL hj (by rw [List.length_map]; exact hlt) hx' (by rw [← hL', List.map_set]) k
theorem Here.arraylengthM (A : Here p l e R s m args below meth c Z a0 tbl own nm bc mxl rt n0 T L cells slots) {pc q i : Nat} {Ls : Array Slot} {st : List Value} {a : Addr} {ty : FieldType} {α : Type} {f : α → Value} {xs : List α} {v : Int32} (hd : decode bc pc = .ok (.arraylength, 1)) (hq : pc + 1 = q) (hL : L[i]? = some (a, .inr (ty, xs.map f))) (hv : xs.length.toInt32 = v) (k : Go p e below F (T.setTop (mkF m q Ls (.int v :: st)))) : Go p e below F (T.setTop (mkF m pc Ls (.ref a :: st))) :=
  A.arraylength hd hq hL (by rw [List.length_map]; exact hv) k
theorem own_gd {α : Type} {xs : List α} {n : Nat} {d : α} (h : n < xs.length) : xs[n]? = some (xs.getD n d) := by simp [List.getD, h]
theorem Here.callS (A : Here p l e R s m args below meth c Z a0 tbl own nm bc mxl rt n0 T L cells slots) {pc q index W w1 w2 w3 w4 : Nat} {Ls : Array Slot} {st stk : List Value} {y : MethodName} {bytes : ByteArray} {ml : Nat} {rt' : Option FieldType} {rm : Room} {as : List Value} {Q : Option Value → Obs → Prop} (hd : decode bc pc = .ok (.invokestatic index, 3)) (hq : pc + 3 = q) (h1 : tbl[w1]? = some (Jvm.Cond.methodLink own index y)) (h2 : tbl[w2]? = some (Jvm.Cond.static y)) (h3 : tbl[w3]? = some (Jvm.Cond.initialized y.cls)) (h4 : tbl[w4]? = some (Jvm.Cond.code y bytes ml rt')) (hT : Triple l Z n0 y bytes ml rt' rm rm.cells rm.slots as L Q) (hy : y.cls ≠ "java/lang/invoke/MethodHandle" ∧ y.cls ≠ "java/lang/invoke/VarHandle") (hlen : ∃ ps r, parseMethodDescriptor y.desc = some ⟨ps, r⟩ ∧ as.length = ps.length) (hst : stk = as.reverse ++ st) (hsz : Ls.size = mxl) (hW : (st.map fun v => v.category).sum = W) (hf : rm.frames + 1 ≤ R.frames) (hl : W + (ml + 11) + rm.locals ≤ R.locals) (hc : cells + rm.cells ≤ R.cells) (hs : slots + rm.slots ≤ R.slots)
    (k : ∀ v T' L', Q v L' → Here p l e R s m args below meth c Z a0 tbl own nm bc mxl rt n0 T' L' (cells + rm.cells) (slots + rm.slots) → Go p e below F (T'.setTop (mkF m q Ls (v.toList ++ st)))) : Go p e below F (T.setTop (mkF m pc Ls stk)) := by
  obtain ⟨⟨hx, hZ, hown, hby, hml, hww, hnm, hrt, hlk⟩, locs, X, N, Z0, P⟩ := id A
  obtain ⟨ps, r, hps, hle⟩ := hlen
  subst hst hq
  obtain ⟨v, _, ⟨T1, L1, k1, n1⟩, -, X1, ⟨Lc, hQ, l1, y1, z1⟩, st1⟩ := Jvm.LawKit.callS X hx (y := y) hown (mvT hZ (hww _ (List.mem_of_getElem? h1))) (mvT hZ (hww _ (List.mem_of_getElem? h2))) (mvT hZ (hww _ (List.mem_of_getElem? h3))) (mvT hZ (hww _ (List.mem_of_getElem? h4))) hy (backOf (W := W) (Q := fun v h Lc => Fr n0 Lc ∧ n0 ≤ h.size ∧ ∃ L', Q v L' ∧ Pic Z n0 h L') (hT T.heap [] Z0 P) hZ (hww _ (List.mem_of_getElem? h4)) (hww _ (List.mem_of_getElem? h3)) hf hl) (g := mkF m pc Ls (as.reverse ++ st)) rfl (by rw [hml]; exact hsz) (argsL := as) (rest := st) (lenOf hps hle) rfl (by show 2 * 0 + _ ≤ _; omega) (hb hby hd) (fun _ _ => ⟨rfl, rfl, hc, hs⟩)
  dsimp only [Pt.U, Pt.locs, Pt.cells, Pt.slots] at X1 l1 y1 z1 st1 hQ
  subst l1 y1 z1
  obtain ⟨Nq, Zq, L', q, Pq⟩ := hQ
  exact Go.st st1 (k v T1 L' q ⟨A.1, _, X1, N.app Nq, Zq, Pq⟩)
theorem Here.callI (A : Here p l e R s m args below meth c Z a0 tbl own nm bc mxl rt n0 T L cells slots) {pc q index W w1 w2 w3 w4 : Nat} {Ls : Array Slot} {st stk : List Value} {a : Addr} {y : MethodName} {bytes : ByteArray} {ml : Nat} {rm : Room} {as : List Value} {Q : Option Value → Obs → Prop} (hd : decode bc pc = .ok (.invokespecial index, 3)) (hq : pc + 3 = q) (hy1 : y.name = "<init>") (h1 : tbl[w1]? = some (Jvm.Cond.methodLink own index y)) (h2 : tbl[w2]? = some (Jvm.Cond.instanceMethod y)) (h3 : tbl[w3]? = some (Jvm.Cond.initialized y.cls)) (h4 : tbl[w4]? = some (Jvm.Cond.code y bytes ml none)) (hT : Triple l Z n0 y bytes ml none rm rm.cells rm.slots (.ref a :: as) L Q) (hy : y.cls ≠ "java/lang/invoke/MethodHandle" ∧ y.cls ≠ "java/lang/invoke/VarHandle") (hlen : ∃ ps r, parseMethodDescriptor y.desc = some ⟨ps, r⟩ ∧ as.length = ps.length) (hst : stk = as.reverse ++ .ref a :: st) (hsz : Ls.size = mxl) (hW : (st.map fun v => v.category).sum = W) (hf : rm.frames + 1 ≤ R.frames) (hl : W + (ml + 11) + rm.locals ≤ R.locals) (hc : cells + rm.cells ≤ R.cells) (hs : slots + rm.slots ≤ R.slots)
    (k : ∀ v T' L', Q v L' → Here p l e R s m args below meth c Z a0 tbl own nm bc mxl rt n0 T' L' (cells + rm.cells) (slots + rm.slots) → Go p e below F (T'.setTop (mkF m q Ls (v.toList ++ st)))) : Go p e below F (T.setTop (mkF m pc Ls stk)) := by
  obtain ⟨⟨hx, hZ, hown, hby, hml, hww, hnm, hrt, hlk⟩, locs, X, N, Z0, P⟩ := id A
  obtain ⟨ps, r, hps, hle⟩ := hlen
  subst hst hq
  obtain ⟨v, _, ⟨T1, L1, k1, n1⟩, -, X1, ⟨Lc, hQ, l1, y1, z1⟩, st1⟩ := X.specialBack hx (y := y) hy1 hown (mvT hZ (hww _ (List.mem_of_getElem? h1))) (mvT hZ (hww _ (List.mem_of_getElem? h2))) (mvT hZ (hww _ (List.mem_of_getElem? h4))) hy (backOf (W := W) (Q := fun v h Lc => Fr n0 Lc ∧ n0 ≤ h.size ∧ ∃ L', Q v L' ∧ Pic Z n0 h L') (hT T.heap [] Z0 P) hZ (hww _ (List.mem_of_getElem? h4)) (hww _ (List.mem_of_getElem? h3)) hf hl) (g := mkF m pc Ls (as.reverse ++ .ref a :: st)) rfl (by rw [hml]; exact hsz) (Steps.refl _) (a := a) (argsL := as) (rest := st) (lenOf hps hle) rfl (by show 2 * 0 + _ ≤ _; omega) (hb hby hd) (fun _ _ => ⟨rfl, rfl, hc, hs⟩)
  dsimp only [Pt.U, Pt.locs, Pt.cells, Pt.slots] at X1 l1 y1 z1 st1 hQ
  subst l1 y1 z1
  obtain ⟨Nq, Zq, L', q, Pq⟩ := hQ
  exact Go.st (fun t h => st1.trans h) (k v T1 L' q ⟨A.1, _, X1, N.app Nq, Zq, Pq⟩)
theorem Here.callV (A : Here p l e R s m args below meth c Z a0 tbl own nm bc mxl rt n0 T L cells slots) {pc q index W i w1 w2 w3 w4 w5 w6 : Nat} {Ls : Array Slot} {st stk : List Value} {a : Addr} {C : String} {fs : List ((String × String × String) × Value)} {y : MethodName} {bytes : ByteArray} {ml : Nat} {rt' : Option FieldType} {rm : Room} {as : List Value} {Q : Option Value → Obs → Prop} (hd : decode bc pc = .ok (.invokevirtual index, 3)) (hq : pc + 3 = q) (hL : L[i]? = some (a, .inl (C, fs))) (h1 : tbl[w1]? = some (Jvm.Cond.methodLink own index y)) (h2 : tbl[w2]? = some (Jvm.Cond.declares y)) (h5 : tbl[w5]? = some (Jvm.Cond.selects C y y)) (h6 : tbl[w6]? = some (Jvm.Cond.instanceMethod y)) (h3 : tbl[w3]? = some (Jvm.Cond.initialized y.cls)) (h4 : tbl[w4]? = some (Jvm.Cond.code y bytes ml rt')) (hT : Triple l Z n0 y bytes ml rt' rm rm.cells rm.slots (.ref a :: as) L Q) (hy : y.cls ≠ "java/lang/invoke/MethodHandle" ∧ y.cls ≠ "java/lang/invoke/VarHandle") (hlen : ∃ ps r, parseMethodDescriptor y.desc = some ⟨ps, r⟩ ∧ as.length = ps.length) (hst : stk = as.reverse ++ .ref a :: st) (hsz : Ls.size = mxl) (hW : (st.map fun v => v.category).sum = W) (hf : rm.frames + 1 ≤ R.frames) (hl : W + (ml + 11) + rm.locals ≤ R.locals) (hc : cells + rm.cells ≤ R.cells) (hs : slots + rm.slots ≤ R.slots)
    (k : ∀ v T' L', Q v L' → Here p l e R s m args below meth c Z a0 tbl own nm bc mxl rt n0 T' L' (cells + rm.cells) (slots + rm.slots) → Go p e below F (T'.setTop (mkF m q Ls (v.toList ++ st)))) : Go p e below F (T.setTop (mkF m pc Ls stk)) := by
  obtain ⟨⟨hx, hZ, hown, hby, hml, hww, hnm, hrt, hlk⟩, locs, X, N, Z0, P⟩ := id A
  obtain ⟨ps, r, hps, hle⟩ := hlen
  subst hst hq
  obtain ⟨cq, kq, qa, qb, qc⟩ := isOf (T := T) hZ rfl (P.1 _ (List.mem_of_getElem? hL)).2.1
  obtain ⟨v, _, ⟨T1, L1, k1, n1⟩, -, X1, ⟨Lc, hQ, l1, y1, z1⟩, st1⟩ := X.virtualBack hx (y := y) (z := y) hown (mvT hZ (hww _ (List.mem_of_getElem? h1))) (mvT hZ (hww _ (List.mem_of_getElem? h2))) (notFace_of_selects (args := #[]) (mvT hZ (hww _ (List.mem_of_getElem? h5)))) (mvT hZ (hww _ (List.mem_of_getElem? h5))) (mvT hZ (hww _ (List.mem_of_getElem? h6))) hy (backOf (W := W) (Q := fun v h Lc => Fr n0 Lc ∧ n0 ≤ h.size ∧ ∃ L', Q v L' ∧ Pic Z n0 h L') (hT T.heap [] Z0 P) hZ (hww _ (List.mem_of_getElem? h4)) (hww _ (List.mem_of_getElem? h3)) hf hl) qa qc (g := mkF m pc Ls (as.reverse ++ .ref a :: st)) rfl (by rw [hml]; exact hsz) (Steps.refl _) (argsL := as) (rest := st) (lenOf hps hle) rfl (by show 2 * 0 + _ ≤ _; omega) (hb hby hd) (fun _ _ => ⟨rfl, rfl, hc, hs⟩)
  dsimp only [Pt.U, Pt.locs, Pt.cells, Pt.slots] at X1 l1 y1 z1 st1 hQ
  subst l1 y1 z1
  obtain ⟨Nq, Zq, L', q, Pq⟩ := hQ
  exact Go.st (fun t h => st1.trans h) (k v T1 L' q ⟨A.1, _, X1, N.app Nq, Zq, Pq⟩)

theorem Here.callP (A : Here p l e R s m args below meth c Z a0 tbl own nm bc mxl rt n0 T L cells slots) {pc q index W i w1 w2 w3 w4 w5 w6 kk : Nat} {Ls : Array Slot} {st stk : List Value} {a : Addr} {C : String} {fs : List ((String × String × String) × Value)} {y : MethodName} {bytes : ByteArray} {ml : Nat} {rt' : Option FieldType} {rm : Room} {as : List Value} {Q : Option Value → Obs → Prop} (hd : decode bc pc = .ok (.invokevirtual index, 3)) (hq : pc + 3 = q) (hL : L[i]? = some (a, .inl (C, fs))) (h1 : tbl[w1]? = some (Jvm.Cond.methodLink own index y)) (h2 : tbl[w2]? = some (Jvm.Cond.privateMethod y)) (h5 : tbl[w5]? = some (Jvm.Cond.instantiable y.cls kk)) (h6 : tbl[w6]? = some (Jvm.Cond.instanceMethod y)) (h3 : tbl[w3]? = some (Jvm.Cond.initialized y.cls)) (h4 : tbl[w4]? = some (Jvm.Cond.code y bytes ml rt')) (hT : Triple l Z n0 y bytes ml rt' rm rm.cells rm.slots (.ref a :: as) L Q) (hy : y.cls ≠ "java/lang/invoke/MethodHandle" ∧ y.cls ≠ "java/lang/invoke/VarHandle") (hlen : ∃ ps r, parseMethodDescriptor y.desc = some ⟨ps, r⟩ ∧ as.length = ps.length) (hst : stk = as.reverse ++ .ref a :: st) (hsz : Ls.size = mxl) (hW : (st.map fun v => v.category).sum = W) (hf : rm.frames + 1 ≤ R.frames) (hl : W + (ml + 11) + rm.locals ≤ R.locals) (hc : cells + rm.cells ≤ R.cells) (hs : slots + rm.slots ≤ R.slots)
    (k : ∀ v T' L', Q v L' → Here p l e R s m args below meth c Z a0 tbl own nm bc mxl rt n0 T' L' (cells + rm.cells) (slots + rm.slots) → Go p e below F (T'.setTop (mkF m q Ls (v.toList ++ st)))) : Go p e below F (T.setTop (mkF m pc Ls stk)) := by
  obtain ⟨⟨hx, hZ, hown, hby, hml, hww, hnm, hrt, hlk⟩, locs, X, N, Z0, P⟩ := id A
  obtain ⟨ps, r, hps, hle⟩ := hlen
  subst hst hq
  have hp : s.PrivateAt y := Cond.privateMethod_at (mvP hZ (hww _ (List.mem_of_getElem? h2)) (args := #[]))
  have hin : (Jvm.Cond.instanceMethod y).before args s = true := mvT hZ (hww _ (List.mem_of_getElem? h6))
  have hit : (Jvm.Cond.instantiable y.cls kk).before args s = true := mvT hZ (hww _ (List.mem_of_getElem? h5))
  obtain ⟨cI, kI, i1, i2, -, i4, -⟩ := Cond.instantiable_spec hit
  have hni : kI.isInterface = false := by simp only [Bool.or_eq_false_iff] at i4; exact i4.1
  have hsel := selects_self_of_private (args := args) i1 i2 hni hp hin hy
  obtain ⟨cq, q1, q2⟩ := (P.1 _ (List.mem_of_getElem? hL)).2.1.cell
  obtain ⟨v, _, ⟨T1, L1, k1, n1⟩, -, X1, ⟨Lc, hQ, l1, y1, z1⟩, st1⟩ := X.privateBack hx (y := y) hown (mvT hZ (hww _ (List.mem_of_getElem? h1))) hin hsel hp (mvT hZ (hww _ (List.mem_of_getElem? h4))) hy (backOf (W := W) (Q := fun v h Lc => Fr n0 Lc ∧ n0 ≤ h.size ∧ ∃ L', Q v L' ∧ Pic Z n0 h L') (hT T.heap [] Z0 P) hZ (hww _ (List.mem_of_getElem? h4)) (hww _ (List.mem_of_getElem? h3)) hf hl) (g := mkF m pc Ls (as.reverse ++ .ref a :: st)) rfl (by rw [hml]; exact hsz) (Steps.refl _) (a := a) q1 q2 (argsL := as) (rest := st) (lenOf hps hle) rfl (by show 2 * 0 + _ ≤ _; omega) (hb hby hd) (fun _ _ => ⟨rfl, rfl, hc, hs⟩)
  dsimp only [Pt.U, Pt.locs, Pt.cells, Pt.slots] at X1 l1 y1 z1 st1 hQ
  subst l1 y1 z1
  obtain ⟨Nq, Zq, L', q, Pq⟩ := hQ
  exact Go.st (fun t h => st1.trans h) (k v T1 L' q ⟨A.1, _, X1, N.app Nq, Zq, Pq⟩)
theorem Here.pop2L (A : Here p l e R s m args below meth c Z a0 tbl own nm bc mxl rt n0 T L cells slots) {pc q : Nat} {Ls : Array Slot} {st : List Value} {x : Int64} (hd : decode bc pc = .ok (.pop2, 1)) (hq : pc + 1 = q) (k : Go p e below F (T.setTop (mkF m q Ls st))) : Go p e below F (T.setTop (mkF m pc Ls (.long x :: st))) := by
  obtain ⟨⟨hx, hZ, hown, hby, hml, hww, hnm, hrt, hlk⟩, locs, X, N, Z0, P⟩ := id A
  subst hq
  have hd' := hb hby hd
  refine Go.st (fun t h => ?_) k
  show Steps p.tables e below (T.setTop { method := m, pc := pc, locals := Ls, stack := _ :: st, locked := none }) _
  jvm_step X.here [X.here.top, hx, hd', Value.category]
  exact h

theorem Here.copyAll (A : Here p l e R s m args below meth c Z a0 tbl own nm bc mxl rt n0 T L cells slots) {pc q index W w1 w2 w3 w4 i j : Nat} {Ls : Array Slot} {st : List Value} {a b : Addr} {ty : FieldType} {vs vd : List Value} {nn : Int32} {L' : Obs} (hd : decode bc pc = .ok (.invokestatic index, 3)) (hq : pc + 3 = q) (h1 : tbl[w1]? = some (Jvm.Cond.methodLink own index Jvm.Stand.acN)) (h2 : tbl[w2]? = some (Jvm.Cond.native Jvm.Stand.acN)) (h3 : tbl[w3]? = some (Jvm.Cond.static Jvm.Stand.acN)) (h4 : tbl[w4]? = some (Jvm.Cond.initialized "java/lang/System")) (hi : L[i]? = some (a, .inr (ty, vs))) (hj : L[j]? = some (b, .inr (ty, vd))) (hr : refKind ty = false) (hn : vd.length = vs.length) (hnn : vs.length.toInt32 = nn)
    (hsz : Ls.size = mxl) (hW : (st.map fun v => v.category).sum = W) (hf : 1 ≤ R.frames) (hlo : W + (nativeFrameWords "java/lang/System" "arraycopy" 5 + 11) ≤ R.locals) (hL' : L.set j (b, .inr (ty, vs)) = L') (k : ∀ T', Here p l e R s m args below meth c Z a0 tbl own nm bc mxl rt n0 T' L' cells slots → Go p e below F (T'.setTop (mkF m q Ls st))) : Go p e below F (T.setTop (mkF m pc Ls (.int nn :: .int 0 :: .ref b :: .int 0 :: .ref a :: st))) := by
  obtain ⟨⟨hx, hZ, hown, hby, hml, hww, hnm, hrt, hlk⟩, locs, X, N, Z0, P⟩ := id A
  have Ia := P.1 _ (List.mem_of_getElem? hi)
  have Ib := P.1 _ (List.mem_of_getElem? hj)
  have Ib2 : Ara Z T.heap b ty vd := Ib.2
  have Ia2 : Ara Z T.heap a ty vs := Ia.2
  obtain ⟨ka, VA, la, na⟩ := Ia2.toArv (defaultValue ty)
  obtain ⟨kb, VB, lb, nb⟩ := Ib2.toArv (defaultValue ty)
  rw [hn] at VB lb
  subst hq hnn hL'
  have z0 : (0 : Int32).toNatClampNeg = 0 := by decide
  obtain ⟨T', h', L1, X', e', N', K, V', st'⟩ := cpA X hx hZ hown (hww _ (List.mem_of_getElem? h1)) (hww _ (List.mem_of_getElem? h2)) (hww _ (List.mem_of_getElem? h3)) (hww _ (List.mem_of_getElem? h4)) rfl VA VB (Or.inl ⟨rfl, hr⟩) (sp := 0) (dp := 0) (by decide) (by decide) na (by rw [z0]; omega) (by rw [z0]; omega) rfl (by rw [z0]; omega) N Ib.1 (g := mkF m pc Ls (.int vs.length.toInt32 :: .int 0 :: .ref b :: .int 0 :: .ref a :: st)) rfl (by rw [hml]; exact hsz) rfl (hb hby hd) hf (W := W) (by show 2 * 0 + _ ≤ _; omega) hlo
  subst e'
  have ev : vd.take (0 : Int32).toNatClampNeg ++ (List.range vs.length.toInt32.toNatClampNeg).map (fun i => vs.getD ((0 : Int32).toNatClampNeg + i) (defaultValue ty)) ++ vd.drop ((0 : Int32).toNatClampNeg + vs.length.toInt32.toNatClampNeg) = vs := by
    rw [z0, la, List.take_zero, List.nil_append, List.drop_eq_nil_of_le (by omega), List.append_nil]
    refine List.ext_getElem? fun i => ?_
    by_cases hi' : i < vs.length
    · rw [List.getElem?_map, List.getElem?_range hi']; simp [List.getD_eq_getElem?_getD, hi']
    · rw [List.getElem?_eq_none (by simp; omega), List.getElem?_eq_none (by omega)]
  rw [ev] at V'
  obtain ⟨_, _, _, l31, _, Eb⟩ := Ib2
  exact Go.st st' (k T' ⟨A.1, L1, X', N', Nat.le_trans Z0 K.1, P.setK K hj (Arv.toAra V' la (by rw [hn] at l31; exact l31) (Eb.keep K))⟩)

theorem Here.retV  (A : Here p l e R s m args below meth c Z a0 tbl own nm bc mxl none n0 T L cells slots) {pc kc ks : Nat} {Ls : Array Slot} {Q : Option Value → Obs → Prop} (hd : decode bc pc = .ok (.return_, 1)) (hc : cells ≤ kc) (hs : slots ≤ ks) (hQ : Q none L) : Go p e below (EndS below s n0 Z kc ks Q) (T.setTop (mkF m pc Ls [])) := by
  obtain ⟨⟨hx, hZ, hown, hby, hml, hww, hnm, hrt, hlk⟩, locs, X, N, Z0, P⟩ := id A
  obtain ⟨fs, hr, hrun, hended, hW, hsame⟩ := X.leave (v := none) (fun _ => rfl)
  refine ⟨T.setFrames fs, ?_, _, hrun, hended, _, locs, rfl, ⟨N, Z0, L, hQ, P⟩, ⟨_, rfl⟩, hW, hsame.mono hc hs⟩
  exact X.returnOut hx hrt (hb hby hd) hr
theorem Here.retZ {x v : Int32} (A : Here p l e R s m args below meth c Z a0 tbl own nm bc mxl (some .boolean) n0 T L cells slots) {pc kc ks : Nat} {Ls : Array Slot} {st : List Value} {Q : Option Value → Obs → Prop} (hd : decode bc pc = .ok (.ireturn, 1)) (hv : nar .boolean x = v) (hc : cells ≤ kc) (hs : slots ≤ ks) (hQ : Q (some (.int v)) L) : Go p e below (EndS below s n0 Z kc ks Q) (T.setTop (mkF m pc Ls (.int x :: st))) := by
  obtain ⟨⟨hx, hZ, hown, hby, hml, hww, hnm, hrt, hlk⟩, locs, X, N, Z0, P⟩ := id A
  obtain ⟨fs, hr, hrun, hended, hW, hsame⟩ := X.leave (v := (some (.int v))) (fun h => by rw [hrt] at h; cases h)
  refine ⟨T.setFrames fs, ?_, _, hrun, hended, _, locs, rfl, ⟨N, Z0, L, hQ, P⟩, ⟨_, rfl⟩, hW, hsame.mono hc hs⟩
  subst hv; exact retN X hx (t := .boolean) hrt (by simp) (hb hby hd) hr
theorem Here.retB {x v : Int32} (A : Here p l e R s m args below meth c Z a0 tbl own nm bc mxl (some .byte) n0 T L cells slots) {pc kc ks : Nat} {Ls : Array Slot} {st : List Value} {Q : Option Value → Obs → Prop} (hd : decode bc pc = .ok (.ireturn, 1)) (hv : nar .byte x = v) (hc : cells ≤ kc) (hs : slots ≤ ks) (hQ : Q (some (.int v)) L) : Go p e below (EndS below s n0 Z kc ks Q) (T.setTop (mkF m pc Ls (.int x :: st))) := by
  obtain ⟨⟨hx, hZ, hown, hby, hml, hww, hnm, hrt, hlk⟩, locs, X, N, Z0, P⟩ := id A
  obtain ⟨fs, hr, hrun, hended, hW, hsame⟩ := X.leave (v := (some (.int v))) (fun h => by rw [hrt] at h; cases h)
  refine ⟨T.setFrames fs, ?_, _, hrun, hended, _, locs, rfl, ⟨N, Z0, L, hQ, P⟩, ⟨_, rfl⟩, hW, hsame.mono hc hs⟩
  subst hv; exact retN X hx (t := .byte) hrt (by simp) (hb hby hd) hr
theorem Here.retI {x : Int32} (A : Here p l e R s m args below meth c Z a0 tbl own nm bc mxl (some .int) n0 T L cells slots) {pc kc ks : Nat} {Ls : Array Slot} {st : List Value} {Q : Option Value → Obs → Prop} (hd : decode bc pc = .ok (.ireturn, 1)) (hc : cells ≤ kc) (hs : slots ≤ ks) (hQ : Q (some (.int x)) L) : Go p e below (EndS below s n0 Z kc ks Q) (T.setTop (mkF m pc Ls (.int x :: st))) := by
  obtain ⟨⟨hx, hZ, hown, hby, hml, hww, hnm, hrt, hlk⟩, locs, X, N, Z0, P⟩ := id A
  obtain ⟨fs, hr, hrun, hended, hW, hsame⟩ := X.leave (v := (some (.int x))) (fun h => by rw [hrt] at h; cases h)
  refine ⟨T.setFrames fs, ?_, _, hrun, hended, _, locs, rfl, ⟨N, Z0, L, hQ, P⟩, ⟨_, rfl⟩, hW, hsame.mono hc hs⟩
  exact retOut X hx (t := .int) hrt rfl (Or.inl ⟨rfl, Or.inl rfl, _, rfl⟩) (hb hby hd) hr
theorem Here.retJ {x : Int64} (A : Here p l e R s m args below meth c Z a0 tbl own nm bc mxl (some .long) n0 T L cells slots) {pc kc ks : Nat} {Ls : Array Slot} {st : List Value} {Q : Option Value → Obs → Prop} (hd : decode bc pc = .ok (.lreturn, 1)) (hc : cells ≤ kc) (hs : slots ≤ ks) (hQ : Q (some (.long x)) L) : Go p e below (EndS below s n0 Z kc ks Q) (T.setTop (mkF m pc Ls (.long x :: st))) := by
  obtain ⟨⟨hx, hZ, hown, hby, hml, hww, hnm, hrt, hlk⟩, locs, X, N, Z0, P⟩ := id A
  obtain ⟨fs, hr, hrun, hended, hW, hsame⟩ := X.leave (v := (some (.long x))) (fun h => by rw [hrt] at h; cases h)
  refine ⟨T.setFrames fs, ?_, _, hrun, hended, _, locs, rfl, ⟨N, Z0, L, hQ, P⟩, ⟨_, rfl⟩, hW, hsame.mono hc hs⟩
  exact retOut X hx (t := .long) hrt rfl (Or.inr (Or.inl ⟨rfl, rfl, _, rfl⟩)) (hb hby hd) hr
theorem Here.retA {x : Value} {t : FieldType} (A : Here p l e R s m args below meth c Z a0 tbl own nm bc mxl (some t) n0 T L cells slots) {pc kc ks : Nat} {Ls : Array Slot} {st : List Value} {Q : Option Value → Obs → Prop} (hd : decode bc pc = .ok (.areturn, 1)) (hrf : x.isRef = true) (htr : t.isReference = true) (hnn : narrow t x = x) (hc : cells ≤ kc) (hs : slots ≤ ks) (hQ : Q (some x) L) : Go p e below (EndS below s n0 Z kc ks Q) (T.setTop (mkF m pc Ls (x :: st))) := by
  obtain ⟨⟨hx, hZ, hown, hby, hml, hww, hnm, hrt, hlk⟩, locs, X, N, Z0, P⟩ := id A
  obtain ⟨fs, hr, hrun, hended, hW, hsame⟩ := X.leave (v := (some x)) (fun h => by rw [hrt] at h; cases h)
  refine ⟨T.setFrames fs, ?_, _, hrun, hended, _, locs, rfl, ⟨N, Z0, L, hQ, P⟩, ⟨_, rfl⟩, hW, hsame.mono hc hs⟩
  exact retOut X hx (t := t) hrt hnn (Or.inr (Or.inr (Or.inr (Or.inr ⟨rfl, htr, hrf⟩)))) (hb hby hd) hr
end Walk
def FD (p0 : Int32) : Int32 := (if (p0 &&& (255 : Int32)) < (48 : Int32) then (0 : Int32) else (if (57 : Int32) < (p0 &&& (255 : Int32)) then (0 : Int32) else (1 : Int32)))
theorem d3_0 : decode method_4_code 0 = .ok (.iload_n 0, 1) := by decide +kernel
theorem d3_1 : decode method_4_code 1 = .ok (.sipush 255, 3) := by decide +kernel
theorem d3_4 : decode method_4_code 4 = .ok (.iand, 1) := by decide +kernel
theorem d3_5 : decode method_4_code 5 = .ok (.istore_n 1, 1) := by decide +kernel
theorem d3_6 : decode method_4_code 6 = .ok (.iload_n 1, 1) := by decide +kernel
theorem d3_7 : decode method_4_code 7 = .ok (.bipush 48, 2) := by decide +kernel
theorem d3_9 : decode method_4_code 9 = .ok (.if_icmp .lt 13, 3) := by decide +kernel
theorem d3_12 : decode method_4_code 12 = .ok (.iload_n 1, 1) := by decide +kernel
theorem d3_13 : decode method_4_code 13 = .ok (.bipush 57, 2) := by decide +kernel
theorem d3_15 : decode method_4_code 15 = .ok (.if_icmp .gt 7, 3) := by decide +kernel
theorem d3_18 : decode method_4_code 18 = .ok (.iconst 1, 1) := by decide +kernel
theorem d3_19 : decode method_4_code 19 = .ok (.goto 4, 3) := by decide +kernel
theorem d3_22 : decode method_4_code 22 = .ok (.iconst 0, 1) := by decide +kernel
theorem d3_23 : decode method_4_code 23 = .ok (.ireturn, 1) := by decide +kernel
theorem pn_3 : plainFor (⟨"com/example/capabind/capabind/http/WireReaderIsDigitsPinLaw", "isDigit", "(B)Z"⟩ : MethodName) = true := plainFor_of_name (by first | (simp [plainName, overriddenIn]; done) | decide +kernel)
set_option maxRecDepth 65536 in
set_option maxHeartbeats 8000000 in
theorem rmD (l : Launch) (Z : State) (a0 : Array Value) (hw : ∀ d ∈ tables_1, d.before a0 Z = true) (n0 : Nat) (p0 : Int32) (RR : Obs) :
    Triple l Z n0 (⟨"com/example/capabind/capabind/http/WireReaderIsDigitsPinLaw", "isDigit", "(B)Z"⟩ : MethodName) method_4_code 2 (some .boolean) ({ frames := 0, cells := 0, slots := 0, locals := 0 } : Room) 0 0 [(.int p0)] (RR) (fun v L' => v = some (.int (FD p0)) ∧ L' = (RR)) := by
  refine Triple.of_body (tbl := tables_1) (a0 := a0) (Ls := #[.val (.int p0), .unset]) pn_3 hw rfl ?_
  intro p e s m below meth c T A
  refine A.iloadN (q := 1) d3_0 rfl rfl ?_
  refine A.sipush (q := 4) (v := (255 : Int32)) d3_1 rfl (by decide) ?_
  obtain ⟨v1, e1⟩ : ∃ v : Int32, p0 &&& (255 : Int32) = v := ⟨_, rfl⟩
  refine A.iand (q := 5) d3_4 rfl e1 ?_
  refine A.istoreN (q := 6) (l' := #[.val (.int p0), .val (.int v1)]) d3_5 rfl rfl ?_
  refine A.iloadN (q := 7) d3_6 rfl rfl ?_
  refine A.bipush (q := 9) (v := (48 : Int32)) d3_7 rfl (by decide) ?_
  refine A.icmp_lt (q := 12) (r := 22) d3_9 rfl (by decide) (fun h2 => ?_) (fun h2 => ?_)
  · refine A.iconst (q := 23) (v := (0 : Int32)) d3_22 rfl (by decide) ?_
    subst e1
    exact A.retZ (v := (FD p0)) d3_23 (by simp only [FD, if_pos h2]; first | rfl | assumption) (by decide) (by decide) ⟨rfl, by first | rfl | (simp only [if_pos h2])⟩
  · refine A.iloadN (q := 13) d3_12 rfl rfl ?_
    refine A.bipush (q := 15) (v := (57 : Int32)) d3_13 rfl (by decide) ?_
    refine A.icmp_gt (q := 18) (r := 22) d3_15 rfl (by decide) (fun h3 => ?_) (fun h3 => ?_)
    · refine A.iconst (q := 23) (v := (0 : Int32)) d3_22 rfl (by decide) ?_
      subst e1
      exact A.retZ (v := (FD p0)) d3_23 (by simp only [FD, if_neg h2, if_pos h3]; first | rfl | assumption) (by decide) (by decide) ⟨rfl, by first | rfl | (simp only [if_neg h2, if_pos h3])⟩
    · refine A.iconst (q := 19) (v := (1 : Int32)) d3_18 rfl (by decide) ?_
      refine A.goto (r := 23) d3_19 (by decide) ?_
      subst e1
      exact A.retZ (v := (FD p0)) d3_23 (by simp only [FD, if_neg h2, if_neg h3]; first | rfl | assumption) (by decide) (by decide) ⟨rfl, by first | rfl | (simp only [if_neg h2, if_neg h3])⟩
theorem pd_0 : parseMethodDescriptor "(B)Z" = some ⟨[.byte], some .boolean⟩ := by decide +kernel
def FK (p0 : Int32) (p1 : Int32) (p2 : Int32) (p3 : Int32) : Int32 := (if p0 < p1 then (1 : Int32) else (if p0 < p2 then (if ((FD p3)) = (0 : Int32) then (0 : Int32) else (1 : Int32)) else (1 : Int32)))
theorem d2_0 : decode method_3_code 0 = .ok (.iload_n 0, 1) := by decide +kernel
theorem d2_1 : decode method_3_code 1 = .ok (.iload_n 1, 1) := by decide +kernel
theorem d2_2 : decode method_3_code 2 = .ok (.if_icmp .lt 15, 3) := by decide +kernel
theorem d2_5 : decode method_3_code 5 = .ok (.iload_n 0, 1) := by decide +kernel
theorem d2_6 : decode method_3_code 6 = .ok (.iload_n 2, 1) := by decide +kernel
theorem d2_7 : decode method_3_code 7 = .ok (.if_icmp .ge 10, 3) := by decide +kernel
theorem d2_10 : decode method_3_code 10 = .ok (.iload_n 3, 1) := by decide +kernel
theorem d2_11 : decode method_3_code 11 = .ok (.invokestatic 20, 3) := by decide +kernel
theorem d2_14 : decode method_3_code 14 = .ok (.ifCond .eq 7, 3) := by decide +kernel
theorem d2_17 : decode method_3_code 17 = .ok (.iconst 1, 1) := by decide +kernel
theorem d2_18 : decode method_3_code 18 = .ok (.goto 4, 3) := by decide +kernel
theorem d2_21 : decode method_3_code 21 = .ok (.iconst 0, 1) := by decide +kernel
theorem d2_22 : decode method_3_code 22 = .ok (.ireturn, 1) := by decide +kernel
theorem pn_2 : plainFor (⟨"com/example/capabind/capabind/http/WireReaderIsDigitsPinLaw", "ok", "(IIIB)Z"⟩ : MethodName) = true := plainFor_of_name (by first | (simp [plainName, overriddenIn]; done) | decide +kernel)
set_option maxRecDepth 65536 in
set_option maxHeartbeats 8000000 in
theorem rmK (l : Launch) (Z : State) (a0 : Array Value) (hw : ∀ d ∈ tables_1, d.before a0 Z = true) (n0 : Nat) (p0 : Int32) (p1 : Int32) (p2 : Int32) (p3 : Int32) (RR : Obs) :
    Triple l Z n0 (⟨"com/example/capabind/capabind/http/WireReaderIsDigitsPinLaw", "ok", "(IIIB)Z"⟩ : MethodName) method_3_code 4 (some .boolean) ({ frames := 1, cells := 0, slots := 0, locals := 13 } : Room) 0 0 [(.int p0), (.int p1), (.int p2), (.int p3)] (RR) (fun v L' => v = some (.int (FK p0 p1 p2 p3)) ∧ L' = (RR)) := by
  refine Triple.of_body (tbl := tables_1) (a0 := a0) (Ls := #[.val (.int p0), .val (.int p1), .val (.int p2), .val (.int p3)]) pn_2 hw rfl ?_
  intro p e s m below meth c T A
  refine A.iloadN (q := 1) d2_0 rfl rfl ?_
  refine A.iloadN (q := 2) d2_1 rfl rfl ?_
  refine A.icmp_lt (q := 5) (r := 17) d2_2 rfl (by decide) (fun h1 => ?_) (fun h1 => ?_)
  · refine A.iconst (q := 18) (v := (1 : Int32)) d2_17 rfl (by decide) ?_
    refine A.goto (r := 22) d2_18 (by decide) ?_
    exact A.retZ (v := (FK p0 p1 p2 p3)) d2_22 (by simp only [FK, if_pos h1]; first | rfl | assumption) (by decide) (by decide) ⟨rfl, by first | rfl | (simp only [if_pos h1])⟩
  · refine A.iloadN (q := 6) d2_5 rfl rfl ?_
    refine A.iloadN (q := 7) d2_6 rfl rfl ?_
    refine A.icmp_ge (q := 10) (r := 17) d2_7 rfl (by decide) (fun h2 => ?_) (fun h2 => ?_)
    · refine A.iconst (q := 18) (v := (1 : Int32)) d2_17 rfl (by decide) ?_
      refine A.goto (r := 22) d2_18 (by decide) ?_
      exact A.retZ (v := (FK p0 p1 p2 p3)) d2_22 (by simp only [FK, if_neg h1, if_neg h2]; first | rfl | assumption) (by decide) (by decide) ⟨rfl, by first | rfl | (simp only [if_neg h1, if_neg h2])⟩
    · refine A.iloadN (q := 11) d2_10 rfl rfl ?_
      refine A.callS (q := 14) (w1 := 10) (w2 := 11) (w3 := 8) (w4 := 12) (as := [(.int p3)]) (st := []) (W := 0) d2_11 rfl rfl rfl rfl rfl (rmD l Z a0 hw n0 p3 _) (by decide) ⟨_, _, pd_0, rfl⟩ rfl rfl rfl (by decide) (by decide) (by decide) (by decide) ?_
      rintro _ T _ ⟨rfl, rfl⟩ A
      show Go p e below _ (T.setTop (mkF m 14 #[.val (.int p0), .val (.int p1), .val (.int p2), .val (.int p3)] [(.int (FD p3))]))
      obtain ⟨v3, e3⟩ : ∃ v : Int32, (FD p3) = v := ⟨_, rfl⟩
      rw [e3]
      refine A.if_eq (q := 17) (r := 21) d2_14 rfl (by decide) (fun h4 => ?_) (fun h4 => ?_)
      · refine A.iconst (q := 22) (v := (0 : Int32)) d2_21 rfl (by decide) ?_
        subst e3
        exact A.retZ (v := (FK p0 p1 p2 p3)) d2_22 (by simp only [FK, if_neg h1, if_pos h2, if_pos h4]; first | rfl | assumption) (by decide) (by decide) ⟨rfl, by first | rfl | (simp only [if_neg h1, if_pos h2, if_pos h4])⟩
      · refine A.iconst (q := 18) (v := (1 : Int32)) d2_17 rfl (by decide) ?_
        refine A.goto (r := 22) d2_18 (by decide) ?_
        subst e3
        exact A.retZ (v := (FK p0 p1 p2 p3)) d2_22 (by simp only [FK, if_neg h1, if_pos h2, if_neg h4]; first | rfl | assumption) (by decide) (by decide) ⟨rfl, by first | rfl | (simp only [if_neg h1, if_pos h2, if_neg h4])⟩
theorem own_r3 {v : Int32} (h : 0 ≤ v.toInt ∧ v.toInt < 3) : v = 0 ∨ v = 1 ∨ v = 2 := by
  have q : v.toInt = (0 : Int32).toInt ∨ v.toInt = (1 : Int32).toInt ∨ v.toInt = (2 : Int32).toInt := by simp only [Int32.reduceToInt]; omega
  exact q.imp Int32.toInt_inj.mp (Or.imp Int32.toInt_inj.mp Int32.toInt_inj.mp)
theorem own_r4 {v : Int32} (h : 0 ≤ v.toInt ∧ v.toInt < 4) : v = 0 ∨ v = 1 ∨ v = 2 ∨ v = 3 := by
  have q : v.toInt = (0 : Int32).toInt ∨ v.toInt = (1 : Int32).toInt ∨ v.toInt = (2 : Int32).toInt ∨ v.toInt = (3 : Int32).toInt := by simp only [Int32.reduceToInt]; omega
  exact q.imp Int32.toInt_inj.mp (Or.imp Int32.toInt_inj.mp (Or.imp Int32.toInt_inj.mp Int32.toInt_inj.mp))
theorem own_r5 {v : Int32} (h : 0 ≤ v.toInt ∧ v.toInt < 5) : v = 0 ∨ v = 1 ∨ v = 2 ∨ v = 3 ∨ v = 4 := by
  have q : v.toInt = (0 : Int32).toInt ∨ v.toInt = (1 : Int32).toInt ∨ v.toInt = (2 : Int32).toInt ∨ v.toInt = (3 : Int32).toInt ∨ v.toInt = (4 : Int32).toInt := by simp only [Int32.reduceToInt]; omega
  exact q.imp Int32.toInt_inj.mp (Or.imp Int32.toInt_inj.mp (Or.imp Int32.toInt_inj.mp (Or.imp Int32.toInt_inj.mp Int32.toInt_inj.mp)))
theorem own_and3 (x : Int32) : x &&& (3 : Int32) = 0 ∨ x &&& (3 : Int32) = 1 ∨ x &&& (3 : Int32) = 2 ∨ x &&& (3 : Int32) = 3 :=
  own_r4 (by have h := c_mask x 3 2 (by decide) (by decide); omega)
theorem own_mod3 (x : Int32) : (x &&& (2147483647 : Int32)) % (3 : Int32) = 0 ∨ (x &&& (2147483647 : Int32)) % (3 : Int32) = 1 ∨ (x &&& (2147483647 : Int32)) % (3 : Int32) = 2 :=
  own_r3 (by
    have h1 := c_mask x 2147483647 31 (by decide) (by decide)
    have h2 := c_irem (x &&& (2147483647 : Int32)) 3 3 (by decide)
    omega)
theorem own_mod5 (x : Int32) : (x &&& (2147483647 : Int32)) % (5 : Int32) = 0 ∨ (x &&& (2147483647 : Int32)) % (5 : Int32) = 1 ∨ (x &&& (2147483647 : Int32)) % (5 : Int32) = 2 ∨ (x &&& (2147483647 : Int32)) % (5 : Int32) = 3 ∨ (x &&& (2147483647 : Int32)) % (5 : Int32) = 4 :=
  own_r5 (by
    have h1 := c_mask x 2147483647 31 (by decide) (by decide)
    have h2 := c_irem (x &&& (2147483647 : Int32)) 5 5 (by decide)
    omega)
theorem own_r2 {v : Int32} (h : 0 ≤ v.toInt ∧ v.toInt < 2) : v = 0 ∨ v = 1 := by
  have q : v.toInt = (0 : Int32).toInt ∨ v.toInt = (1 : Int32).toInt := by simp only [Int32.reduceToInt]; omega
  exact q.imp Int32.toInt_inj.mp Int32.toInt_inj.mp
theorem own_r1 {v : Int32} (h : 0 ≤ v.toInt ∧ v.toInt < 1) : v = 0 := by
  have q : v.toInt = (0 : Int32).toInt := by simp only [Int32.reduceToInt]; omega
  exact Int32.toInt_inj.mp q
theorem own_modb (x k : Int32) (d : Int) (hk : k.toInt = d) (hd : 0 < d) : 0 ≤ ((x &&& (2147483647 : Int32)) % k).toInt ∧ ((x &&& (2147483647 : Int32)) % k).toInt < d := by
  have h1 := c_mask x 2147483647 31 (by decide) (by decide)
  have h2 := (c_irem (x &&& (2147483647 : Int32)) k d hk).1 (by omega)
  rw [h2]
  exact ⟨Int.emod_nonneg _ (by omega), Int.emod_lt_of_pos _ hd⟩
theorem own_nb (x : Int32) : nar .byte (x.toInt8.toInt32) = x.toInt8.toInt32 := by
  have h1 := c_i2b x
  have h2 := c_i2b (x.toInt8.toInt32)
  refine Int32.toInt_inj.mp ?_
  show (x.toInt8.toInt32).toInt8.toInt32.toInt = _
  omega

theorem own_dg (x : Int32) : (¬ x.toInt8.toInt32 < (48 : Int32) ∧ ¬ (57 : Int32) < x.toInt8.toInt32 ∧ FD (x.toInt8.toInt32) = 1) ∨ (x.toInt8.toInt32 < (48 : Int32) ∧ FD (x.toInt8.toInt32) = 0) ∨ (¬ x.toInt8.toInt32 < (48 : Int32) ∧ (57 : Int32) < x.toInt8.toInt32 ∧ FD (x.toInt8.toInt32) = 0) := by
  have h1 := c_i2b x
  generalize x.toInt8.toInt32 = y at *
  have h2 := c_mask y 255 8 (by decide) (by decide)
  unfold FD
  simp only [Int32.lt_iff_toInt_lt, Int32.reduceToInt]
  generalize (y &&& (255 : Int32)) = z at *
  by_cases a : y.toInt < 48
  · right; left; refine ⟨a, ?_⟩
    by_cases b : z.toInt < 48
    · rw [if_pos b]
    · rw [if_neg b, if_pos (by omega)]
  · by_cases b : 57 < y.toInt
    · right; right; refine ⟨a, b, ?_⟩
      rw [if_neg (by omega), if_pos (by omega)]
    · left; refine ⟨a, b, ?_⟩
      rw [if_neg (by omega), if_neg (by omega)]
theorem own_n0 : nar .boolean (0 : Int32) = 0 := by decide
theorem own_n1 : nar .boolean (1 : Int32) = 1 := by decide
theorem pd_1 : parseMethodDescriptor "(IIIB)Z" = some ⟨[.int, .int, .int, .byte], some .boolean⟩ := by decide +kernel
theorem d1_0 : decode prog_45_method_20_code 0 = .ok (.iload_n 1, 1) := by decide +kernel
theorem d1_1 : decode prog_45_method_20_code 1 = .ok (.iload_n 2, 1) := by decide +kernel
theorem d1_2 : decode prog_45_method_20_code 2 = .ok (.if_icmp .ge 7, 3) := by decide +kernel
theorem d1_5 : decode prog_45_method_20_code 5 = .ok (.iconst 1, 1) := by decide +kernel
theorem d1_6 : decode prog_45_method_20_code 6 = .ok (.goto 4, 3) := by decide +kernel
theorem d1_9 : decode prog_45_method_20_code 9 = .ok (.iconst 0, 1) := by decide +kernel
theorem d1_10 : decode prog_45_method_20_code 10 = .ok (.istore_n 3, 1) := by decide +kernel
theorem d1_11 : decode prog_45_method_20_code 11 = .ok (.iload_n 1, 1) := by decide +kernel
theorem d1_12 : decode prog_45_method_20_code 12 = .ok (.istore 4, 2) := by decide +kernel
theorem d1_14 : decode prog_45_method_20_code 14 = .ok (.iload_n 3, 1) := by decide +kernel
theorem d1_15 : decode prog_45_method_20_code 15 = .ok (.ifCond .eq 39, 3) := by decide +kernel
theorem d1_18 : decode prog_45_method_20_code 18 = .ok (.iload 4, 2) := by decide +kernel
theorem d1_20 : decode prog_45_method_20_code 20 = .ok (.iload_n 2, 1) := by decide +kernel
theorem d1_21 : decode prog_45_method_20_code 21 = .ok (.if_icmp .ge 33, 3) := by decide +kernel
theorem d1_24 : decode prog_45_method_20_code 24 = .ok (.aload_n 0, 1) := by decide +kernel
theorem d1_25 : decode prog_45_method_20_code 25 = .ok (.iload 4, 2) := by decide +kernel
theorem d1_27 : decode prog_45_method_20_code 27 = .ok (.baload, 1) := by decide +kernel
theorem d1_28 : decode prog_45_method_20_code 28 = .ok (.bipush 48, 2) := by decide +kernel
theorem d1_30 : decode prog_45_method_20_code 30 = .ok (.if_icmp .lt 16, 3) := by decide +kernel
theorem d1_33 : decode prog_45_method_20_code 33 = .ok (.aload_n 0, 1) := by decide +kernel
theorem d1_34 : decode prog_45_method_20_code 34 = .ok (.iload 4, 2) := by decide +kernel
theorem d1_36 : decode prog_45_method_20_code 36 = .ok (.baload, 1) := by decide +kernel
theorem d1_37 : decode prog_45_method_20_code 37 = .ok (.bipush 57, 2) := by decide +kernel
theorem d1_39 : decode prog_45_method_20_code 39 = .ok (.if_icmp .gt 7, 3) := by decide +kernel
theorem d1_42 : decode prog_45_method_20_code 42 = .ok (.iconst 1, 1) := by decide +kernel
theorem d1_43 : decode prog_45_method_20_code 43 = .ok (.goto 4, 3) := by decide +kernel
theorem d1_46 : decode prog_45_method_20_code 46 = .ok (.iconst 0, 1) := by decide +kernel
theorem d1_47 : decode prog_45_method_20_code 47 = .ok (.istore_n 3, 1) := by decide +kernel
theorem d1_48 : decode prog_45_method_20_code 48 = .ok (.iinc 4 1, 3) := by decide +kernel
theorem d1_51 : decode prog_45_method_20_code 51 = .ok (.goto (-37), 3) := by decide +kernel
theorem d1_54 : decode prog_45_method_20_code 54 = .ok (.iload_n 3, 1) := by decide +kernel
theorem d1_55 : decode prog_45_method_20_code 55 = .ok (.ireturn, 1) := by decide +kernel
theorem pn_1 : plainFor (⟨"com/example/capabind/capabind/http/WireReader", "isDigits", "([BII)Z"⟩ : MethodName) = true := plainFor_of_name (by first | (simp [plainName, overriddenIn]; done) | decide +kernel)
set_option maxRecDepth 65536 in
set_option maxHeartbeats 8000000 in
theorem rmI_1 (l : Launch) (Z : State) (a0 : Array Value) (hw : ∀ d ∈ tables_1, d.before a0 Z = true) (n0 : Nat) (r0 : Addr) (p1 : Int32) (p2 : Int32) (p3 : Int32) (p4 : Int32) (RR : Obs) :
    Triple l Z n0 (⟨"com/example/capabind/capabind/http/WireReader", "isDigits", "([BII)Z"⟩ : MethodName) prog_45_method_20_code 5 (some .boolean) ({ frames := 0, cells := 0, slots := 0, locals := 0 } : Room) 0 0 [(.ref r0), (.int (0 : Int32)), (.int (0 : Int32))] ((r0, .inr (.byte, [(.int p1), (.int p2), (.int p3), (.int p4)])) :: RR) (fun v L' => v = some (.int (0 : Int32)) ∧ L' = ((r0, .inr (.byte, [(.int p1), (.int p2), (.int p3), (.int p4)])) :: RR)) := by
  refine Triple.of_body (tbl := tables_1) (a0 := a0) (Ls := #[.val (.ref r0), .val (.int (0 : Int32)), .val (.int (0 : Int32)), .unset, .unset]) pn_1 hw rfl ?_
  intro p e s m below meth c T A
  refine A.iloadN (q := 1) d1_0 rfl rfl ?_
  refine A.iloadN (q := 2) d1_1 rfl rfl ?_
  refine A.icmpT (r := 9) d1_2 (by decide) (by decide) ?_
  refine A.iconst (q := 10) (v := (0 : Int32)) d1_9 rfl (by decide) ?_
  refine A.istoreN (q := 11) (l' := #[.val (.ref r0), .val (.int (0 : Int32)), .val (.int (0 : Int32)), .val (.int (0 : Int32)), .unset]) d1_10 rfl rfl ?_
  refine A.iloadN (q := 12) d1_11 rfl rfl ?_
  refine A.istore (q := 14) (l' := #[.val (.ref r0), .val (.int (0 : Int32)), .val (.int (0 : Int32)), .val (.int (0 : Int32)), .val (.int (0 : Int32))]) d1_12 rfl rfl ?_
  refine A.iloadN (q := 15) d1_14 rfl rfl ?_
  refine A.ifT (r := 54) d1_15 (by decide) (by decide) ?_
  refine A.iloadN (q := 55) d1_54 rfl rfl ?_
  exact A.retZ (v := (0 : Int32)) d1_55 (by decide) (by decide) (by decide) ⟨rfl, rfl⟩
theorem pd_2 : parseMethodDescriptor "([BII)Z" = some ⟨[(.array .byte), .int, .int], some .boolean⟩ := by decide +kernel
set_option maxRecDepth 65536 in
set_option maxHeartbeats 8000000 in
theorem rmI_2 (l : Launch) (Z : State) (a0 : Array Value) (hw : ∀ d ∈ tables_1, d.before a0 Z = true) (n0 : Nat) (r0 : Addr) (p1 : Int32) (p2 : Int32) (p3 : Int32) (p4 : Int32) (RR : Obs) :
    Triple l Z n0 (⟨"com/example/capabind/capabind/http/WireReader", "isDigits", "([BII)Z"⟩ : MethodName) prog_45_method_20_code 5 (some .boolean) ({ frames := 0, cells := 0, slots := 0, locals := 0 } : Room) 0 0 [(.ref r0), (.int (0 : Int32)), (.int (1 : Int32))] ((r0, .inr (.byte, [(.int p1), (.int p2), (.int p3), (.int p4)])) :: RR) (fun v L' => v = some (.int ((if p1 < (48 : Int32) then (0 : Int32) else (if (57 : Int32) < p1 then (0 : Int32) else (1 : Int32))))) ∧ L' = ((r0, .inr (.byte, [(.int p1), (.int p2), (.int p3), (.int p4)])) :: RR)) := by
  refine Triple.of_body (tbl := tables_1) (a0 := a0) (Ls := #[.val (.ref r0), .val (.int (0 : Int32)), .val (.int (1 : Int32)), .unset, .unset]) pn_1 hw rfl ?_
  intro p e s m below meth c T A
  refine A.iloadN (q := 1) d1_0 rfl rfl ?_
  refine A.iloadN (q := 2) d1_1 rfl rfl ?_
  refine A.icmpF (q := 5) d1_2 rfl (by decide) ?_
  refine A.iconst (q := 6) (v := (1 : Int32)) d1_5 rfl (by decide) ?_
  refine A.goto (r := 10) d1_6 (by decide) ?_
  refine A.istoreN (q := 11) (l' := #[.val (.ref r0), .val (.int (0 : Int32)), .val (.int (1 : Int32)), .val (.int (1 : Int32)), .unset]) d1_10 rfl rfl ?_
  refine A.iloadN (q := 12) d1_11 rfl rfl ?_
  refine A.istore (q := 14) (l' := #[.val (.ref r0), .val (.int (0 : Int32)), .val (.int (1 : Int32)), .val (.int (1 : Int32)), .val (.int (0 : Int32))]) d1_12 rfl rfl ?_
  refine A.iloadN (q := 15) d1_14 rfl rfl ?_
  refine A.ifF (q := 18) d1_15 rfl (by decide) ?_
  refine A.iload (q := 20) d1_18 rfl rfl ?_
  refine A.iloadN (q := 21) d1_20 rfl rfl ?_
  refine A.icmpF (q := 24) d1_21 rfl (by decide) ?_
  have J24_3 : ∀ (T : State) (j3 : Int32), j3 = (if p1 < (48 : Int32) then (0 : Int32) else (if (57 : Int32) < p1 then (0 : Int32) else (1 : Int32))) → Here p l e ({ frames := 0, cells := 0, slots := 0, locals := 0 } : Room) s m ([(.ref r0), (.int (0 : Int32)), (.int (1 : Int32))] : List Value).toArray below meth c Z a0 tables_1 (⟨"com/example/capabind/capabind/http/WireReader", "isDigits", "([BII)Z"⟩ : MethodName).cls (⟨"com/example/capabind/capabind/http/WireReader", "isDigits", "([BII)Z"⟩ : MethodName).name prog_45_method_20_code 5 (some .boolean) n0 T ((r0, .inr (.byte, [(.int p1), (.int p2), (.int p3), (.int p4)])) :: RR) 0 0 → Go p e below (EndS below s n0 Z 0 0 (fun v L' => v = some (.int ((if p1 < (48 : Int32) then (0 : Int32) else (if (57 : Int32) < p1 then (0 : Int32) else (1 : Int32))))) ∧ L' = ((r0, .inr (.byte, [(.int p1), (.int p2), (.int p3), (.int p4)])) :: RR))) (T.setTop (mkF m 47 #[.val (.ref r0), .val (.int (0 : Int32)), .val (.int (1 : Int32)), .val (.int (1 : Int32)), .val (.int (0 : Int32))] [(.int j3)])) := by
   intro T j3 ej3 A
   have z_j3 : nar .boolean j3 = j3 := by rw [ej3]; (repeat' split) <;> first | decide | assumption
   refine A.istoreN (q := 48) (l' := #[.val (.ref r0), .val (.int (0 : Int32)), .val (.int (1 : Int32)), .val (.int j3), .val (.int (0 : Int32))]) d1_47 rfl rfl ?_
   refine A.iinc (q := 51) (v := (1 : Int32)) (l' := #[.val (.ref r0), .val (.int (0 : Int32)), .val (.int (1 : Int32)), .val (.int j3), .val (.int (1 : Int32))]) d1_48 rfl rfl (by decide) rfl ?_
   refine A.goto (r := 14) d1_51 (by decide) ?_
   refine A.iloadN (q := 15) d1_14 rfl rfl ?_
   refine A.if_eq (q := 18) (r := 54) d1_15 rfl (by decide) (fun h5 => ?_) (fun h5 => ?_)
   · refine A.iloadN (q := 55) d1_54 rfl rfl ?_
     subst ej3
     exact A.retZ (v := ((if p1 < (48 : Int32) then (0 : Int32) else (if (57 : Int32) < p1 then (0 : Int32) else (1 : Int32))))) d1_55 (by first | rfl | assumption | decide) (by decide) (by decide) ⟨rfl, by first | rfl | (simp only [if_pos h5])⟩
   · refine A.iload (q := 20) d1_18 rfl rfl ?_
     refine A.iloadN (q := 21) d1_20 rfl rfl ?_
     refine A.icmpT (r := 54) d1_21 (by decide) (by decide) ?_
     refine A.iloadN (q := 55) d1_54 rfl rfl ?_
     subst ej3
     exact A.retZ (v := ((if p1 < (48 : Int32) then (0 : Int32) else (if (57 : Int32) < p1 then (0 : Int32) else (1 : Int32))))) d1_55 (by first | rfl | assumption | decide) (by decide) (by decide) ⟨rfl, by first | rfl | (simp only [if_neg h5])⟩
  refine A.aloadN (q := 25) d1_24 rfl rfl rfl ?_
  refine A.iload (q := 27) d1_25 rfl rfl ?_
  refine A.baloadB (q := 28) (i := 0) (v := (.int p1)) d1_27 rfl rfl (by decide) rfl ?_
  refine A.bipush (q := 30) (v := (48 : Int32)) d1_28 rfl (by decide) ?_
  refine A.icmp_lt (q := 33) (r := 46) d1_30 rfl (by decide) (fun h1 => ?_) (fun h1 => ?_)
  · refine A.iconst (q := 47) (v := (0 : Int32)) d1_46 rfl (by decide) ?_
    exact J24_3 T _ (by simp only [if_pos h1]) A
  · refine A.aloadN (q := 34) d1_33 rfl rfl rfl ?_
    refine A.iload (q := 36) d1_34 rfl rfl ?_
    refine A.baloadB (q := 37) (i := 0) (v := (.int p1)) d1_36 rfl rfl (by decide) rfl ?_
    refine A.bipush (q := 39) (v := (57 : Int32)) d1_37 rfl (by decide) ?_
    refine A.icmp_gt (q := 42) (r := 46) d1_39 rfl (by decide) (fun h2 => ?_) (fun h2 => ?_)
    · refine A.iconst (q := 47) (v := (0 : Int32)) d1_46 rfl (by decide) ?_
      exact J24_3 T _ (by simp only [if_neg h1, if_pos h2]) A
    · refine A.iconst (q := 43) (v := (1 : Int32)) d1_42 rfl (by decide) ?_
      refine A.goto (r := 47) d1_43 (by decide) ?_
      exact J24_3 T _ (by simp only [if_neg h1, if_neg h2]) A
def FI_3 (p1 : Int32) (p2 : Int32) : Int32 := (if ((if p1 < (48 : Int32) then (0 : Int32) else (if (57 : Int32) < p1 then (0 : Int32) else (1 : Int32)))) = (0 : Int32) then ((if p1 < (48 : Int32) then (0 : Int32) else (if (57 : Int32) < p1 then (0 : Int32) else (1 : Int32)))) else ((if p2 < (48 : Int32) then (0 : Int32) else (if (57 : Int32) < p2 then (0 : Int32) else (1 : Int32)))))
set_option maxRecDepth 65536 in
set_option maxHeartbeats 8000000 in
theorem rmI_3 (l : Launch) (Z : State) (a0 : Array Value) (hw : ∀ d ∈ tables_1, d.before a0 Z = true) (n0 : Nat) (r0 : Addr) (p1 : Int32) (p2 : Int32) (p3 : Int32) (p4 : Int32) (RR : Obs) :
    Triple l Z n0 (⟨"com/example/capabind/capabind/http/WireReader", "isDigits", "([BII)Z"⟩ : MethodName) prog_45_method_20_code 5 (some .boolean) ({ frames := 0, cells := 0, slots := 0, locals := 0 } : Room) 0 0 [(.ref r0), (.int (0 : Int32)), (.int (2 : Int32))] ((r0, .inr (.byte, [(.int p1), (.int p2), (.int p3), (.int p4)])) :: RR) (fun v L' => v = some (.int (FI_3 p1 p2)) ∧ L' = ((r0, .inr (.byte, [(.int p1), (.int p2), (.int p3), (.int p4)])) :: RR)) := by
  refine Triple.of_body (tbl := tables_1) (a0 := a0) (Ls := #[.val (.ref r0), .val (.int (0 : Int32)), .val (.int (2 : Int32)), .unset, .unset]) pn_1 hw rfl ?_
  intro p e s m below meth c T A
  refine A.iloadN (q := 1) d1_0 rfl rfl ?_
  refine A.iloadN (q := 2) d1_1 rfl rfl ?_
  refine A.icmpF (q := 5) d1_2 rfl (by decide) ?_
  refine A.iconst (q := 6) (v := (1 : Int32)) d1_5 rfl (by decide) ?_
  refine A.goto (r := 10) d1_6 (by decide) ?_
  refine A.istoreN (q := 11) (l' := #[.val (.ref r0), .val (.int (0 : Int32)), .val (.int (2 : Int32)), .val (.int (1 : Int32)), .unset]) d1_10 rfl rfl ?_
  refine A.iloadN (q := 12) d1_11 rfl rfl ?_
  refine A.istore (q := 14) (l' := #[.val (.ref r0), .val (.int (0 : Int32)), .val (.int (2 : Int32)), .val (.int (1 : Int32)), .val (.int (0 : Int32))]) d1_12 rfl rfl ?_
  refine A.iloadN (q := 15) d1_14 rfl rfl ?_
  refine A.ifF (q := 18) d1_15 rfl (by decide) ?_
  refine A.iload (q := 20) d1_18 rfl rfl ?_
  refine A.iloadN (q := 21) d1_20 rfl rfl ?_
  refine A.icmpF (q := 24) d1_21 rfl (by decide) ?_
  have J24_3 : ∀ (T : State) (j3 : Int32), j3 = (if p1 < (48 : Int32) then (0 : Int32) else (if (57 : Int32) < p1 then (0 : Int32) else (1 : Int32))) → Here p l e ({ frames := 0, cells := 0, slots := 0, locals := 0 } : Room) s m ([(.ref r0), (.int (0 : Int32)), (.int (2 : Int32))] : List Value).toArray below meth c Z a0 tables_1 (⟨"com/example/capabind/capabind/http/WireReader", "isDigits", "([BII)Z"⟩ : MethodName).cls (⟨"com/example/capabind/capabind/http/WireReader", "isDigits", "([BII)Z"⟩ : MethodName).name prog_45_method_20_code 5 (some .boolean) n0 T ((r0, .inr (.byte, [(.int p1), (.int p2), (.int p3), (.int p4)])) :: RR) 0 0 → Go p e below (EndS below s n0 Z 0 0 (fun v L' => v = some (.int (FI_3 p1 p2)) ∧ L' = ((r0, .inr (.byte, [(.int p1), (.int p2), (.int p3), (.int p4)])) :: RR))) (T.setTop (mkF m 47 #[.val (.ref r0), .val (.int (0 : Int32)), .val (.int (2 : Int32)), .val (.int (1 : Int32)), .val (.int (0 : Int32))] [(.int j3)])) := by
   intro T j3 ej3 A
   have z_j3 : nar .boolean j3 = j3 := by rw [ej3]; (repeat' split) <;> first | decide | assumption
   refine A.istoreN (q := 48) (l' := #[.val (.ref r0), .val (.int (0 : Int32)), .val (.int (2 : Int32)), .val (.int j3), .val (.int (0 : Int32))]) d1_47 rfl rfl ?_
   refine A.iinc (q := 51) (v := (1 : Int32)) (l' := #[.val (.ref r0), .val (.int (0 : Int32)), .val (.int (2 : Int32)), .val (.int j3), .val (.int (1 : Int32))]) d1_48 rfl rfl (by decide) rfl ?_
   refine A.goto (r := 14) d1_51 (by decide) ?_
   refine A.iloadN (q := 15) d1_14 rfl rfl ?_
   refine A.if_eq (q := 18) (r := 54) d1_15 rfl (by decide) (fun h5 => ?_) (fun h5 => ?_)
   · refine A.iloadN (q := 55) d1_54 rfl rfl ?_
     subst ej3
     exact A.retZ (v := (FI_3 p1 p2)) d1_55 (by simp only [FI_3, if_pos h5]; first | rfl | assumption) (by decide) (by decide) ⟨rfl, by first | rfl | (simp only [if_pos h5])⟩
   · refine A.iload (q := 20) d1_18 rfl rfl ?_
     refine A.iloadN (q := 21) d1_20 rfl rfl ?_
     refine A.icmpF (q := 24) d1_21 rfl (by decide) ?_
     have J24_8 : ∀ (T : State) (j8 : Int32), j8 = (if p2 < (48 : Int32) then (0 : Int32) else (if (57 : Int32) < p2 then (0 : Int32) else (1 : Int32))) → Here p l e ({ frames := 0, cells := 0, slots := 0, locals := 0 } : Room) s m ([(.ref r0), (.int (0 : Int32)), (.int (2 : Int32))] : List Value).toArray below meth c Z a0 tables_1 (⟨"com/example/capabind/capabind/http/WireReader", "isDigits", "([BII)Z"⟩ : MethodName).cls (⟨"com/example/capabind/capabind/http/WireReader", "isDigits", "([BII)Z"⟩ : MethodName).name prog_45_method_20_code 5 (some .boolean) n0 T ((r0, .inr (.byte, [(.int p1), (.int p2), (.int p3), (.int p4)])) :: RR) 0 0 → Go p e below (EndS below s n0 Z 0 0 (fun v L' => v = some (.int (FI_3 p1 p2)) ∧ L' = ((r0, .inr (.byte, [(.int p1), (.int p2), (.int p3), (.int p4)])) :: RR))) (T.setTop (mkF m 47 #[.val (.ref r0), .val (.int (0 : Int32)), .val (.int (2 : Int32)), .val (.int j3), .val (.int (1 : Int32))] [(.int j8)])) := by
      intro T j8 ej8 A
      have z_j8 : nar .boolean j8 = j8 := by rw [ej8]; (repeat' split) <;> first | decide | assumption
      refine A.istoreN (q := 48) (l' := #[.val (.ref r0), .val (.int (0 : Int32)), .val (.int (2 : Int32)), .val (.int j8), .val (.int (1 : Int32))]) d1_47 rfl rfl ?_
      refine A.iinc (q := 51) (v := (2 : Int32)) (l' := #[.val (.ref r0), .val (.int (0 : Int32)), .val (.int (2 : Int32)), .val (.int j8), .val (.int (2 : Int32))]) d1_48 rfl rfl (by decide) rfl ?_
      refine A.goto (r := 14) d1_51 (by decide) ?_
      refine A.iloadN (q := 15) d1_14 rfl rfl ?_
      refine A.if_eq (q := 18) (r := 54) d1_15 rfl (by decide) (fun h10 => ?_) (fun h10 => ?_)
      · refine A.iloadN (q := 55) d1_54 rfl rfl ?_
        subst ej3 ej8
        exact A.retZ (v := (FI_3 p1 p2)) d1_55 (by simp only [FI_3, if_neg h5, if_pos h10]; first | rfl | assumption) (by decide) (by decide) ⟨rfl, by first | rfl | (simp only [if_neg h5, if_pos h10])⟩
      · refine A.iload (q := 20) d1_18 rfl rfl ?_
        refine A.iloadN (q := 21) d1_20 rfl rfl ?_
        refine A.icmpT (r := 54) d1_21 (by decide) (by decide) ?_
        refine A.iloadN (q := 55) d1_54 rfl rfl ?_
        subst ej3 ej8
        exact A.retZ (v := (FI_3 p1 p2)) d1_55 (by simp only [FI_3, if_neg h5, if_neg h10]; first | rfl | assumption) (by decide) (by decide) ⟨rfl, by first | rfl | (simp only [if_neg h5, if_neg h10])⟩
     refine A.aloadN (q := 25) d1_24 rfl rfl rfl ?_
     refine A.iload (q := 27) d1_25 rfl rfl ?_
     refine A.baloadB (q := 28) (i := 0) (v := (.int p2)) d1_27 rfl rfl (by decide) rfl ?_
     refine A.bipush (q := 30) (v := (48 : Int32)) d1_28 rfl (by decide) ?_
     refine A.icmp_lt (q := 33) (r := 46) d1_30 rfl (by decide) (fun h6 => ?_) (fun h6 => ?_)
     · refine A.iconst (q := 47) (v := (0 : Int32)) d1_46 rfl (by decide) ?_
       exact J24_8 T _ (by simp only [if_pos h6]) A
     · refine A.aloadN (q := 34) d1_33 rfl rfl rfl ?_
       refine A.iload (q := 36) d1_34 rfl rfl ?_
       refine A.baloadB (q := 37) (i := 0) (v := (.int p2)) d1_36 rfl rfl (by decide) rfl ?_
       refine A.bipush (q := 39) (v := (57 : Int32)) d1_37 rfl (by decide) ?_
       refine A.icmp_gt (q := 42) (r := 46) d1_39 rfl (by decide) (fun h7 => ?_) (fun h7 => ?_)
       · refine A.iconst (q := 47) (v := (0 : Int32)) d1_46 rfl (by decide) ?_
         exact J24_8 T _ (by simp only [if_neg h6, if_pos h7]) A
       · refine A.iconst (q := 43) (v := (1 : Int32)) d1_42 rfl (by decide) ?_
         refine A.goto (r := 47) d1_43 (by decide) ?_
         exact J24_8 T _ (by simp only [if_neg h6, if_neg h7]) A
  refine A.aloadN (q := 25) d1_24 rfl rfl rfl ?_
  refine A.iload (q := 27) d1_25 rfl rfl ?_
  refine A.baloadB (q := 28) (i := 0) (v := (.int p1)) d1_27 rfl rfl (by decide) rfl ?_
  refine A.bipush (q := 30) (v := (48 : Int32)) d1_28 rfl (by decide) ?_
  refine A.icmp_lt (q := 33) (r := 46) d1_30 rfl (by decide) (fun h1 => ?_) (fun h1 => ?_)
  · refine A.iconst (q := 47) (v := (0 : Int32)) d1_46 rfl (by decide) ?_
    exact J24_3 T _ (by simp only [if_pos h1]) A
  · refine A.aloadN (q := 34) d1_33 rfl rfl rfl ?_
    refine A.iload (q := 36) d1_34 rfl rfl ?_
    refine A.baloadB (q := 37) (i := 0) (v := (.int p1)) d1_36 rfl rfl (by decide) rfl ?_
    refine A.bipush (q := 39) (v := (57 : Int32)) d1_37 rfl (by decide) ?_
    refine A.icmp_gt (q := 42) (r := 46) d1_39 rfl (by decide) (fun h2 => ?_) (fun h2 => ?_)
    · refine A.iconst (q := 47) (v := (0 : Int32)) d1_46 rfl (by decide) ?_
      exact J24_3 T _ (by simp only [if_neg h1, if_pos h2]) A
    · refine A.iconst (q := 43) (v := (1 : Int32)) d1_42 rfl (by decide) ?_
      refine A.goto (r := 47) d1_43 (by decide) ?_
      exact J24_3 T _ (by simp only [if_neg h1, if_neg h2]) A
def FI_4 (p1 : Int32) (p2 : Int32) (p3 : Int32) : Int32 := (if ((if p1 < (48 : Int32) then (0 : Int32) else (if (57 : Int32) < p1 then (0 : Int32) else (1 : Int32)))) = (0 : Int32) then ((if p1 < (48 : Int32) then (0 : Int32) else (if (57 : Int32) < p1 then (0 : Int32) else (1 : Int32)))) else (if ((if p2 < (48 : Int32) then (0 : Int32) else (if (57 : Int32) < p2 then (0 : Int32) else (1 : Int32)))) = (0 : Int32) then ((if p2 < (48 : Int32) then (0 : Int32) else (if (57 : Int32) < p2 then (0 : Int32) else (1 : Int32)))) else ((if p3 < (48 : Int32) then (0 : Int32) else (if (57 : Int32) < p3 then (0 : Int32) else (1 : Int32))))))
set_option maxRecDepth 65536 in
set_option maxHeartbeats 8000000 in
theorem rmI_4 (l : Launch) (Z : State) (a0 : Array Value) (hw : ∀ d ∈ tables_1, d.before a0 Z = true) (n0 : Nat) (r0 : Addr) (p1 : Int32) (p2 : Int32) (p3 : Int32) (p4 : Int32) (RR : Obs) :
    Triple l Z n0 (⟨"com/example/capabind/capabind/http/WireReader", "isDigits", "([BII)Z"⟩ : MethodName) prog_45_method_20_code 5 (some .boolean) ({ frames := 0, cells := 0, slots := 0, locals := 0 } : Room) 0 0 [(.ref r0), (.int (0 : Int32)), (.int (3 : Int32))] ((r0, .inr (.byte, [(.int p1), (.int p2), (.int p3), (.int p4)])) :: RR) (fun v L' => v = some (.int (FI_4 p1 p2 p3)) ∧ L' = ((r0, .inr (.byte, [(.int p1), (.int p2), (.int p3), (.int p4)])) :: RR)) := by
  refine Triple.of_body (tbl := tables_1) (a0 := a0) (Ls := #[.val (.ref r0), .val (.int (0 : Int32)), .val (.int (3 : Int32)), .unset, .unset]) pn_1 hw rfl ?_
  intro p e s m below meth c T A
  refine A.iloadN (q := 1) d1_0 rfl rfl ?_
  refine A.iloadN (q := 2) d1_1 rfl rfl ?_
  refine A.icmpF (q := 5) d1_2 rfl (by decide) ?_
  refine A.iconst (q := 6) (v := (1 : Int32)) d1_5 rfl (by decide) ?_
  refine A.goto (r := 10) d1_6 (by decide) ?_
  refine A.istoreN (q := 11) (l' := #[.val (.ref r0), .val (.int (0 : Int32)), .val (.int (3 : Int32)), .val (.int (1 : Int32)), .unset]) d1_10 rfl rfl ?_
  refine A.iloadN (q := 12) d1_11 rfl rfl ?_
  refine A.istore (q := 14) (l' := #[.val (.ref r0), .val (.int (0 : Int32)), .val (.int (3 : Int32)), .val (.int (1 : Int32)), .val (.int (0 : Int32))]) d1_12 rfl rfl ?_
  refine A.iloadN (q := 15) d1_14 rfl rfl ?_
  refine A.ifF (q := 18) d1_15 rfl (by decide) ?_
  refine A.iload (q := 20) d1_18 rfl rfl ?_
  refine A.iloadN (q := 21) d1_20 rfl rfl ?_
  refine A.icmpF (q := 24) d1_21 rfl (by decide) ?_
  have J24_3 : ∀ (T : State) (j3 : Int32), j3 = (if p1 < (48 : Int32) then (0 : Int32) else (if (57 : Int32) < p1 then (0 : Int32) else (1 : Int32))) → Here p l e ({ frames := 0, cells := 0, slots := 0, locals := 0 } : Room) s m ([(.ref r0), (.int (0 : Int32)), (.int (3 : Int32))] : List Value).toArray below meth c Z a0 tables_1 (⟨"com/example/capabind/capabind/http/WireReader", "isDigits", "([BII)Z"⟩ : MethodName).cls (⟨"com/example/capabind/capabind/http/WireReader", "isDigits", "([BII)Z"⟩ : MethodName).name prog_45_method_20_code 5 (some .boolean) n0 T ((r0, .inr (.byte, [(.int p1), (.int p2), (.int p3), (.int p4)])) :: RR) 0 0 → Go p e below (EndS below s n0 Z 0 0 (fun v L' => v = some (.int (FI_4 p1 p2 p3)) ∧ L' = ((r0, .inr (.byte, [(.int p1), (.int p2), (.int p3), (.int p4)])) :: RR))) (T.setTop (mkF m 47 #[.val (.ref r0), .val (.int (0 : Int32)), .val (.int (3 : Int32)), .val (.int (1 : Int32)), .val (.int (0 : Int32))] [(.int j3)])) := by
   intro T j3 ej3 A
   have z_j3 : nar .boolean j3 = j3 := by rw [ej3]; (repeat' split) <;> first | decide | assumption
   refine A.istoreN (q := 48) (l' := #[.val (.ref r0), .val (.int (0 : Int32)), .val (.int (3 : Int32)), .val (.int j3), .val (.int (0 : Int32))]) d1_47 rfl rfl ?_
   refine A.iinc (q := 51) (v := (1 : Int32)) (l' := #[.val (.ref r0), .val (.int (0 : Int32)), .val (.int (3 : Int32)), .val (.int j3), .val (.int (1 : Int32))]) d1_48 rfl rfl (by decide) rfl ?_
   refine A.goto (r := 14) d1_51 (by decide) ?_
   refine A.iloadN (q := 15) d1_14 rfl rfl ?_
   refine A.if_eq (q := 18) (r := 54) d1_15 rfl (by decide) (fun h5 => ?_) (fun h5 => ?_)
   · refine A.iloadN (q := 55) d1_54 rfl rfl ?_
     subst ej3
     exact A.retZ (v := (FI_4 p1 p2 p3)) d1_55 (by simp only [FI_4, if_pos h5]; first | rfl | assumption) (by decide) (by decide) ⟨rfl, by first | rfl | (simp only [if_pos h5])⟩
   · refine A.iload (q := 20) d1_18 rfl rfl ?_
     refine A.iloadN (q := 21) d1_20 rfl rfl ?_
     refine A.icmpF (q := 24) d1_21 rfl (by decide) ?_
     have J24_8 : ∀ (T : State) (j8 : Int32), j8 = (if p2 < (48 : Int32) then (0 : Int32) else (if (57 : Int32) < p2 then (0 : Int32) else (1 : Int32))) → Here p l e ({ frames := 0, cells := 0, slots := 0, locals := 0 } : Room) s m ([(.ref r0), (.int (0 : Int32)), (.int (3 : Int32))] : List Value).toArray below meth c Z a0 tables_1 (⟨"com/example/capabind/capabind/http/WireReader", "isDigits", "([BII)Z"⟩ : MethodName).cls (⟨"com/example/capabind/capabind/http/WireReader", "isDigits", "([BII)Z"⟩ : MethodName).name prog_45_method_20_code 5 (some .boolean) n0 T ((r0, .inr (.byte, [(.int p1), (.int p2), (.int p3), (.int p4)])) :: RR) 0 0 → Go p e below (EndS below s n0 Z 0 0 (fun v L' => v = some (.int (FI_4 p1 p2 p3)) ∧ L' = ((r0, .inr (.byte, [(.int p1), (.int p2), (.int p3), (.int p4)])) :: RR))) (T.setTop (mkF m 47 #[.val (.ref r0), .val (.int (0 : Int32)), .val (.int (3 : Int32)), .val (.int j3), .val (.int (1 : Int32))] [(.int j8)])) := by
      intro T j8 ej8 A
      have z_j8 : nar .boolean j8 = j8 := by rw [ej8]; (repeat' split) <;> first | decide | assumption
      refine A.istoreN (q := 48) (l' := #[.val (.ref r0), .val (.int (0 : Int32)), .val (.int (3 : Int32)), .val (.int j8), .val (.int (1 : Int32))]) d1_47 rfl rfl ?_
      refine A.iinc (q := 51) (v := (2 : Int32)) (l' := #[.val (.ref r0), .val (.int (0 : Int32)), .val (.int (3 : Int32)), .val (.int j8), .val (.int (2 : Int32))]) d1_48 rfl rfl (by decide) rfl ?_
      refine A.goto (r := 14) d1_51 (by decide) ?_
      refine A.iloadN (q := 15) d1_14 rfl rfl ?_
      refine A.if_eq (q := 18) (r := 54) d1_15 rfl (by decide) (fun h10 => ?_) (fun h10 => ?_)
      · refine A.iloadN (q := 55) d1_54 rfl rfl ?_
        subst ej3 ej8
        exact A.retZ (v := (FI_4 p1 p2 p3)) d1_55 (by simp only [FI_4, if_neg h5, if_pos h10]; first | rfl | assumption) (by decide) (by decide) ⟨rfl, by first | rfl | (simp only [if_neg h5, if_pos h10])⟩
      · refine A.iload (q := 20) d1_18 rfl rfl ?_
        refine A.iloadN (q := 21) d1_20 rfl rfl ?_
        refine A.icmpF (q := 24) d1_21 rfl (by decide) ?_
        have J24_13 : ∀ (T : State) (j13 : Int32), j13 = (if p3 < (48 : Int32) then (0 : Int32) else (if (57 : Int32) < p3 then (0 : Int32) else (1 : Int32))) → Here p l e ({ frames := 0, cells := 0, slots := 0, locals := 0 } : Room) s m ([(.ref r0), (.int (0 : Int32)), (.int (3 : Int32))] : List Value).toArray below meth c Z a0 tables_1 (⟨"com/example/capabind/capabind/http/WireReader", "isDigits", "([BII)Z"⟩ : MethodName).cls (⟨"com/example/capabind/capabind/http/WireReader", "isDigits", "([BII)Z"⟩ : MethodName).name prog_45_method_20_code 5 (some .boolean) n0 T ((r0, .inr (.byte, [(.int p1), (.int p2), (.int p3), (.int p4)])) :: RR) 0 0 → Go p e below (EndS below s n0 Z 0 0 (fun v L' => v = some (.int (FI_4 p1 p2 p3)) ∧ L' = ((r0, .inr (.byte, [(.int p1), (.int p2), (.int p3), (.int p4)])) :: RR))) (T.setTop (mkF m 47 #[.val (.ref r0), .val (.int (0 : Int32)), .val (.int (3 : Int32)), .val (.int j8), .val (.int (2 : Int32))] [(.int j13)])) := by
         intro T j13 ej13 A
         have z_j13 : nar .boolean j13 = j13 := by rw [ej13]; (repeat' split) <;> first | decide | assumption
         refine A.istoreN (q := 48) (l' := #[.val (.ref r0), .val (.int (0 : Int32)), .val (.int (3 : Int32)), .val (.int j13), .val (.int (2 : Int32))]) d1_47 rfl rfl ?_
         refine A.iinc (q := 51) (v := (3 : Int32)) (l' := #[.val (.ref r0), .val (.int (0 : Int32)), .val (.int (3 : Int32)), .val (.int j13), .val (.int (3 : Int32))]) d1_48 rfl rfl (by decide) rfl ?_
         refine A.goto (r := 14) d1_51 (by decide) ?_
         refine A.iloadN (q := 15) d1_14 rfl rfl ?_
         refine A.if_eq (q := 18) (r := 54) d1_15 rfl (by decide) (fun h15 => ?_) (fun h15 => ?_)
         · refine A.iloadN (q := 55) d1_54 rfl rfl ?_
           subst ej3 ej8 ej13
           exact A.retZ (v := (FI_4 p1 p2 p3)) d1_55 (by simp only [FI_4, if_neg h5, if_neg h10, if_pos h15]; first | rfl | assumption) (by decide) (by decide) ⟨rfl, by first | rfl | (simp only [if_neg h5, if_neg h10, if_pos h15])⟩
         · refine A.iload (q := 20) d1_18 rfl rfl ?_
           refine A.iloadN (q := 21) d1_20 rfl rfl ?_
           refine A.icmpT (r := 54) d1_21 (by decide) (by decide) ?_
           refine A.iloadN (q := 55) d1_54 rfl rfl ?_
           subst ej3 ej8 ej13
           exact A.retZ (v := (FI_4 p1 p2 p3)) d1_55 (by simp only [FI_4, if_neg h5, if_neg h10, if_neg h15]; first | rfl | assumption) (by decide) (by decide) ⟨rfl, by first | rfl | (simp only [if_neg h5, if_neg h10, if_neg h15])⟩
        refine A.aloadN (q := 25) d1_24 rfl rfl rfl ?_
        refine A.iload (q := 27) d1_25 rfl rfl ?_
        refine A.baloadB (q := 28) (i := 0) (v := (.int p3)) d1_27 rfl rfl (by decide) rfl ?_
        refine A.bipush (q := 30) (v := (48 : Int32)) d1_28 rfl (by decide) ?_
        refine A.icmp_lt (q := 33) (r := 46) d1_30 rfl (by decide) (fun h11 => ?_) (fun h11 => ?_)
        · refine A.iconst (q := 47) (v := (0 : Int32)) d1_46 rfl (by decide) ?_
          exact J24_13 T _ (by simp only [if_pos h11]) A
        · refine A.aloadN (q := 34) d1_33 rfl rfl rfl ?_
          refine A.iload (q := 36) d1_34 rfl rfl ?_
          refine A.baloadB (q := 37) (i := 0) (v := (.int p3)) d1_36 rfl rfl (by decide) rfl ?_
          refine A.bipush (q := 39) (v := (57 : Int32)) d1_37 rfl (by decide) ?_
          refine A.icmp_gt (q := 42) (r := 46) d1_39 rfl (by decide) (fun h12 => ?_) (fun h12 => ?_)
          · refine A.iconst (q := 47) (v := (0 : Int32)) d1_46 rfl (by decide) ?_
            exact J24_13 T _ (by simp only [if_neg h11, if_pos h12]) A
          · refine A.iconst (q := 43) (v := (1 : Int32)) d1_42 rfl (by decide) ?_
            refine A.goto (r := 47) d1_43 (by decide) ?_
            exact J24_13 T _ (by simp only [if_neg h11, if_neg h12]) A
     refine A.aloadN (q := 25) d1_24 rfl rfl rfl ?_
     refine A.iload (q := 27) d1_25 rfl rfl ?_
     refine A.baloadB (q := 28) (i := 0) (v := (.int p2)) d1_27 rfl rfl (by decide) rfl ?_
     refine A.bipush (q := 30) (v := (48 : Int32)) d1_28 rfl (by decide) ?_
     refine A.icmp_lt (q := 33) (r := 46) d1_30 rfl (by decide) (fun h6 => ?_) (fun h6 => ?_)
     · refine A.iconst (q := 47) (v := (0 : Int32)) d1_46 rfl (by decide) ?_
       exact J24_8 T _ (by simp only [if_pos h6]) A
     · refine A.aloadN (q := 34) d1_33 rfl rfl rfl ?_
       refine A.iload (q := 36) d1_34 rfl rfl ?_
       refine A.baloadB (q := 37) (i := 0) (v := (.int p2)) d1_36 rfl rfl (by decide) rfl ?_
       refine A.bipush (q := 39) (v := (57 : Int32)) d1_37 rfl (by decide) ?_
       refine A.icmp_gt (q := 42) (r := 46) d1_39 rfl (by decide) (fun h7 => ?_) (fun h7 => ?_)
       · refine A.iconst (q := 47) (v := (0 : Int32)) d1_46 rfl (by decide) ?_
         exact J24_8 T _ (by simp only [if_neg h6, if_pos h7]) A
       · refine A.iconst (q := 43) (v := (1 : Int32)) d1_42 rfl (by decide) ?_
         refine A.goto (r := 47) d1_43 (by decide) ?_
         exact J24_8 T _ (by simp only [if_neg h6, if_neg h7]) A
  refine A.aloadN (q := 25) d1_24 rfl rfl rfl ?_
  refine A.iload (q := 27) d1_25 rfl rfl ?_
  refine A.baloadB (q := 28) (i := 0) (v := (.int p1)) d1_27 rfl rfl (by decide) rfl ?_
  refine A.bipush (q := 30) (v := (48 : Int32)) d1_28 rfl (by decide) ?_
  refine A.icmp_lt (q := 33) (r := 46) d1_30 rfl (by decide) (fun h1 => ?_) (fun h1 => ?_)
  · refine A.iconst (q := 47) (v := (0 : Int32)) d1_46 rfl (by decide) ?_
    exact J24_3 T _ (by simp only [if_pos h1]) A
  · refine A.aloadN (q := 34) d1_33 rfl rfl rfl ?_
    refine A.iload (q := 36) d1_34 rfl rfl ?_
    refine A.baloadB (q := 37) (i := 0) (v := (.int p1)) d1_36 rfl rfl (by decide) rfl ?_
    refine A.bipush (q := 39) (v := (57 : Int32)) d1_37 rfl (by decide) ?_
    refine A.icmp_gt (q := 42) (r := 46) d1_39 rfl (by decide) (fun h2 => ?_) (fun h2 => ?_)
    · refine A.iconst (q := 47) (v := (0 : Int32)) d1_46 rfl (by decide) ?_
      exact J24_3 T _ (by simp only [if_neg h1, if_pos h2]) A
    · refine A.iconst (q := 43) (v := (1 : Int32)) d1_42 rfl (by decide) ?_
      refine A.goto (r := 47) d1_43 (by decide) ?_
      exact J24_3 T _ (by simp only [if_neg h1, if_neg h2]) A
def FI_5 (p1 : Int32) (p2 : Int32) (p3 : Int32) (p4 : Int32) : Int32 := (if ((if p1 < (48 : Int32) then (0 : Int32) else (if (57 : Int32) < p1 then (0 : Int32) else (1 : Int32)))) = (0 : Int32) then ((if p1 < (48 : Int32) then (0 : Int32) else (if (57 : Int32) < p1 then (0 : Int32) else (1 : Int32)))) else (if ((if p2 < (48 : Int32) then (0 : Int32) else (if (57 : Int32) < p2 then (0 : Int32) else (1 : Int32)))) = (0 : Int32) then ((if p2 < (48 : Int32) then (0 : Int32) else (if (57 : Int32) < p2 then (0 : Int32) else (1 : Int32)))) else (if ((if p3 < (48 : Int32) then (0 : Int32) else (if (57 : Int32) < p3 then (0 : Int32) else (1 : Int32)))) = (0 : Int32) then ((if p3 < (48 : Int32) then (0 : Int32) else (if (57 : Int32) < p3 then (0 : Int32) else (1 : Int32)))) else ((if p4 < (48 : Int32) then (0 : Int32) else (if (57 : Int32) < p4 then (0 : Int32) else (1 : Int32)))))))
set_option maxRecDepth 65536 in
set_option maxHeartbeats 8000000 in
theorem rmI_5 (l : Launch) (Z : State) (a0 : Array Value) (hw : ∀ d ∈ tables_1, d.before a0 Z = true) (n0 : Nat) (r0 : Addr) (p1 : Int32) (p2 : Int32) (p3 : Int32) (p4 : Int32) (RR : Obs) :
    Triple l Z n0 (⟨"com/example/capabind/capabind/http/WireReader", "isDigits", "([BII)Z"⟩ : MethodName) prog_45_method_20_code 5 (some .boolean) ({ frames := 0, cells := 0, slots := 0, locals := 0 } : Room) 0 0 [(.ref r0), (.int (0 : Int32)), (.int (4 : Int32))] ((r0, .inr (.byte, [(.int p1), (.int p2), (.int p3), (.int p4)])) :: RR) (fun v L' => v = some (.int (FI_5 p1 p2 p3 p4)) ∧ L' = ((r0, .inr (.byte, [(.int p1), (.int p2), (.int p3), (.int p4)])) :: RR)) := by
  refine Triple.of_body (tbl := tables_1) (a0 := a0) (Ls := #[.val (.ref r0), .val (.int (0 : Int32)), .val (.int (4 : Int32)), .unset, .unset]) pn_1 hw rfl ?_
  intro p e s m below meth c T A
  refine A.iloadN (q := 1) d1_0 rfl rfl ?_
  refine A.iloadN (q := 2) d1_1 rfl rfl ?_
  refine A.icmpF (q := 5) d1_2 rfl (by decide) ?_
  refine A.iconst (q := 6) (v := (1 : Int32)) d1_5 rfl (by decide) ?_
  refine A.goto (r := 10) d1_6 (by decide) ?_
  refine A.istoreN (q := 11) (l' := #[.val (.ref r0), .val (.int (0 : Int32)), .val (.int (4 : Int32)), .val (.int (1 : Int32)), .unset]) d1_10 rfl rfl ?_
  refine A.iloadN (q := 12) d1_11 rfl rfl ?_
  refine A.istore (q := 14) (l' := #[.val (.ref r0), .val (.int (0 : Int32)), .val (.int (4 : Int32)), .val (.int (1 : Int32)), .val (.int (0 : Int32))]) d1_12 rfl rfl ?_
  refine A.iloadN (q := 15) d1_14 rfl rfl ?_
  refine A.ifF (q := 18) d1_15 rfl (by decide) ?_
  refine A.iload (q := 20) d1_18 rfl rfl ?_
  refine A.iloadN (q := 21) d1_20 rfl rfl ?_
  refine A.icmpF (q := 24) d1_21 rfl (by decide) ?_
  have J24_3 : ∀ (T : State) (j3 : Int32), j3 = (if p1 < (48 : Int32) then (0 : Int32) else (if (57 : Int32) < p1 then (0 : Int32) else (1 : Int32))) → Here p l e ({ frames := 0, cells := 0, slots := 0, locals := 0 } : Room) s m ([(.ref r0), (.int (0 : Int32)), (.int (4 : Int32))] : List Value).toArray below meth c Z a0 tables_1 (⟨"com/example/capabind/capabind/http/WireReader", "isDigits", "([BII)Z"⟩ : MethodName).cls (⟨"com/example/capabind/capabind/http/WireReader", "isDigits", "([BII)Z"⟩ : MethodName).name prog_45_method_20_code 5 (some .boolean) n0 T ((r0, .inr (.byte, [(.int p1), (.int p2), (.int p3), (.int p4)])) :: RR) 0 0 → Go p e below (EndS below s n0 Z 0 0 (fun v L' => v = some (.int (FI_5 p1 p2 p3 p4)) ∧ L' = ((r0, .inr (.byte, [(.int p1), (.int p2), (.int p3), (.int p4)])) :: RR))) (T.setTop (mkF m 47 #[.val (.ref r0), .val (.int (0 : Int32)), .val (.int (4 : Int32)), .val (.int (1 : Int32)), .val (.int (0 : Int32))] [(.int j3)])) := by
   intro T j3 ej3 A
   have z_j3 : nar .boolean j3 = j3 := by rw [ej3]; (repeat' split) <;> first | decide | assumption
   refine A.istoreN (q := 48) (l' := #[.val (.ref r0), .val (.int (0 : Int32)), .val (.int (4 : Int32)), .val (.int j3), .val (.int (0 : Int32))]) d1_47 rfl rfl ?_
   refine A.iinc (q := 51) (v := (1 : Int32)) (l' := #[.val (.ref r0), .val (.int (0 : Int32)), .val (.int (4 : Int32)), .val (.int j3), .val (.int (1 : Int32))]) d1_48 rfl rfl (by decide) rfl ?_
   refine A.goto (r := 14) d1_51 (by decide) ?_
   refine A.iloadN (q := 15) d1_14 rfl rfl ?_
   refine A.if_eq (q := 18) (r := 54) d1_15 rfl (by decide) (fun h5 => ?_) (fun h5 => ?_)
   · refine A.iloadN (q := 55) d1_54 rfl rfl ?_
     subst ej3
     exact A.retZ (v := (FI_5 p1 p2 p3 p4)) d1_55 (by simp only [FI_5, if_pos h5]; first | rfl | assumption) (by decide) (by decide) ⟨rfl, by first | rfl | (simp only [if_pos h5])⟩
   · refine A.iload (q := 20) d1_18 rfl rfl ?_
     refine A.iloadN (q := 21) d1_20 rfl rfl ?_
     refine A.icmpF (q := 24) d1_21 rfl (by decide) ?_
     have J24_8 : ∀ (T : State) (j8 : Int32), j8 = (if p2 < (48 : Int32) then (0 : Int32) else (if (57 : Int32) < p2 then (0 : Int32) else (1 : Int32))) → Here p l e ({ frames := 0, cells := 0, slots := 0, locals := 0 } : Room) s m ([(.ref r0), (.int (0 : Int32)), (.int (4 : Int32))] : List Value).toArray below meth c Z a0 tables_1 (⟨"com/example/capabind/capabind/http/WireReader", "isDigits", "([BII)Z"⟩ : MethodName).cls (⟨"com/example/capabind/capabind/http/WireReader", "isDigits", "([BII)Z"⟩ : MethodName).name prog_45_method_20_code 5 (some .boolean) n0 T ((r0, .inr (.byte, [(.int p1), (.int p2), (.int p3), (.int p4)])) :: RR) 0 0 → Go p e below (EndS below s n0 Z 0 0 (fun v L' => v = some (.int (FI_5 p1 p2 p3 p4)) ∧ L' = ((r0, .inr (.byte, [(.int p1), (.int p2), (.int p3), (.int p4)])) :: RR))) (T.setTop (mkF m 47 #[.val (.ref r0), .val (.int (0 : Int32)), .val (.int (4 : Int32)), .val (.int j3), .val (.int (1 : Int32))] [(.int j8)])) := by
      intro T j8 ej8 A
      have z_j8 : nar .boolean j8 = j8 := by rw [ej8]; (repeat' split) <;> first | decide | assumption
      refine A.istoreN (q := 48) (l' := #[.val (.ref r0), .val (.int (0 : Int32)), .val (.int (4 : Int32)), .val (.int j8), .val (.int (1 : Int32))]) d1_47 rfl rfl ?_
      refine A.iinc (q := 51) (v := (2 : Int32)) (l' := #[.val (.ref r0), .val (.int (0 : Int32)), .val (.int (4 : Int32)), .val (.int j8), .val (.int (2 : Int32))]) d1_48 rfl rfl (by decide) rfl ?_
      refine A.goto (r := 14) d1_51 (by decide) ?_
      refine A.iloadN (q := 15) d1_14 rfl rfl ?_
      refine A.if_eq (q := 18) (r := 54) d1_15 rfl (by decide) (fun h10 => ?_) (fun h10 => ?_)
      · refine A.iloadN (q := 55) d1_54 rfl rfl ?_
        subst ej3 ej8
        exact A.retZ (v := (FI_5 p1 p2 p3 p4)) d1_55 (by simp only [FI_5, if_neg h5, if_pos h10]; first | rfl | assumption) (by decide) (by decide) ⟨rfl, by first | rfl | (simp only [if_neg h5, if_pos h10])⟩
      · refine A.iload (q := 20) d1_18 rfl rfl ?_
        refine A.iloadN (q := 21) d1_20 rfl rfl ?_
        refine A.icmpF (q := 24) d1_21 rfl (by decide) ?_
        have J24_13 : ∀ (T : State) (j13 : Int32), j13 = (if p3 < (48 : Int32) then (0 : Int32) else (if (57 : Int32) < p3 then (0 : Int32) else (1 : Int32))) → Here p l e ({ frames := 0, cells := 0, slots := 0, locals := 0 } : Room) s m ([(.ref r0), (.int (0 : Int32)), (.int (4 : Int32))] : List Value).toArray below meth c Z a0 tables_1 (⟨"com/example/capabind/capabind/http/WireReader", "isDigits", "([BII)Z"⟩ : MethodName).cls (⟨"com/example/capabind/capabind/http/WireReader", "isDigits", "([BII)Z"⟩ : MethodName).name prog_45_method_20_code 5 (some .boolean) n0 T ((r0, .inr (.byte, [(.int p1), (.int p2), (.int p3), (.int p4)])) :: RR) 0 0 → Go p e below (EndS below s n0 Z 0 0 (fun v L' => v = some (.int (FI_5 p1 p2 p3 p4)) ∧ L' = ((r0, .inr (.byte, [(.int p1), (.int p2), (.int p3), (.int p4)])) :: RR))) (T.setTop (mkF m 47 #[.val (.ref r0), .val (.int (0 : Int32)), .val (.int (4 : Int32)), .val (.int j8), .val (.int (2 : Int32))] [(.int j13)])) := by
         intro T j13 ej13 A
         have z_j13 : nar .boolean j13 = j13 := by rw [ej13]; (repeat' split) <;> first | decide | assumption
         refine A.istoreN (q := 48) (l' := #[.val (.ref r0), .val (.int (0 : Int32)), .val (.int (4 : Int32)), .val (.int j13), .val (.int (2 : Int32))]) d1_47 rfl rfl ?_
         refine A.iinc (q := 51) (v := (3 : Int32)) (l' := #[.val (.ref r0), .val (.int (0 : Int32)), .val (.int (4 : Int32)), .val (.int j13), .val (.int (3 : Int32))]) d1_48 rfl rfl (by decide) rfl ?_
         refine A.goto (r := 14) d1_51 (by decide) ?_
         refine A.iloadN (q := 15) d1_14 rfl rfl ?_
         refine A.if_eq (q := 18) (r := 54) d1_15 rfl (by decide) (fun h15 => ?_) (fun h15 => ?_)
         · refine A.iloadN (q := 55) d1_54 rfl rfl ?_
           subst ej3 ej8 ej13
           exact A.retZ (v := (FI_5 p1 p2 p3 p4)) d1_55 (by simp only [FI_5, if_neg h5, if_neg h10, if_pos h15]; first | rfl | assumption) (by decide) (by decide) ⟨rfl, by first | rfl | (simp only [if_neg h5, if_neg h10, if_pos h15])⟩
         · refine A.iload (q := 20) d1_18 rfl rfl ?_
           refine A.iloadN (q := 21) d1_20 rfl rfl ?_
           refine A.icmpF (q := 24) d1_21 rfl (by decide) ?_
           have J24_18 : ∀ (T : State) (j18 : Int32), j18 = (if p4 < (48 : Int32) then (0 : Int32) else (if (57 : Int32) < p4 then (0 : Int32) else (1 : Int32))) → Here p l e ({ frames := 0, cells := 0, slots := 0, locals := 0 } : Room) s m ([(.ref r0), (.int (0 : Int32)), (.int (4 : Int32))] : List Value).toArray below meth c Z a0 tables_1 (⟨"com/example/capabind/capabind/http/WireReader", "isDigits", "([BII)Z"⟩ : MethodName).cls (⟨"com/example/capabind/capabind/http/WireReader", "isDigits", "([BII)Z"⟩ : MethodName).name prog_45_method_20_code 5 (some .boolean) n0 T ((r0, .inr (.byte, [(.int p1), (.int p2), (.int p3), (.int p4)])) :: RR) 0 0 → Go p e below (EndS below s n0 Z 0 0 (fun v L' => v = some (.int (FI_5 p1 p2 p3 p4)) ∧ L' = ((r0, .inr (.byte, [(.int p1), (.int p2), (.int p3), (.int p4)])) :: RR))) (T.setTop (mkF m 47 #[.val (.ref r0), .val (.int (0 : Int32)), .val (.int (4 : Int32)), .val (.int j13), .val (.int (3 : Int32))] [(.int j18)])) := by
            intro T j18 ej18 A
            have z_j18 : nar .boolean j18 = j18 := by rw [ej18]; (repeat' split) <;> first | decide | assumption
            refine A.istoreN (q := 48) (l' := #[.val (.ref r0), .val (.int (0 : Int32)), .val (.int (4 : Int32)), .val (.int j18), .val (.int (3 : Int32))]) d1_47 rfl rfl ?_
            refine A.iinc (q := 51) (v := (4 : Int32)) (l' := #[.val (.ref r0), .val (.int (0 : Int32)), .val (.int (4 : Int32)), .val (.int j18), .val (.int (4 : Int32))]) d1_48 rfl rfl (by decide) rfl ?_
            refine A.goto (r := 14) d1_51 (by decide) ?_
            refine A.iloadN (q := 15) d1_14 rfl rfl ?_
            refine A.if_eq (q := 18) (r := 54) d1_15 rfl (by decide) (fun h20 => ?_) (fun h20 => ?_)
            · refine A.iloadN (q := 55) d1_54 rfl rfl ?_
              subst ej3 ej8 ej13 ej18
              exact A.retZ (v := (FI_5 p1 p2 p3 p4)) d1_55 (by simp only [FI_5, if_neg h5, if_neg h10, if_neg h15, if_pos h20]; first | rfl | assumption) (by decide) (by decide) ⟨rfl, by first | rfl | (simp only [if_neg h5, if_neg h10, if_neg h15, if_pos h20])⟩
            · refine A.iload (q := 20) d1_18 rfl rfl ?_
              refine A.iloadN (q := 21) d1_20 rfl rfl ?_
              refine A.icmpT (r := 54) d1_21 (by decide) (by decide) ?_
              refine A.iloadN (q := 55) d1_54 rfl rfl ?_
              subst ej3 ej8 ej13 ej18
              exact A.retZ (v := (FI_5 p1 p2 p3 p4)) d1_55 (by simp only [FI_5, if_neg h5, if_neg h10, if_neg h15, if_neg h20]; first | rfl | assumption) (by decide) (by decide) ⟨rfl, by first | rfl | (simp only [if_neg h5, if_neg h10, if_neg h15, if_neg h20])⟩
           refine A.aloadN (q := 25) d1_24 rfl rfl rfl ?_
           refine A.iload (q := 27) d1_25 rfl rfl ?_
           refine A.baloadB (q := 28) (i := 0) (v := (.int p4)) d1_27 rfl rfl (by decide) rfl ?_
           refine A.bipush (q := 30) (v := (48 : Int32)) d1_28 rfl (by decide) ?_
           refine A.icmp_lt (q := 33) (r := 46) d1_30 rfl (by decide) (fun h16 => ?_) (fun h16 => ?_)
           · refine A.iconst (q := 47) (v := (0 : Int32)) d1_46 rfl (by decide) ?_
             exact J24_18 T _ (by simp only [if_pos h16]) A
           · refine A.aloadN (q := 34) d1_33 rfl rfl rfl ?_
             refine A.iload (q := 36) d1_34 rfl rfl ?_
             refine A.baloadB (q := 37) (i := 0) (v := (.int p4)) d1_36 rfl rfl (by decide) rfl ?_
             refine A.bipush (q := 39) (v := (57 : Int32)) d1_37 rfl (by decide) ?_
             refine A.icmp_gt (q := 42) (r := 46) d1_39 rfl (by decide) (fun h17 => ?_) (fun h17 => ?_)
             · refine A.iconst (q := 47) (v := (0 : Int32)) d1_46 rfl (by decide) ?_
               exact J24_18 T _ (by simp only [if_neg h16, if_pos h17]) A
             · refine A.iconst (q := 43) (v := (1 : Int32)) d1_42 rfl (by decide) ?_
               refine A.goto (r := 47) d1_43 (by decide) ?_
               exact J24_18 T _ (by simp only [if_neg h16, if_neg h17]) A
        refine A.aloadN (q := 25) d1_24 rfl rfl rfl ?_
        refine A.iload (q := 27) d1_25 rfl rfl ?_
        refine A.baloadB (q := 28) (i := 0) (v := (.int p3)) d1_27 rfl rfl (by decide) rfl ?_
        refine A.bipush (q := 30) (v := (48 : Int32)) d1_28 rfl (by decide) ?_
        refine A.icmp_lt (q := 33) (r := 46) d1_30 rfl (by decide) (fun h11 => ?_) (fun h11 => ?_)
        · refine A.iconst (q := 47) (v := (0 : Int32)) d1_46 rfl (by decide) ?_
          exact J24_13 T _ (by simp only [if_pos h11]) A
        · refine A.aloadN (q := 34) d1_33 rfl rfl rfl ?_
          refine A.iload (q := 36) d1_34 rfl rfl ?_
          refine A.baloadB (q := 37) (i := 0) (v := (.int p3)) d1_36 rfl rfl (by decide) rfl ?_
          refine A.bipush (q := 39) (v := (57 : Int32)) d1_37 rfl (by decide) ?_
          refine A.icmp_gt (q := 42) (r := 46) d1_39 rfl (by decide) (fun h12 => ?_) (fun h12 => ?_)
          · refine A.iconst (q := 47) (v := (0 : Int32)) d1_46 rfl (by decide) ?_
            exact J24_13 T _ (by simp only [if_neg h11, if_pos h12]) A
          · refine A.iconst (q := 43) (v := (1 : Int32)) d1_42 rfl (by decide) ?_
            refine A.goto (r := 47) d1_43 (by decide) ?_
            exact J24_13 T _ (by simp only [if_neg h11, if_neg h12]) A
     refine A.aloadN (q := 25) d1_24 rfl rfl rfl ?_
     refine A.iload (q := 27) d1_25 rfl rfl ?_
     refine A.baloadB (q := 28) (i := 0) (v := (.int p2)) d1_27 rfl rfl (by decide) rfl ?_
     refine A.bipush (q := 30) (v := (48 : Int32)) d1_28 rfl (by decide) ?_
     refine A.icmp_lt (q := 33) (r := 46) d1_30 rfl (by decide) (fun h6 => ?_) (fun h6 => ?_)
     · refine A.iconst (q := 47) (v := (0 : Int32)) d1_46 rfl (by decide) ?_
       exact J24_8 T _ (by simp only [if_pos h6]) A
     · refine A.aloadN (q := 34) d1_33 rfl rfl rfl ?_
       refine A.iload (q := 36) d1_34 rfl rfl ?_
       refine A.baloadB (q := 37) (i := 0) (v := (.int p2)) d1_36 rfl rfl (by decide) rfl ?_
       refine A.bipush (q := 39) (v := (57 : Int32)) d1_37 rfl (by decide) ?_
       refine A.icmp_gt (q := 42) (r := 46) d1_39 rfl (by decide) (fun h7 => ?_) (fun h7 => ?_)
       · refine A.iconst (q := 47) (v := (0 : Int32)) d1_46 rfl (by decide) ?_
         exact J24_8 T _ (by simp only [if_neg h6, if_pos h7]) A
       · refine A.iconst (q := 43) (v := (1 : Int32)) d1_42 rfl (by decide) ?_
         refine A.goto (r := 47) d1_43 (by decide) ?_
         exact J24_8 T _ (by simp only [if_neg h6, if_neg h7]) A
  refine A.aloadN (q := 25) d1_24 rfl rfl rfl ?_
  refine A.iload (q := 27) d1_25 rfl rfl ?_
  refine A.baloadB (q := 28) (i := 0) (v := (.int p1)) d1_27 rfl rfl (by decide) rfl ?_
  refine A.bipush (q := 30) (v := (48 : Int32)) d1_28 rfl (by decide) ?_
  refine A.icmp_lt (q := 33) (r := 46) d1_30 rfl (by decide) (fun h1 => ?_) (fun h1 => ?_)
  · refine A.iconst (q := 47) (v := (0 : Int32)) d1_46 rfl (by decide) ?_
    exact J24_3 T _ (by simp only [if_pos h1]) A
  · refine A.aloadN (q := 34) d1_33 rfl rfl rfl ?_
    refine A.iload (q := 36) d1_34 rfl rfl ?_
    refine A.baloadB (q := 37) (i := 0) (v := (.int p1)) d1_36 rfl rfl (by decide) rfl ?_
    refine A.bipush (q := 39) (v := (57 : Int32)) d1_37 rfl (by decide) ?_
    refine A.icmp_gt (q := 42) (r := 46) d1_39 rfl (by decide) (fun h2 => ?_) (fun h2 => ?_)
    · refine A.iconst (q := 47) (v := (0 : Int32)) d1_46 rfl (by decide) ?_
      exact J24_3 T _ (by simp only [if_neg h1, if_pos h2]) A
    · refine A.iconst (q := 43) (v := (1 : Int32)) d1_42 rfl (by decide) ?_
      refine A.goto (r := 47) d1_43 (by decide) ?_
      exact J24_3 T _ (by simp only [if_neg h1, if_neg h2]) A
set_option maxRecDepth 65536 in
set_option maxHeartbeats 8000000 in
theorem rmI_6 (l : Launch) (Z : State) (a0 : Array Value) (hw : ∀ d ∈ tables_1, d.before a0 Z = true) (n0 : Nat) (r0 : Addr) (p1 : Int32) (p2 : Int32) (p3 : Int32) (p4 : Int32) (RR : Obs) :
    Triple l Z n0 (⟨"com/example/capabind/capabind/http/WireReader", "isDigits", "([BII)Z"⟩ : MethodName) prog_45_method_20_code 5 (some .boolean) ({ frames := 0, cells := 0, slots := 0, locals := 0 } : Room) 0 0 [(.ref r0), (.int (1 : Int32)), (.int (0 : Int32))] ((r0, .inr (.byte, [(.int p1), (.int p2), (.int p3), (.int p4)])) :: RR) (fun v L' => v = some (.int (0 : Int32)) ∧ L' = ((r0, .inr (.byte, [(.int p1), (.int p2), (.int p3), (.int p4)])) :: RR)) := by
  refine Triple.of_body (tbl := tables_1) (a0 := a0) (Ls := #[.val (.ref r0), .val (.int (1 : Int32)), .val (.int (0 : Int32)), .unset, .unset]) pn_1 hw rfl ?_
  intro p e s m below meth c T A
  refine A.iloadN (q := 1) d1_0 rfl rfl ?_
  refine A.iloadN (q := 2) d1_1 rfl rfl ?_
  refine A.icmpT (r := 9) d1_2 (by decide) (by decide) ?_
  refine A.iconst (q := 10) (v := (0 : Int32)) d1_9 rfl (by decide) ?_
  refine A.istoreN (q := 11) (l' := #[.val (.ref r0), .val (.int (1 : Int32)), .val (.int (0 : Int32)), .val (.int (0 : Int32)), .unset]) d1_10 rfl rfl ?_
  refine A.iloadN (q := 12) d1_11 rfl rfl ?_
  refine A.istore (q := 14) (l' := #[.val (.ref r0), .val (.int (1 : Int32)), .val (.int (0 : Int32)), .val (.int (0 : Int32)), .val (.int (1 : Int32))]) d1_12 rfl rfl ?_
  refine A.iloadN (q := 15) d1_14 rfl rfl ?_
  refine A.ifT (r := 54) d1_15 (by decide) (by decide) ?_
  refine A.iloadN (q := 55) d1_54 rfl rfl ?_
  exact A.retZ (v := (0 : Int32)) d1_55 (by decide) (by decide) (by decide) ⟨rfl, rfl⟩
set_option maxRecDepth 65536 in
set_option maxHeartbeats 8000000 in
theorem rmI_7 (l : Launch) (Z : State) (a0 : Array Value) (hw : ∀ d ∈ tables_1, d.before a0 Z = true) (n0 : Nat) (r0 : Addr) (p1 : Int32) (p2 : Int32) (p3 : Int32) (p4 : Int32) (RR : Obs) :
    Triple l Z n0 (⟨"com/example/capabind/capabind/http/WireReader", "isDigits", "([BII)Z"⟩ : MethodName) prog_45_method_20_code 5 (some .boolean) ({ frames := 0, cells := 0, slots := 0, locals := 0 } : Room) 0 0 [(.ref r0), (.int (1 : Int32)), (.int (1 : Int32))] ((r0, .inr (.byte, [(.int p1), (.int p2), (.int p3), (.int p4)])) :: RR) (fun v L' => v = some (.int (0 : Int32)) ∧ L' = ((r0, .inr (.byte, [(.int p1), (.int p2), (.int p3), (.int p4)])) :: RR)) := by
  refine Triple.of_body (tbl := tables_1) (a0 := a0) (Ls := #[.val (.ref r0), .val (.int (1 : Int32)), .val (.int (1 : Int32)), .unset, .unset]) pn_1 hw rfl ?_
  intro p e s m below meth c T A
  refine A.iloadN (q := 1) d1_0 rfl rfl ?_
  refine A.iloadN (q := 2) d1_1 rfl rfl ?_
  refine A.icmpT (r := 9) d1_2 (by decide) (by decide) ?_
  refine A.iconst (q := 10) (v := (0 : Int32)) d1_9 rfl (by decide) ?_
  refine A.istoreN (q := 11) (l' := #[.val (.ref r0), .val (.int (1 : Int32)), .val (.int (1 : Int32)), .val (.int (0 : Int32)), .unset]) d1_10 rfl rfl ?_
  refine A.iloadN (q := 12) d1_11 rfl rfl ?_
  refine A.istore (q := 14) (l' := #[.val (.ref r0), .val (.int (1 : Int32)), .val (.int (1 : Int32)), .val (.int (0 : Int32)), .val (.int (1 : Int32))]) d1_12 rfl rfl ?_
  refine A.iloadN (q := 15) d1_14 rfl rfl ?_
  refine A.ifT (r := 54) d1_15 (by decide) (by decide) ?_
  refine A.iloadN (q := 55) d1_54 rfl rfl ?_
  exact A.retZ (v := (0 : Int32)) d1_55 (by decide) (by decide) (by decide) ⟨rfl, rfl⟩
set_option maxRecDepth 65536 in
set_option maxHeartbeats 8000000 in
theorem rmI_8 (l : Launch) (Z : State) (a0 : Array Value) (hw : ∀ d ∈ tables_1, d.before a0 Z = true) (n0 : Nat) (r0 : Addr) (p1 : Int32) (p2 : Int32) (p3 : Int32) (p4 : Int32) (RR : Obs) :
    Triple l Z n0 (⟨"com/example/capabind/capabind/http/WireReader", "isDigits", "([BII)Z"⟩ : MethodName) prog_45_method_20_code 5 (some .boolean) ({ frames := 0, cells := 0, slots := 0, locals := 0 } : Room) 0 0 [(.ref r0), (.int (1 : Int32)), (.int (2 : Int32))] ((r0, .inr (.byte, [(.int p1), (.int p2), (.int p3), (.int p4)])) :: RR) (fun v L' => v = some (.int ((if p2 < (48 : Int32) then (0 : Int32) else (if (57 : Int32) < p2 then (0 : Int32) else (1 : Int32))))) ∧ L' = ((r0, .inr (.byte, [(.int p1), (.int p2), (.int p3), (.int p4)])) :: RR)) := by
  refine Triple.of_body (tbl := tables_1) (a0 := a0) (Ls := #[.val (.ref r0), .val (.int (1 : Int32)), .val (.int (2 : Int32)), .unset, .unset]) pn_1 hw rfl ?_
  intro p e s m below meth c T A
  refine A.iloadN (q := 1) d1_0 rfl rfl ?_
  refine A.iloadN (q := 2) d1_1 rfl rfl ?_
  refine A.icmpF (q := 5) d1_2 rfl (by decide) ?_
  refine A.iconst (q := 6) (v := (1 : Int32)) d1_5 rfl (by decide) ?_
  refine A.goto (r := 10) d1_6 (by decide) ?_
  refine A.istoreN (q := 11) (l' := #[.val (.ref r0), .val (.int (1 : Int32)), .val (.int (2 : Int32)), .val (.int (1 : Int32)), .unset]) d1_10 rfl rfl ?_
  refine A.iloadN (q := 12) d1_11 rfl rfl ?_
  refine A.istore (q := 14) (l' := #[.val (.ref r0), .val (.int (1 : Int32)), .val (.int (2 : Int32)), .val (.int (1 : Int32)), .val (.int (1 : Int32))]) d1_12 rfl rfl ?_
  refine A.iloadN (q := 15) d1_14 rfl rfl ?_
  refine A.ifF (q := 18) d1_15 rfl (by decide) ?_
  refine A.iload (q := 20) d1_18 rfl rfl ?_
  refine A.iloadN (q := 21) d1_20 rfl rfl ?_
  refine A.icmpF (q := 24) d1_21 rfl (by decide) ?_
  have J24_3 : ∀ (T : State) (j3 : Int32), j3 = (if p2 < (48 : Int32) then (0 : Int32) else (if (57 : Int32) < p2 then (0 : Int32) else (1 : Int32))) → Here p l e ({ frames := 0, cells := 0, slots := 0, locals := 0 } : Room) s m ([(.ref r0), (.int (1 : Int32)), (.int (2 : Int32))] : List Value).toArray below meth c Z a0 tables_1 (⟨"com/example/capabind/capabind/http/WireReader", "isDigits", "([BII)Z"⟩ : MethodName).cls (⟨"com/example/capabind/capabind/http/WireReader", "isDigits", "([BII)Z"⟩ : MethodName).name prog_45_method_20_code 5 (some .boolean) n0 T ((r0, .inr (.byte, [(.int p1), (.int p2), (.int p3), (.int p4)])) :: RR) 0 0 → Go p e below (EndS below s n0 Z 0 0 (fun v L' => v = some (.int ((if p2 < (48 : Int32) then (0 : Int32) else (if (57 : Int32) < p2 then (0 : Int32) else (1 : Int32))))) ∧ L' = ((r0, .inr (.byte, [(.int p1), (.int p2), (.int p3), (.int p4)])) :: RR))) (T.setTop (mkF m 47 #[.val (.ref r0), .val (.int (1 : Int32)), .val (.int (2 : Int32)), .val (.int (1 : Int32)), .val (.int (1 : Int32))] [(.int j3)])) := by
   intro T j3 ej3 A
   have z_j3 : nar .boolean j3 = j3 := by rw [ej3]; (repeat' split) <;> first | decide | assumption
   refine A.istoreN (q := 48) (l' := #[.val (.ref r0), .val (.int (1 : Int32)), .val (.int (2 : Int32)), .val (.int j3), .val (.int (1 : Int32))]) d1_47 rfl rfl ?_
   refine A.iinc (q := 51) (v := (2 : Int32)) (l' := #[.val (.ref r0), .val (.int (1 : Int32)), .val (.int (2 : Int32)), .val (.int j3), .val (.int (2 : Int32))]) d1_48 rfl rfl (by decide) rfl ?_
   refine A.goto (r := 14) d1_51 (by decide) ?_
   refine A.iloadN (q := 15) d1_14 rfl rfl ?_
   refine A.if_eq (q := 18) (r := 54) d1_15 rfl (by decide) (fun h5 => ?_) (fun h5 => ?_)
   · refine A.iloadN (q := 55) d1_54 rfl rfl ?_
     subst ej3
     exact A.retZ (v := ((if p2 < (48 : Int32) then (0 : Int32) else (if (57 : Int32) < p2 then (0 : Int32) else (1 : Int32))))) d1_55 (by first | rfl | assumption | decide) (by decide) (by decide) ⟨rfl, by first | rfl | (simp only [if_pos h5])⟩
   · refine A.iload (q := 20) d1_18 rfl rfl ?_
     refine A.iloadN (q := 21) d1_20 rfl rfl ?_
     refine A.icmpT (r := 54) d1_21 (by decide) (by decide) ?_
     refine A.iloadN (q := 55) d1_54 rfl rfl ?_
     subst ej3
     exact A.retZ (v := ((if p2 < (48 : Int32) then (0 : Int32) else (if (57 : Int32) < p2 then (0 : Int32) else (1 : Int32))))) d1_55 (by first | rfl | assumption | decide) (by decide) (by decide) ⟨rfl, by first | rfl | (simp only [if_neg h5])⟩
  refine A.aloadN (q := 25) d1_24 rfl rfl rfl ?_
  refine A.iload (q := 27) d1_25 rfl rfl ?_
  refine A.baloadB (q := 28) (i := 0) (v := (.int p2)) d1_27 rfl rfl (by decide) rfl ?_
  refine A.bipush (q := 30) (v := (48 : Int32)) d1_28 rfl (by decide) ?_
  refine A.icmp_lt (q := 33) (r := 46) d1_30 rfl (by decide) (fun h1 => ?_) (fun h1 => ?_)
  · refine A.iconst (q := 47) (v := (0 : Int32)) d1_46 rfl (by decide) ?_
    exact J24_3 T _ (by simp only [if_pos h1]) A
  · refine A.aloadN (q := 34) d1_33 rfl rfl rfl ?_
    refine A.iload (q := 36) d1_34 rfl rfl ?_
    refine A.baloadB (q := 37) (i := 0) (v := (.int p2)) d1_36 rfl rfl (by decide) rfl ?_
    refine A.bipush (q := 39) (v := (57 : Int32)) d1_37 rfl (by decide) ?_
    refine A.icmp_gt (q := 42) (r := 46) d1_39 rfl (by decide) (fun h2 => ?_) (fun h2 => ?_)
    · refine A.iconst (q := 47) (v := (0 : Int32)) d1_46 rfl (by decide) ?_
      exact J24_3 T _ (by simp only [if_neg h1, if_pos h2]) A
    · refine A.iconst (q := 43) (v := (1 : Int32)) d1_42 rfl (by decide) ?_
      refine A.goto (r := 47) d1_43 (by decide) ?_
      exact J24_3 T _ (by simp only [if_neg h1, if_neg h2]) A
def FI_9 (p2 : Int32) (p3 : Int32) : Int32 := (if ((if p2 < (48 : Int32) then (0 : Int32) else (if (57 : Int32) < p2 then (0 : Int32) else (1 : Int32)))) = (0 : Int32) then ((if p2 < (48 : Int32) then (0 : Int32) else (if (57 : Int32) < p2 then (0 : Int32) else (1 : Int32)))) else ((if p3 < (48 : Int32) then (0 : Int32) else (if (57 : Int32) < p3 then (0 : Int32) else (1 : Int32)))))
set_option maxRecDepth 65536 in
set_option maxHeartbeats 8000000 in
theorem rmI_9 (l : Launch) (Z : State) (a0 : Array Value) (hw : ∀ d ∈ tables_1, d.before a0 Z = true) (n0 : Nat) (r0 : Addr) (p1 : Int32) (p2 : Int32) (p3 : Int32) (p4 : Int32) (RR : Obs) :
    Triple l Z n0 (⟨"com/example/capabind/capabind/http/WireReader", "isDigits", "([BII)Z"⟩ : MethodName) prog_45_method_20_code 5 (some .boolean) ({ frames := 0, cells := 0, slots := 0, locals := 0 } : Room) 0 0 [(.ref r0), (.int (1 : Int32)), (.int (3 : Int32))] ((r0, .inr (.byte, [(.int p1), (.int p2), (.int p3), (.int p4)])) :: RR) (fun v L' => v = some (.int (FI_9 p2 p3)) ∧ L' = ((r0, .inr (.byte, [(.int p1), (.int p2), (.int p3), (.int p4)])) :: RR)) := by
  refine Triple.of_body (tbl := tables_1) (a0 := a0) (Ls := #[.val (.ref r0), .val (.int (1 : Int32)), .val (.int (3 : Int32)), .unset, .unset]) pn_1 hw rfl ?_
  intro p e s m below meth c T A
  refine A.iloadN (q := 1) d1_0 rfl rfl ?_
  refine A.iloadN (q := 2) d1_1 rfl rfl ?_
  refine A.icmpF (q := 5) d1_2 rfl (by decide) ?_
  refine A.iconst (q := 6) (v := (1 : Int32)) d1_5 rfl (by decide) ?_
  refine A.goto (r := 10) d1_6 (by decide) ?_
  refine A.istoreN (q := 11) (l' := #[.val (.ref r0), .val (.int (1 : Int32)), .val (.int (3 : Int32)), .val (.int (1 : Int32)), .unset]) d1_10 rfl rfl ?_
  refine A.iloadN (q := 12) d1_11 rfl rfl ?_
  refine A.istore (q := 14) (l' := #[.val (.ref r0), .val (.int (1 : Int32)), .val (.int (3 : Int32)), .val (.int (1 : Int32)), .val (.int (1 : Int32))]) d1_12 rfl rfl ?_
  refine A.iloadN (q := 15) d1_14 rfl rfl ?_
  refine A.ifF (q := 18) d1_15 rfl (by decide) ?_
  refine A.iload (q := 20) d1_18 rfl rfl ?_
  refine A.iloadN (q := 21) d1_20 rfl rfl ?_
  refine A.icmpF (q := 24) d1_21 rfl (by decide) ?_
  have J24_3 : ∀ (T : State) (j3 : Int32), j3 = (if p2 < (48 : Int32) then (0 : Int32) else (if (57 : Int32) < p2 then (0 : Int32) else (1 : Int32))) → Here p l e ({ frames := 0, cells := 0, slots := 0, locals := 0 } : Room) s m ([(.ref r0), (.int (1 : Int32)), (.int (3 : Int32))] : List Value).toArray below meth c Z a0 tables_1 (⟨"com/example/capabind/capabind/http/WireReader", "isDigits", "([BII)Z"⟩ : MethodName).cls (⟨"com/example/capabind/capabind/http/WireReader", "isDigits", "([BII)Z"⟩ : MethodName).name prog_45_method_20_code 5 (some .boolean) n0 T ((r0, .inr (.byte, [(.int p1), (.int p2), (.int p3), (.int p4)])) :: RR) 0 0 → Go p e below (EndS below s n0 Z 0 0 (fun v L' => v = some (.int (FI_9 p2 p3)) ∧ L' = ((r0, .inr (.byte, [(.int p1), (.int p2), (.int p3), (.int p4)])) :: RR))) (T.setTop (mkF m 47 #[.val (.ref r0), .val (.int (1 : Int32)), .val (.int (3 : Int32)), .val (.int (1 : Int32)), .val (.int (1 : Int32))] [(.int j3)])) := by
   intro T j3 ej3 A
   have z_j3 : nar .boolean j3 = j3 := by rw [ej3]; (repeat' split) <;> first | decide | assumption
   refine A.istoreN (q := 48) (l' := #[.val (.ref r0), .val (.int (1 : Int32)), .val (.int (3 : Int32)), .val (.int j3), .val (.int (1 : Int32))]) d1_47 rfl rfl ?_
   refine A.iinc (q := 51) (v := (2 : Int32)) (l' := #[.val (.ref r0), .val (.int (1 : Int32)), .val (.int (3 : Int32)), .val (.int j3), .val (.int (2 : Int32))]) d1_48 rfl rfl (by decide) rfl ?_
   refine A.goto (r := 14) d1_51 (by decide) ?_
   refine A.iloadN (q := 15) d1_14 rfl rfl ?_
   refine A.if_eq (q := 18) (r := 54) d1_15 rfl (by decide) (fun h5 => ?_) (fun h5 => ?_)
   · refine A.iloadN (q := 55) d1_54 rfl rfl ?_
     subst ej3
     exact A.retZ (v := (FI_9 p2 p3)) d1_55 (by simp only [FI_9, if_pos h5]; first | rfl | assumption) (by decide) (by decide) ⟨rfl, by first | rfl | (simp only [if_pos h5])⟩
   · refine A.iload (q := 20) d1_18 rfl rfl ?_
     refine A.iloadN (q := 21) d1_20 rfl rfl ?_
     refine A.icmpF (q := 24) d1_21 rfl (by decide) ?_
     have J24_8 : ∀ (T : State) (j8 : Int32), j8 = (if p3 < (48 : Int32) then (0 : Int32) else (if (57 : Int32) < p3 then (0 : Int32) else (1 : Int32))) → Here p l e ({ frames := 0, cells := 0, slots := 0, locals := 0 } : Room) s m ([(.ref r0), (.int (1 : Int32)), (.int (3 : Int32))] : List Value).toArray below meth c Z a0 tables_1 (⟨"com/example/capabind/capabind/http/WireReader", "isDigits", "([BII)Z"⟩ : MethodName).cls (⟨"com/example/capabind/capabind/http/WireReader", "isDigits", "([BII)Z"⟩ : MethodName).name prog_45_method_20_code 5 (some .boolean) n0 T ((r0, .inr (.byte, [(.int p1), (.int p2), (.int p3), (.int p4)])) :: RR) 0 0 → Go p e below (EndS below s n0 Z 0 0 (fun v L' => v = some (.int (FI_9 p2 p3)) ∧ L' = ((r0, .inr (.byte, [(.int p1), (.int p2), (.int p3), (.int p4)])) :: RR))) (T.setTop (mkF m 47 #[.val (.ref r0), .val (.int (1 : Int32)), .val (.int (3 : Int32)), .val (.int j3), .val (.int (2 : Int32))] [(.int j8)])) := by
      intro T j8 ej8 A
      have z_j8 : nar .boolean j8 = j8 := by rw [ej8]; (repeat' split) <;> first | decide | assumption
      refine A.istoreN (q := 48) (l' := #[.val (.ref r0), .val (.int (1 : Int32)), .val (.int (3 : Int32)), .val (.int j8), .val (.int (2 : Int32))]) d1_47 rfl rfl ?_
      refine A.iinc (q := 51) (v := (3 : Int32)) (l' := #[.val (.ref r0), .val (.int (1 : Int32)), .val (.int (3 : Int32)), .val (.int j8), .val (.int (3 : Int32))]) d1_48 rfl rfl (by decide) rfl ?_
      refine A.goto (r := 14) d1_51 (by decide) ?_
      refine A.iloadN (q := 15) d1_14 rfl rfl ?_
      refine A.if_eq (q := 18) (r := 54) d1_15 rfl (by decide) (fun h10 => ?_) (fun h10 => ?_)
      · refine A.iloadN (q := 55) d1_54 rfl rfl ?_
        subst ej3 ej8
        exact A.retZ (v := (FI_9 p2 p3)) d1_55 (by simp only [FI_9, if_neg h5, if_pos h10]; first | rfl | assumption) (by decide) (by decide) ⟨rfl, by first | rfl | (simp only [if_neg h5, if_pos h10])⟩
      · refine A.iload (q := 20) d1_18 rfl rfl ?_
        refine A.iloadN (q := 21) d1_20 rfl rfl ?_
        refine A.icmpT (r := 54) d1_21 (by decide) (by decide) ?_
        refine A.iloadN (q := 55) d1_54 rfl rfl ?_
        subst ej3 ej8
        exact A.retZ (v := (FI_9 p2 p3)) d1_55 (by simp only [FI_9, if_neg h5, if_neg h10]; first | rfl | assumption) (by decide) (by decide) ⟨rfl, by first | rfl | (simp only [if_neg h5, if_neg h10])⟩
     refine A.aloadN (q := 25) d1_24 rfl rfl rfl ?_
     refine A.iload (q := 27) d1_25 rfl rfl ?_
     refine A.baloadB (q := 28) (i := 0) (v := (.int p3)) d1_27 rfl rfl (by decide) rfl ?_
     refine A.bipush (q := 30) (v := (48 : Int32)) d1_28 rfl (by decide) ?_
     refine A.icmp_lt (q := 33) (r := 46) d1_30 rfl (by decide) (fun h6 => ?_) (fun h6 => ?_)
     · refine A.iconst (q := 47) (v := (0 : Int32)) d1_46 rfl (by decide) ?_
       exact J24_8 T _ (by simp only [if_pos h6]) A
     · refine A.aloadN (q := 34) d1_33 rfl rfl rfl ?_
       refine A.iload (q := 36) d1_34 rfl rfl ?_
       refine A.baloadB (q := 37) (i := 0) (v := (.int p3)) d1_36 rfl rfl (by decide) rfl ?_
       refine A.bipush (q := 39) (v := (57 : Int32)) d1_37 rfl (by decide) ?_
       refine A.icmp_gt (q := 42) (r := 46) d1_39 rfl (by decide) (fun h7 => ?_) (fun h7 => ?_)
       · refine A.iconst (q := 47) (v := (0 : Int32)) d1_46 rfl (by decide) ?_
         exact J24_8 T _ (by simp only [if_neg h6, if_pos h7]) A
       · refine A.iconst (q := 43) (v := (1 : Int32)) d1_42 rfl (by decide) ?_
         refine A.goto (r := 47) d1_43 (by decide) ?_
         exact J24_8 T _ (by simp only [if_neg h6, if_neg h7]) A
  refine A.aloadN (q := 25) d1_24 rfl rfl rfl ?_
  refine A.iload (q := 27) d1_25 rfl rfl ?_
  refine A.baloadB (q := 28) (i := 0) (v := (.int p2)) d1_27 rfl rfl (by decide) rfl ?_
  refine A.bipush (q := 30) (v := (48 : Int32)) d1_28 rfl (by decide) ?_
  refine A.icmp_lt (q := 33) (r := 46) d1_30 rfl (by decide) (fun h1 => ?_) (fun h1 => ?_)
  · refine A.iconst (q := 47) (v := (0 : Int32)) d1_46 rfl (by decide) ?_
    exact J24_3 T _ (by simp only [if_pos h1]) A
  · refine A.aloadN (q := 34) d1_33 rfl rfl rfl ?_
    refine A.iload (q := 36) d1_34 rfl rfl ?_
    refine A.baloadB (q := 37) (i := 0) (v := (.int p2)) d1_36 rfl rfl (by decide) rfl ?_
    refine A.bipush (q := 39) (v := (57 : Int32)) d1_37 rfl (by decide) ?_
    refine A.icmp_gt (q := 42) (r := 46) d1_39 rfl (by decide) (fun h2 => ?_) (fun h2 => ?_)
    · refine A.iconst (q := 47) (v := (0 : Int32)) d1_46 rfl (by decide) ?_
      exact J24_3 T _ (by simp only [if_neg h1, if_pos h2]) A
    · refine A.iconst (q := 43) (v := (1 : Int32)) d1_42 rfl (by decide) ?_
      refine A.goto (r := 47) d1_43 (by decide) ?_
      exact J24_3 T _ (by simp only [if_neg h1, if_neg h2]) A
def FI_10 (p2 : Int32) (p3 : Int32) (p4 : Int32) : Int32 := (if ((if p2 < (48 : Int32) then (0 : Int32) else (if (57 : Int32) < p2 then (0 : Int32) else (1 : Int32)))) = (0 : Int32) then ((if p2 < (48 : Int32) then (0 : Int32) else (if (57 : Int32) < p2 then (0 : Int32) else (1 : Int32)))) else (if ((if p3 < (48 : Int32) then (0 : Int32) else (if (57 : Int32) < p3 then (0 : Int32) else (1 : Int32)))) = (0 : Int32) then ((if p3 < (48 : Int32) then (0 : Int32) else (if (57 : Int32) < p3 then (0 : Int32) else (1 : Int32)))) else ((if p4 < (48 : Int32) then (0 : Int32) else (if (57 : Int32) < p4 then (0 : Int32) else (1 : Int32))))))
set_option maxRecDepth 65536 in
set_option maxHeartbeats 8000000 in
theorem rmI_10 (l : Launch) (Z : State) (a0 : Array Value) (hw : ∀ d ∈ tables_1, d.before a0 Z = true) (n0 : Nat) (r0 : Addr) (p1 : Int32) (p2 : Int32) (p3 : Int32) (p4 : Int32) (RR : Obs) :
    Triple l Z n0 (⟨"com/example/capabind/capabind/http/WireReader", "isDigits", "([BII)Z"⟩ : MethodName) prog_45_method_20_code 5 (some .boolean) ({ frames := 0, cells := 0, slots := 0, locals := 0 } : Room) 0 0 [(.ref r0), (.int (1 : Int32)), (.int (4 : Int32))] ((r0, .inr (.byte, [(.int p1), (.int p2), (.int p3), (.int p4)])) :: RR) (fun v L' => v = some (.int (FI_10 p2 p3 p4)) ∧ L' = ((r0, .inr (.byte, [(.int p1), (.int p2), (.int p3), (.int p4)])) :: RR)) := by
  refine Triple.of_body (tbl := tables_1) (a0 := a0) (Ls := #[.val (.ref r0), .val (.int (1 : Int32)), .val (.int (4 : Int32)), .unset, .unset]) pn_1 hw rfl ?_
  intro p e s m below meth c T A
  refine A.iloadN (q := 1) d1_0 rfl rfl ?_
  refine A.iloadN (q := 2) d1_1 rfl rfl ?_
  refine A.icmpF (q := 5) d1_2 rfl (by decide) ?_
  refine A.iconst (q := 6) (v := (1 : Int32)) d1_5 rfl (by decide) ?_
  refine A.goto (r := 10) d1_6 (by decide) ?_
  refine A.istoreN (q := 11) (l' := #[.val (.ref r0), .val (.int (1 : Int32)), .val (.int (4 : Int32)), .val (.int (1 : Int32)), .unset]) d1_10 rfl rfl ?_
  refine A.iloadN (q := 12) d1_11 rfl rfl ?_
  refine A.istore (q := 14) (l' := #[.val (.ref r0), .val (.int (1 : Int32)), .val (.int (4 : Int32)), .val (.int (1 : Int32)), .val (.int (1 : Int32))]) d1_12 rfl rfl ?_
  refine A.iloadN (q := 15) d1_14 rfl rfl ?_
  refine A.ifF (q := 18) d1_15 rfl (by decide) ?_
  refine A.iload (q := 20) d1_18 rfl rfl ?_
  refine A.iloadN (q := 21) d1_20 rfl rfl ?_
  refine A.icmpF (q := 24) d1_21 rfl (by decide) ?_
  have J24_3 : ∀ (T : State) (j3 : Int32), j3 = (if p2 < (48 : Int32) then (0 : Int32) else (if (57 : Int32) < p2 then (0 : Int32) else (1 : Int32))) → Here p l e ({ frames := 0, cells := 0, slots := 0, locals := 0 } : Room) s m ([(.ref r0), (.int (1 : Int32)), (.int (4 : Int32))] : List Value).toArray below meth c Z a0 tables_1 (⟨"com/example/capabind/capabind/http/WireReader", "isDigits", "([BII)Z"⟩ : MethodName).cls (⟨"com/example/capabind/capabind/http/WireReader", "isDigits", "([BII)Z"⟩ : MethodName).name prog_45_method_20_code 5 (some .boolean) n0 T ((r0, .inr (.byte, [(.int p1), (.int p2), (.int p3), (.int p4)])) :: RR) 0 0 → Go p e below (EndS below s n0 Z 0 0 (fun v L' => v = some (.int (FI_10 p2 p3 p4)) ∧ L' = ((r0, .inr (.byte, [(.int p1), (.int p2), (.int p3), (.int p4)])) :: RR))) (T.setTop (mkF m 47 #[.val (.ref r0), .val (.int (1 : Int32)), .val (.int (4 : Int32)), .val (.int (1 : Int32)), .val (.int (1 : Int32))] [(.int j3)])) := by
   intro T j3 ej3 A
   have z_j3 : nar .boolean j3 = j3 := by rw [ej3]; (repeat' split) <;> first | decide | assumption
   refine A.istoreN (q := 48) (l' := #[.val (.ref r0), .val (.int (1 : Int32)), .val (.int (4 : Int32)), .val (.int j3), .val (.int (1 : Int32))]) d1_47 rfl rfl ?_
   refine A.iinc (q := 51) (v := (2 : Int32)) (l' := #[.val (.ref r0), .val (.int (1 : Int32)), .val (.int (4 : Int32)), .val (.int j3), .val (.int (2 : Int32))]) d1_48 rfl rfl (by decide) rfl ?_
   refine A.goto (r := 14) d1_51 (by decide) ?_
   refine A.iloadN (q := 15) d1_14 rfl rfl ?_
   refine A.if_eq (q := 18) (r := 54) d1_15 rfl (by decide) (fun h5 => ?_) (fun h5 => ?_)
   · refine A.iloadN (q := 55) d1_54 rfl rfl ?_
     subst ej3
     exact A.retZ (v := (FI_10 p2 p3 p4)) d1_55 (by simp only [FI_10, if_pos h5]; first | rfl | assumption) (by decide) (by decide) ⟨rfl, by first | rfl | (simp only [if_pos h5])⟩
   · refine A.iload (q := 20) d1_18 rfl rfl ?_
     refine A.iloadN (q := 21) d1_20 rfl rfl ?_
     refine A.icmpF (q := 24) d1_21 rfl (by decide) ?_
     have J24_8 : ∀ (T : State) (j8 : Int32), j8 = (if p3 < (48 : Int32) then (0 : Int32) else (if (57 : Int32) < p3 then (0 : Int32) else (1 : Int32))) → Here p l e ({ frames := 0, cells := 0, slots := 0, locals := 0 } : Room) s m ([(.ref r0), (.int (1 : Int32)), (.int (4 : Int32))] : List Value).toArray below meth c Z a0 tables_1 (⟨"com/example/capabind/capabind/http/WireReader", "isDigits", "([BII)Z"⟩ : MethodName).cls (⟨"com/example/capabind/capabind/http/WireReader", "isDigits", "([BII)Z"⟩ : MethodName).name prog_45_method_20_code 5 (some .boolean) n0 T ((r0, .inr (.byte, [(.int p1), (.int p2), (.int p3), (.int p4)])) :: RR) 0 0 → Go p e below (EndS below s n0 Z 0 0 (fun v L' => v = some (.int (FI_10 p2 p3 p4)) ∧ L' = ((r0, .inr (.byte, [(.int p1), (.int p2), (.int p3), (.int p4)])) :: RR))) (T.setTop (mkF m 47 #[.val (.ref r0), .val (.int (1 : Int32)), .val (.int (4 : Int32)), .val (.int j3), .val (.int (2 : Int32))] [(.int j8)])) := by
      intro T j8 ej8 A
      have z_j8 : nar .boolean j8 = j8 := by rw [ej8]; (repeat' split) <;> first | decide | assumption
      refine A.istoreN (q := 48) (l' := #[.val (.ref r0), .val (.int (1 : Int32)), .val (.int (4 : Int32)), .val (.int j8), .val (.int (2 : Int32))]) d1_47 rfl rfl ?_
      refine A.iinc (q := 51) (v := (3 : Int32)) (l' := #[.val (.ref r0), .val (.int (1 : Int32)), .val (.int (4 : Int32)), .val (.int j8), .val (.int (3 : Int32))]) d1_48 rfl rfl (by decide) rfl ?_
      refine A.goto (r := 14) d1_51 (by decide) ?_
      refine A.iloadN (q := 15) d1_14 rfl rfl ?_
      refine A.if_eq (q := 18) (r := 54) d1_15 rfl (by decide) (fun h10 => ?_) (fun h10 => ?_)
      · refine A.iloadN (q := 55) d1_54 rfl rfl ?_
        subst ej3 ej8
        exact A.retZ (v := (FI_10 p2 p3 p4)) d1_55 (by simp only [FI_10, if_neg h5, if_pos h10]; first | rfl | assumption) (by decide) (by decide) ⟨rfl, by first | rfl | (simp only [if_neg h5, if_pos h10])⟩
      · refine A.iload (q := 20) d1_18 rfl rfl ?_
        refine A.iloadN (q := 21) d1_20 rfl rfl ?_
        refine A.icmpF (q := 24) d1_21 rfl (by decide) ?_
        have J24_13 : ∀ (T : State) (j13 : Int32), j13 = (if p4 < (48 : Int32) then (0 : Int32) else (if (57 : Int32) < p4 then (0 : Int32) else (1 : Int32))) → Here p l e ({ frames := 0, cells := 0, slots := 0, locals := 0 } : Room) s m ([(.ref r0), (.int (1 : Int32)), (.int (4 : Int32))] : List Value).toArray below meth c Z a0 tables_1 (⟨"com/example/capabind/capabind/http/WireReader", "isDigits", "([BII)Z"⟩ : MethodName).cls (⟨"com/example/capabind/capabind/http/WireReader", "isDigits", "([BII)Z"⟩ : MethodName).name prog_45_method_20_code 5 (some .boolean) n0 T ((r0, .inr (.byte, [(.int p1), (.int p2), (.int p3), (.int p4)])) :: RR) 0 0 → Go p e below (EndS below s n0 Z 0 0 (fun v L' => v = some (.int (FI_10 p2 p3 p4)) ∧ L' = ((r0, .inr (.byte, [(.int p1), (.int p2), (.int p3), (.int p4)])) :: RR))) (T.setTop (mkF m 47 #[.val (.ref r0), .val (.int (1 : Int32)), .val (.int (4 : Int32)), .val (.int j8), .val (.int (3 : Int32))] [(.int j13)])) := by
         intro T j13 ej13 A
         have z_j13 : nar .boolean j13 = j13 := by rw [ej13]; (repeat' split) <;> first | decide | assumption
         refine A.istoreN (q := 48) (l' := #[.val (.ref r0), .val (.int (1 : Int32)), .val (.int (4 : Int32)), .val (.int j13), .val (.int (3 : Int32))]) d1_47 rfl rfl ?_
         refine A.iinc (q := 51) (v := (4 : Int32)) (l' := #[.val (.ref r0), .val (.int (1 : Int32)), .val (.int (4 : Int32)), .val (.int j13), .val (.int (4 : Int32))]) d1_48 rfl rfl (by decide) rfl ?_
         refine A.goto (r := 14) d1_51 (by decide) ?_
         refine A.iloadN (q := 15) d1_14 rfl rfl ?_
         refine A.if_eq (q := 18) (r := 54) d1_15 rfl (by decide) (fun h15 => ?_) (fun h15 => ?_)
         · refine A.iloadN (q := 55) d1_54 rfl rfl ?_
           subst ej3 ej8 ej13
           exact A.retZ (v := (FI_10 p2 p3 p4)) d1_55 (by simp only [FI_10, if_neg h5, if_neg h10, if_pos h15]; first | rfl | assumption) (by decide) (by decide) ⟨rfl, by first | rfl | (simp only [if_neg h5, if_neg h10, if_pos h15])⟩
         · refine A.iload (q := 20) d1_18 rfl rfl ?_
           refine A.iloadN (q := 21) d1_20 rfl rfl ?_
           refine A.icmpT (r := 54) d1_21 (by decide) (by decide) ?_
           refine A.iloadN (q := 55) d1_54 rfl rfl ?_
           subst ej3 ej8 ej13
           exact A.retZ (v := (FI_10 p2 p3 p4)) d1_55 (by simp only [FI_10, if_neg h5, if_neg h10, if_neg h15]; first | rfl | assumption) (by decide) (by decide) ⟨rfl, by first | rfl | (simp only [if_neg h5, if_neg h10, if_neg h15])⟩
        refine A.aloadN (q := 25) d1_24 rfl rfl rfl ?_
        refine A.iload (q := 27) d1_25 rfl rfl ?_
        refine A.baloadB (q := 28) (i := 0) (v := (.int p4)) d1_27 rfl rfl (by decide) rfl ?_
        refine A.bipush (q := 30) (v := (48 : Int32)) d1_28 rfl (by decide) ?_
        refine A.icmp_lt (q := 33) (r := 46) d1_30 rfl (by decide) (fun h11 => ?_) (fun h11 => ?_)
        · refine A.iconst (q := 47) (v := (0 : Int32)) d1_46 rfl (by decide) ?_
          exact J24_13 T _ (by simp only [if_pos h11]) A
        · refine A.aloadN (q := 34) d1_33 rfl rfl rfl ?_
          refine A.iload (q := 36) d1_34 rfl rfl ?_
          refine A.baloadB (q := 37) (i := 0) (v := (.int p4)) d1_36 rfl rfl (by decide) rfl ?_
          refine A.bipush (q := 39) (v := (57 : Int32)) d1_37 rfl (by decide) ?_
          refine A.icmp_gt (q := 42) (r := 46) d1_39 rfl (by decide) (fun h12 => ?_) (fun h12 => ?_)
          · refine A.iconst (q := 47) (v := (0 : Int32)) d1_46 rfl (by decide) ?_
            exact J24_13 T _ (by simp only [if_neg h11, if_pos h12]) A
          · refine A.iconst (q := 43) (v := (1 : Int32)) d1_42 rfl (by decide) ?_
            refine A.goto (r := 47) d1_43 (by decide) ?_
            exact J24_13 T _ (by simp only [if_neg h11, if_neg h12]) A
     refine A.aloadN (q := 25) d1_24 rfl rfl rfl ?_
     refine A.iload (q := 27) d1_25 rfl rfl ?_
     refine A.baloadB (q := 28) (i := 0) (v := (.int p3)) d1_27 rfl rfl (by decide) rfl ?_
     refine A.bipush (q := 30) (v := (48 : Int32)) d1_28 rfl (by decide) ?_
     refine A.icmp_lt (q := 33) (r := 46) d1_30 rfl (by decide) (fun h6 => ?_) (fun h6 => ?_)
     · refine A.iconst (q := 47) (v := (0 : Int32)) d1_46 rfl (by decide) ?_
       exact J24_8 T _ (by simp only [if_pos h6]) A
     · refine A.aloadN (q := 34) d1_33 rfl rfl rfl ?_
       refine A.iload (q := 36) d1_34 rfl rfl ?_
       refine A.baloadB (q := 37) (i := 0) (v := (.int p3)) d1_36 rfl rfl (by decide) rfl ?_
       refine A.bipush (q := 39) (v := (57 : Int32)) d1_37 rfl (by decide) ?_
       refine A.icmp_gt (q := 42) (r := 46) d1_39 rfl (by decide) (fun h7 => ?_) (fun h7 => ?_)
       · refine A.iconst (q := 47) (v := (0 : Int32)) d1_46 rfl (by decide) ?_
         exact J24_8 T _ (by simp only [if_neg h6, if_pos h7]) A
       · refine A.iconst (q := 43) (v := (1 : Int32)) d1_42 rfl (by decide) ?_
         refine A.goto (r := 47) d1_43 (by decide) ?_
         exact J24_8 T _ (by simp only [if_neg h6, if_neg h7]) A
  refine A.aloadN (q := 25) d1_24 rfl rfl rfl ?_
  refine A.iload (q := 27) d1_25 rfl rfl ?_
  refine A.baloadB (q := 28) (i := 0) (v := (.int p2)) d1_27 rfl rfl (by decide) rfl ?_
  refine A.bipush (q := 30) (v := (48 : Int32)) d1_28 rfl (by decide) ?_
  refine A.icmp_lt (q := 33) (r := 46) d1_30 rfl (by decide) (fun h1 => ?_) (fun h1 => ?_)
  · refine A.iconst (q := 47) (v := (0 : Int32)) d1_46 rfl (by decide) ?_
    exact J24_3 T _ (by simp only [if_pos h1]) A
  · refine A.aloadN (q := 34) d1_33 rfl rfl rfl ?_
    refine A.iload (q := 36) d1_34 rfl rfl ?_
    refine A.baloadB (q := 37) (i := 0) (v := (.int p2)) d1_36 rfl rfl (by decide) rfl ?_
    refine A.bipush (q := 39) (v := (57 : Int32)) d1_37 rfl (by decide) ?_
    refine A.icmp_gt (q := 42) (r := 46) d1_39 rfl (by decide) (fun h2 => ?_) (fun h2 => ?_)
    · refine A.iconst (q := 47) (v := (0 : Int32)) d1_46 rfl (by decide) ?_
      exact J24_3 T _ (by simp only [if_neg h1, if_pos h2]) A
    · refine A.iconst (q := 43) (v := (1 : Int32)) d1_42 rfl (by decide) ?_
      refine A.goto (r := 47) d1_43 (by decide) ?_
      exact J24_3 T _ (by simp only [if_neg h1, if_neg h2]) A
set_option maxRecDepth 65536 in
set_option maxHeartbeats 8000000 in
theorem rmI_11 (l : Launch) (Z : State) (a0 : Array Value) (hw : ∀ d ∈ tables_1, d.before a0 Z = true) (n0 : Nat) (r0 : Addr) (p1 : Int32) (p2 : Int32) (p3 : Int32) (p4 : Int32) (RR : Obs) :
    Triple l Z n0 (⟨"com/example/capabind/capabind/http/WireReader", "isDigits", "([BII)Z"⟩ : MethodName) prog_45_method_20_code 5 (some .boolean) ({ frames := 0, cells := 0, slots := 0, locals := 0 } : Room) 0 0 [(.ref r0), (.int (2 : Int32)), (.int (0 : Int32))] ((r0, .inr (.byte, [(.int p1), (.int p2), (.int p3), (.int p4)])) :: RR) (fun v L' => v = some (.int (0 : Int32)) ∧ L' = ((r0, .inr (.byte, [(.int p1), (.int p2), (.int p3), (.int p4)])) :: RR)) := by
  refine Triple.of_body (tbl := tables_1) (a0 := a0) (Ls := #[.val (.ref r0), .val (.int (2 : Int32)), .val (.int (0 : Int32)), .unset, .unset]) pn_1 hw rfl ?_
  intro p e s m below meth c T A
  refine A.iloadN (q := 1) d1_0 rfl rfl ?_
  refine A.iloadN (q := 2) d1_1 rfl rfl ?_
  refine A.icmpT (r := 9) d1_2 (by decide) (by decide) ?_
  refine A.iconst (q := 10) (v := (0 : Int32)) d1_9 rfl (by decide) ?_
  refine A.istoreN (q := 11) (l' := #[.val (.ref r0), .val (.int (2 : Int32)), .val (.int (0 : Int32)), .val (.int (0 : Int32)), .unset]) d1_10 rfl rfl ?_
  refine A.iloadN (q := 12) d1_11 rfl rfl ?_
  refine A.istore (q := 14) (l' := #[.val (.ref r0), .val (.int (2 : Int32)), .val (.int (0 : Int32)), .val (.int (0 : Int32)), .val (.int (2 : Int32))]) d1_12 rfl rfl ?_
  refine A.iloadN (q := 15) d1_14 rfl rfl ?_
  refine A.ifT (r := 54) d1_15 (by decide) (by decide) ?_
  refine A.iloadN (q := 55) d1_54 rfl rfl ?_
  exact A.retZ (v := (0 : Int32)) d1_55 (by decide) (by decide) (by decide) ⟨rfl, rfl⟩
set_option maxRecDepth 65536 in
set_option maxHeartbeats 8000000 in
theorem rmI_12 (l : Launch) (Z : State) (a0 : Array Value) (hw : ∀ d ∈ tables_1, d.before a0 Z = true) (n0 : Nat) (r0 : Addr) (p1 : Int32) (p2 : Int32) (p3 : Int32) (p4 : Int32) (RR : Obs) :
    Triple l Z n0 (⟨"com/example/capabind/capabind/http/WireReader", "isDigits", "([BII)Z"⟩ : MethodName) prog_45_method_20_code 5 (some .boolean) ({ frames := 0, cells := 0, slots := 0, locals := 0 } : Room) 0 0 [(.ref r0), (.int (2 : Int32)), (.int (1 : Int32))] ((r0, .inr (.byte, [(.int p1), (.int p2), (.int p3), (.int p4)])) :: RR) (fun v L' => v = some (.int (0 : Int32)) ∧ L' = ((r0, .inr (.byte, [(.int p1), (.int p2), (.int p3), (.int p4)])) :: RR)) := by
  refine Triple.of_body (tbl := tables_1) (a0 := a0) (Ls := #[.val (.ref r0), .val (.int (2 : Int32)), .val (.int (1 : Int32)), .unset, .unset]) pn_1 hw rfl ?_
  intro p e s m below meth c T A
  refine A.iloadN (q := 1) d1_0 rfl rfl ?_
  refine A.iloadN (q := 2) d1_1 rfl rfl ?_
  refine A.icmpT (r := 9) d1_2 (by decide) (by decide) ?_
  refine A.iconst (q := 10) (v := (0 : Int32)) d1_9 rfl (by decide) ?_
  refine A.istoreN (q := 11) (l' := #[.val (.ref r0), .val (.int (2 : Int32)), .val (.int (1 : Int32)), .val (.int (0 : Int32)), .unset]) d1_10 rfl rfl ?_
  refine A.iloadN (q := 12) d1_11 rfl rfl ?_
  refine A.istore (q := 14) (l' := #[.val (.ref r0), .val (.int (2 : Int32)), .val (.int (1 : Int32)), .val (.int (0 : Int32)), .val (.int (2 : Int32))]) d1_12 rfl rfl ?_
  refine A.iloadN (q := 15) d1_14 rfl rfl ?_
  refine A.ifT (r := 54) d1_15 (by decide) (by decide) ?_
  refine A.iloadN (q := 55) d1_54 rfl rfl ?_
  exact A.retZ (v := (0 : Int32)) d1_55 (by decide) (by decide) (by decide) ⟨rfl, rfl⟩
set_option maxRecDepth 65536 in
set_option maxHeartbeats 8000000 in
theorem rmI_13 (l : Launch) (Z : State) (a0 : Array Value) (hw : ∀ d ∈ tables_1, d.before a0 Z = true) (n0 : Nat) (r0 : Addr) (p1 : Int32) (p2 : Int32) (p3 : Int32) (p4 : Int32) (RR : Obs) :
    Triple l Z n0 (⟨"com/example/capabind/capabind/http/WireReader", "isDigits", "([BII)Z"⟩ : MethodName) prog_45_method_20_code 5 (some .boolean) ({ frames := 0, cells := 0, slots := 0, locals := 0 } : Room) 0 0 [(.ref r0), (.int (2 : Int32)), (.int (2 : Int32))] ((r0, .inr (.byte, [(.int p1), (.int p2), (.int p3), (.int p4)])) :: RR) (fun v L' => v = some (.int (0 : Int32)) ∧ L' = ((r0, .inr (.byte, [(.int p1), (.int p2), (.int p3), (.int p4)])) :: RR)) := by
  refine Triple.of_body (tbl := tables_1) (a0 := a0) (Ls := #[.val (.ref r0), .val (.int (2 : Int32)), .val (.int (2 : Int32)), .unset, .unset]) pn_1 hw rfl ?_
  intro p e s m below meth c T A
  refine A.iloadN (q := 1) d1_0 rfl rfl ?_
  refine A.iloadN (q := 2) d1_1 rfl rfl ?_
  refine A.icmpT (r := 9) d1_2 (by decide) (by decide) ?_
  refine A.iconst (q := 10) (v := (0 : Int32)) d1_9 rfl (by decide) ?_
  refine A.istoreN (q := 11) (l' := #[.val (.ref r0), .val (.int (2 : Int32)), .val (.int (2 : Int32)), .val (.int (0 : Int32)), .unset]) d1_10 rfl rfl ?_
  refine A.iloadN (q := 12) d1_11 rfl rfl ?_
  refine A.istore (q := 14) (l' := #[.val (.ref r0), .val (.int (2 : Int32)), .val (.int (2 : Int32)), .val (.int (0 : Int32)), .val (.int (2 : Int32))]) d1_12 rfl rfl ?_
  refine A.iloadN (q := 15) d1_14 rfl rfl ?_
  refine A.ifT (r := 54) d1_15 (by decide) (by decide) ?_
  refine A.iloadN (q := 55) d1_54 rfl rfl ?_
  exact A.retZ (v := (0 : Int32)) d1_55 (by decide) (by decide) (by decide) ⟨rfl, rfl⟩
set_option maxRecDepth 65536 in
set_option maxHeartbeats 8000000 in
theorem rmI_14 (l : Launch) (Z : State) (a0 : Array Value) (hw : ∀ d ∈ tables_1, d.before a0 Z = true) (n0 : Nat) (r0 : Addr) (p1 : Int32) (p2 : Int32) (p3 : Int32) (p4 : Int32) (RR : Obs) :
    Triple l Z n0 (⟨"com/example/capabind/capabind/http/WireReader", "isDigits", "([BII)Z"⟩ : MethodName) prog_45_method_20_code 5 (some .boolean) ({ frames := 0, cells := 0, slots := 0, locals := 0 } : Room) 0 0 [(.ref r0), (.int (2 : Int32)), (.int (3 : Int32))] ((r0, .inr (.byte, [(.int p1), (.int p2), (.int p3), (.int p4)])) :: RR) (fun v L' => v = some (.int ((if p3 < (48 : Int32) then (0 : Int32) else (if (57 : Int32) < p3 then (0 : Int32) else (1 : Int32))))) ∧ L' = ((r0, .inr (.byte, [(.int p1), (.int p2), (.int p3), (.int p4)])) :: RR)) := by
  refine Triple.of_body (tbl := tables_1) (a0 := a0) (Ls := #[.val (.ref r0), .val (.int (2 : Int32)), .val (.int (3 : Int32)), .unset, .unset]) pn_1 hw rfl ?_
  intro p e s m below meth c T A
  refine A.iloadN (q := 1) d1_0 rfl rfl ?_
  refine A.iloadN (q := 2) d1_1 rfl rfl ?_
  refine A.icmpF (q := 5) d1_2 rfl (by decide) ?_
  refine A.iconst (q := 6) (v := (1 : Int32)) d1_5 rfl (by decide) ?_
  refine A.goto (r := 10) d1_6 (by decide) ?_
  refine A.istoreN (q := 11) (l' := #[.val (.ref r0), .val (.int (2 : Int32)), .val (.int (3 : Int32)), .val (.int (1 : Int32)), .unset]) d1_10 rfl rfl ?_
  refine A.iloadN (q := 12) d1_11 rfl rfl ?_
  refine A.istore (q := 14) (l' := #[.val (.ref r0), .val (.int (2 : Int32)), .val (.int (3 : Int32)), .val (.int (1 : Int32)), .val (.int (2 : Int32))]) d1_12 rfl rfl ?_
  refine A.iloadN (q := 15) d1_14 rfl rfl ?_
  refine A.ifF (q := 18) d1_15 rfl (by decide) ?_
  refine A.iload (q := 20) d1_18 rfl rfl ?_
  refine A.iloadN (q := 21) d1_20 rfl rfl ?_
  refine A.icmpF (q := 24) d1_21 rfl (by decide) ?_
  have J24_3 : ∀ (T : State) (j3 : Int32), j3 = (if p3 < (48 : Int32) then (0 : Int32) else (if (57 : Int32) < p3 then (0 : Int32) else (1 : Int32))) → Here p l e ({ frames := 0, cells := 0, slots := 0, locals := 0 } : Room) s m ([(.ref r0), (.int (2 : Int32)), (.int (3 : Int32))] : List Value).toArray below meth c Z a0 tables_1 (⟨"com/example/capabind/capabind/http/WireReader", "isDigits", "([BII)Z"⟩ : MethodName).cls (⟨"com/example/capabind/capabind/http/WireReader", "isDigits", "([BII)Z"⟩ : MethodName).name prog_45_method_20_code 5 (some .boolean) n0 T ((r0, .inr (.byte, [(.int p1), (.int p2), (.int p3), (.int p4)])) :: RR) 0 0 → Go p e below (EndS below s n0 Z 0 0 (fun v L' => v = some (.int ((if p3 < (48 : Int32) then (0 : Int32) else (if (57 : Int32) < p3 then (0 : Int32) else (1 : Int32))))) ∧ L' = ((r0, .inr (.byte, [(.int p1), (.int p2), (.int p3), (.int p4)])) :: RR))) (T.setTop (mkF m 47 #[.val (.ref r0), .val (.int (2 : Int32)), .val (.int (3 : Int32)), .val (.int (1 : Int32)), .val (.int (2 : Int32))] [(.int j3)])) := by
   intro T j3 ej3 A
   have z_j3 : nar .boolean j3 = j3 := by rw [ej3]; (repeat' split) <;> first | decide | assumption
   refine A.istoreN (q := 48) (l' := #[.val (.ref r0), .val (.int (2 : Int32)), .val (.int (3 : Int32)), .val (.int j3), .val (.int (2 : Int32))]) d1_47 rfl rfl ?_
   refine A.iinc (q := 51) (v := (3 : Int32)) (l' := #[.val (.ref r0), .val (.int (2 : Int32)), .val (.int (3 : Int32)), .val (.int j3), .val (.int (3 : Int32))]) d1_48 rfl rfl (by decide) rfl ?_
   refine A.goto (r := 14) d1_51 (by decide) ?_
   refine A.iloadN (q := 15) d1_14 rfl rfl ?_
   refine A.if_eq (q := 18) (r := 54) d1_15 rfl (by decide) (fun h5 => ?_) (fun h5 => ?_)
   · refine A.iloadN (q := 55) d1_54 rfl rfl ?_
     subst ej3
     exact A.retZ (v := ((if p3 < (48 : Int32) then (0 : Int32) else (if (57 : Int32) < p3 then (0 : Int32) else (1 : Int32))))) d1_55 (by first | rfl | assumption | decide) (by decide) (by decide) ⟨rfl, by first | rfl | (simp only [if_pos h5])⟩
   · refine A.iload (q := 20) d1_18 rfl rfl ?_
     refine A.iloadN (q := 21) d1_20 rfl rfl ?_
     refine A.icmpT (r := 54) d1_21 (by decide) (by decide) ?_
     refine A.iloadN (q := 55) d1_54 rfl rfl ?_
     subst ej3
     exact A.retZ (v := ((if p3 < (48 : Int32) then (0 : Int32) else (if (57 : Int32) < p3 then (0 : Int32) else (1 : Int32))))) d1_55 (by first | rfl | assumption | decide) (by decide) (by decide) ⟨rfl, by first | rfl | (simp only [if_neg h5])⟩
  refine A.aloadN (q := 25) d1_24 rfl rfl rfl ?_
  refine A.iload (q := 27) d1_25 rfl rfl ?_
  refine A.baloadB (q := 28) (i := 0) (v := (.int p3)) d1_27 rfl rfl (by decide) rfl ?_
  refine A.bipush (q := 30) (v := (48 : Int32)) d1_28 rfl (by decide) ?_
  refine A.icmp_lt (q := 33) (r := 46) d1_30 rfl (by decide) (fun h1 => ?_) (fun h1 => ?_)
  · refine A.iconst (q := 47) (v := (0 : Int32)) d1_46 rfl (by decide) ?_
    exact J24_3 T _ (by simp only [if_pos h1]) A
  · refine A.aloadN (q := 34) d1_33 rfl rfl rfl ?_
    refine A.iload (q := 36) d1_34 rfl rfl ?_
    refine A.baloadB (q := 37) (i := 0) (v := (.int p3)) d1_36 rfl rfl (by decide) rfl ?_
    refine A.bipush (q := 39) (v := (57 : Int32)) d1_37 rfl (by decide) ?_
    refine A.icmp_gt (q := 42) (r := 46) d1_39 rfl (by decide) (fun h2 => ?_) (fun h2 => ?_)
    · refine A.iconst (q := 47) (v := (0 : Int32)) d1_46 rfl (by decide) ?_
      exact J24_3 T _ (by simp only [if_neg h1, if_pos h2]) A
    · refine A.iconst (q := 43) (v := (1 : Int32)) d1_42 rfl (by decide) ?_
      refine A.goto (r := 47) d1_43 (by decide) ?_
      exact J24_3 T _ (by simp only [if_neg h1, if_neg h2]) A
def FI_15 (p3 : Int32) (p4 : Int32) : Int32 := (if ((if p3 < (48 : Int32) then (0 : Int32) else (if (57 : Int32) < p3 then (0 : Int32) else (1 : Int32)))) = (0 : Int32) then ((if p3 < (48 : Int32) then (0 : Int32) else (if (57 : Int32) < p3 then (0 : Int32) else (1 : Int32)))) else ((if p4 < (48 : Int32) then (0 : Int32) else (if (57 : Int32) < p4 then (0 : Int32) else (1 : Int32)))))
set_option maxRecDepth 65536 in
set_option maxHeartbeats 8000000 in
theorem rmI_15 (l : Launch) (Z : State) (a0 : Array Value) (hw : ∀ d ∈ tables_1, d.before a0 Z = true) (n0 : Nat) (r0 : Addr) (p1 : Int32) (p2 : Int32) (p3 : Int32) (p4 : Int32) (RR : Obs) :
    Triple l Z n0 (⟨"com/example/capabind/capabind/http/WireReader", "isDigits", "([BII)Z"⟩ : MethodName) prog_45_method_20_code 5 (some .boolean) ({ frames := 0, cells := 0, slots := 0, locals := 0 } : Room) 0 0 [(.ref r0), (.int (2 : Int32)), (.int (4 : Int32))] ((r0, .inr (.byte, [(.int p1), (.int p2), (.int p3), (.int p4)])) :: RR) (fun v L' => v = some (.int (FI_15 p3 p4)) ∧ L' = ((r0, .inr (.byte, [(.int p1), (.int p2), (.int p3), (.int p4)])) :: RR)) := by
  refine Triple.of_body (tbl := tables_1) (a0 := a0) (Ls := #[.val (.ref r0), .val (.int (2 : Int32)), .val (.int (4 : Int32)), .unset, .unset]) pn_1 hw rfl ?_
  intro p e s m below meth c T A
  refine A.iloadN (q := 1) d1_0 rfl rfl ?_
  refine A.iloadN (q := 2) d1_1 rfl rfl ?_
  refine A.icmpF (q := 5) d1_2 rfl (by decide) ?_
  refine A.iconst (q := 6) (v := (1 : Int32)) d1_5 rfl (by decide) ?_
  refine A.goto (r := 10) d1_6 (by decide) ?_
  refine A.istoreN (q := 11) (l' := #[.val (.ref r0), .val (.int (2 : Int32)), .val (.int (4 : Int32)), .val (.int (1 : Int32)), .unset]) d1_10 rfl rfl ?_
  refine A.iloadN (q := 12) d1_11 rfl rfl ?_
  refine A.istore (q := 14) (l' := #[.val (.ref r0), .val (.int (2 : Int32)), .val (.int (4 : Int32)), .val (.int (1 : Int32)), .val (.int (2 : Int32))]) d1_12 rfl rfl ?_
  refine A.iloadN (q := 15) d1_14 rfl rfl ?_
  refine A.ifF (q := 18) d1_15 rfl (by decide) ?_
  refine A.iload (q := 20) d1_18 rfl rfl ?_
  refine A.iloadN (q := 21) d1_20 rfl rfl ?_
  refine A.icmpF (q := 24) d1_21 rfl (by decide) ?_
  have J24_3 : ∀ (T : State) (j3 : Int32), j3 = (if p3 < (48 : Int32) then (0 : Int32) else (if (57 : Int32) < p3 then (0 : Int32) else (1 : Int32))) → Here p l e ({ frames := 0, cells := 0, slots := 0, locals := 0 } : Room) s m ([(.ref r0), (.int (2 : Int32)), (.int (4 : Int32))] : List Value).toArray below meth c Z a0 tables_1 (⟨"com/example/capabind/capabind/http/WireReader", "isDigits", "([BII)Z"⟩ : MethodName).cls (⟨"com/example/capabind/capabind/http/WireReader", "isDigits", "([BII)Z"⟩ : MethodName).name prog_45_method_20_code 5 (some .boolean) n0 T ((r0, .inr (.byte, [(.int p1), (.int p2), (.int p3), (.int p4)])) :: RR) 0 0 → Go p e below (EndS below s n0 Z 0 0 (fun v L' => v = some (.int (FI_15 p3 p4)) ∧ L' = ((r0, .inr (.byte, [(.int p1), (.int p2), (.int p3), (.int p4)])) :: RR))) (T.setTop (mkF m 47 #[.val (.ref r0), .val (.int (2 : Int32)), .val (.int (4 : Int32)), .val (.int (1 : Int32)), .val (.int (2 : Int32))] [(.int j3)])) := by
   intro T j3 ej3 A
   have z_j3 : nar .boolean j3 = j3 := by rw [ej3]; (repeat' split) <;> first | decide | assumption
   refine A.istoreN (q := 48) (l' := #[.val (.ref r0), .val (.int (2 : Int32)), .val (.int (4 : Int32)), .val (.int j3), .val (.int (2 : Int32))]) d1_47 rfl rfl ?_
   refine A.iinc (q := 51) (v := (3 : Int32)) (l' := #[.val (.ref r0), .val (.int (2 : Int32)), .val (.int (4 : Int32)), .val (.int j3), .val (.int (3 : Int32))]) d1_48 rfl rfl (by decide) rfl ?_
   refine A.goto (r := 14) d1_51 (by decide) ?_
   refine A.iloadN (q := 15) d1_14 rfl rfl ?_
   refine A.if_eq (q := 18) (r := 54) d1_15 rfl (by decide) (fun h5 => ?_) (fun h5 => ?_)
   · refine A.iloadN (q := 55) d1_54 rfl rfl ?_
     subst ej3
     exact A.retZ (v := (FI_15 p3 p4)) d1_55 (by simp only [FI_15, if_pos h5]; first | rfl | assumption) (by decide) (by decide) ⟨rfl, by first | rfl | (simp only [if_pos h5])⟩
   · refine A.iload (q := 20) d1_18 rfl rfl ?_
     refine A.iloadN (q := 21) d1_20 rfl rfl ?_
     refine A.icmpF (q := 24) d1_21 rfl (by decide) ?_
     have J24_8 : ∀ (T : State) (j8 : Int32), j8 = (if p4 < (48 : Int32) then (0 : Int32) else (if (57 : Int32) < p4 then (0 : Int32) else (1 : Int32))) → Here p l e ({ frames := 0, cells := 0, slots := 0, locals := 0 } : Room) s m ([(.ref r0), (.int (2 : Int32)), (.int (4 : Int32))] : List Value).toArray below meth c Z a0 tables_1 (⟨"com/example/capabind/capabind/http/WireReader", "isDigits", "([BII)Z"⟩ : MethodName).cls (⟨"com/example/capabind/capabind/http/WireReader", "isDigits", "([BII)Z"⟩ : MethodName).name prog_45_method_20_code 5 (some .boolean) n0 T ((r0, .inr (.byte, [(.int p1), (.int p2), (.int p3), (.int p4)])) :: RR) 0 0 → Go p e below (EndS below s n0 Z 0 0 (fun v L' => v = some (.int (FI_15 p3 p4)) ∧ L' = ((r0, .inr (.byte, [(.int p1), (.int p2), (.int p3), (.int p4)])) :: RR))) (T.setTop (mkF m 47 #[.val (.ref r0), .val (.int (2 : Int32)), .val (.int (4 : Int32)), .val (.int j3), .val (.int (3 : Int32))] [(.int j8)])) := by
      intro T j8 ej8 A
      have z_j8 : nar .boolean j8 = j8 := by rw [ej8]; (repeat' split) <;> first | decide | assumption
      refine A.istoreN (q := 48) (l' := #[.val (.ref r0), .val (.int (2 : Int32)), .val (.int (4 : Int32)), .val (.int j8), .val (.int (3 : Int32))]) d1_47 rfl rfl ?_
      refine A.iinc (q := 51) (v := (4 : Int32)) (l' := #[.val (.ref r0), .val (.int (2 : Int32)), .val (.int (4 : Int32)), .val (.int j8), .val (.int (4 : Int32))]) d1_48 rfl rfl (by decide) rfl ?_
      refine A.goto (r := 14) d1_51 (by decide) ?_
      refine A.iloadN (q := 15) d1_14 rfl rfl ?_
      refine A.if_eq (q := 18) (r := 54) d1_15 rfl (by decide) (fun h10 => ?_) (fun h10 => ?_)
      · refine A.iloadN (q := 55) d1_54 rfl rfl ?_
        subst ej3 ej8
        exact A.retZ (v := (FI_15 p3 p4)) d1_55 (by simp only [FI_15, if_neg h5, if_pos h10]; first | rfl | assumption) (by decide) (by decide) ⟨rfl, by first | rfl | (simp only [if_neg h5, if_pos h10])⟩
      · refine A.iload (q := 20) d1_18 rfl rfl ?_
        refine A.iloadN (q := 21) d1_20 rfl rfl ?_
        refine A.icmpT (r := 54) d1_21 (by decide) (by decide) ?_
        refine A.iloadN (q := 55) d1_54 rfl rfl ?_
        subst ej3 ej8
        exact A.retZ (v := (FI_15 p3 p4)) d1_55 (by simp only [FI_15, if_neg h5, if_neg h10]; first | rfl | assumption) (by decide) (by decide) ⟨rfl, by first | rfl | (simp only [if_neg h5, if_neg h10])⟩
     refine A.aloadN (q := 25) d1_24 rfl rfl rfl ?_
     refine A.iload (q := 27) d1_25 rfl rfl ?_
     refine A.baloadB (q := 28) (i := 0) (v := (.int p4)) d1_27 rfl rfl (by decide) rfl ?_
     refine A.bipush (q := 30) (v := (48 : Int32)) d1_28 rfl (by decide) ?_
     refine A.icmp_lt (q := 33) (r := 46) d1_30 rfl (by decide) (fun h6 => ?_) (fun h6 => ?_)
     · refine A.iconst (q := 47) (v := (0 : Int32)) d1_46 rfl (by decide) ?_
       exact J24_8 T _ (by simp only [if_pos h6]) A
     · refine A.aloadN (q := 34) d1_33 rfl rfl rfl ?_
       refine A.iload (q := 36) d1_34 rfl rfl ?_
       refine A.baloadB (q := 37) (i := 0) (v := (.int p4)) d1_36 rfl rfl (by decide) rfl ?_
       refine A.bipush (q := 39) (v := (57 : Int32)) d1_37 rfl (by decide) ?_
       refine A.icmp_gt (q := 42) (r := 46) d1_39 rfl (by decide) (fun h7 => ?_) (fun h7 => ?_)
       · refine A.iconst (q := 47) (v := (0 : Int32)) d1_46 rfl (by decide) ?_
         exact J24_8 T _ (by simp only [if_neg h6, if_pos h7]) A
       · refine A.iconst (q := 43) (v := (1 : Int32)) d1_42 rfl (by decide) ?_
         refine A.goto (r := 47) d1_43 (by decide) ?_
         exact J24_8 T _ (by simp only [if_neg h6, if_neg h7]) A
  refine A.aloadN (q := 25) d1_24 rfl rfl rfl ?_
  refine A.iload (q := 27) d1_25 rfl rfl ?_
  refine A.baloadB (q := 28) (i := 0) (v := (.int p3)) d1_27 rfl rfl (by decide) rfl ?_
  refine A.bipush (q := 30) (v := (48 : Int32)) d1_28 rfl (by decide) ?_
  refine A.icmp_lt (q := 33) (r := 46) d1_30 rfl (by decide) (fun h1 => ?_) (fun h1 => ?_)
  · refine A.iconst (q := 47) (v := (0 : Int32)) d1_46 rfl (by decide) ?_
    exact J24_3 T _ (by simp only [if_pos h1]) A
  · refine A.aloadN (q := 34) d1_33 rfl rfl rfl ?_
    refine A.iload (q := 36) d1_34 rfl rfl ?_
    refine A.baloadB (q := 37) (i := 0) (v := (.int p3)) d1_36 rfl rfl (by decide) rfl ?_
    refine A.bipush (q := 39) (v := (57 : Int32)) d1_37 rfl (by decide) ?_
    refine A.icmp_gt (q := 42) (r := 46) d1_39 rfl (by decide) (fun h2 => ?_) (fun h2 => ?_)
    · refine A.iconst (q := 47) (v := (0 : Int32)) d1_46 rfl (by decide) ?_
      exact J24_3 T _ (by simp only [if_neg h1, if_pos h2]) A
    · refine A.iconst (q := 43) (v := (1 : Int32)) d1_42 rfl (by decide) ?_
      refine A.goto (r := 47) d1_43 (by decide) ?_
      exact J24_3 T _ (by simp only [if_neg h1, if_neg h2]) A
set_option maxRecDepth 65536 in
set_option maxHeartbeats 8000000 in
theorem rmI_16 (l : Launch) (Z : State) (a0 : Array Value) (hw : ∀ d ∈ tables_1, d.before a0 Z = true) (n0 : Nat) (r0 : Addr) (p1 : Int32) (p2 : Int32) (p3 : Int32) (p4 : Int32) (RR : Obs) :
    Triple l Z n0 (⟨"com/example/capabind/capabind/http/WireReader", "isDigits", "([BII)Z"⟩ : MethodName) prog_45_method_20_code 5 (some .boolean) ({ frames := 0, cells := 0, slots := 0, locals := 0 } : Room) 0 0 [(.ref r0), (.int (3 : Int32)), (.int (0 : Int32))] ((r0, .inr (.byte, [(.int p1), (.int p2), (.int p3), (.int p4)])) :: RR) (fun v L' => v = some (.int (0 : Int32)) ∧ L' = ((r0, .inr (.byte, [(.int p1), (.int p2), (.int p3), (.int p4)])) :: RR)) := by
  refine Triple.of_body (tbl := tables_1) (a0 := a0) (Ls := #[.val (.ref r0), .val (.int (3 : Int32)), .val (.int (0 : Int32)), .unset, .unset]) pn_1 hw rfl ?_
  intro p e s m below meth c T A
  refine A.iloadN (q := 1) d1_0 rfl rfl ?_
  refine A.iloadN (q := 2) d1_1 rfl rfl ?_
  refine A.icmpT (r := 9) d1_2 (by decide) (by decide) ?_
  refine A.iconst (q := 10) (v := (0 : Int32)) d1_9 rfl (by decide) ?_
  refine A.istoreN (q := 11) (l' := #[.val (.ref r0), .val (.int (3 : Int32)), .val (.int (0 : Int32)), .val (.int (0 : Int32)), .unset]) d1_10 rfl rfl ?_
  refine A.iloadN (q := 12) d1_11 rfl rfl ?_
  refine A.istore (q := 14) (l' := #[.val (.ref r0), .val (.int (3 : Int32)), .val (.int (0 : Int32)), .val (.int (0 : Int32)), .val (.int (3 : Int32))]) d1_12 rfl rfl ?_
  refine A.iloadN (q := 15) d1_14 rfl rfl ?_
  refine A.ifT (r := 54) d1_15 (by decide) (by decide) ?_
  refine A.iloadN (q := 55) d1_54 rfl rfl ?_
  exact A.retZ (v := (0 : Int32)) d1_55 (by decide) (by decide) (by decide) ⟨rfl, rfl⟩
set_option maxRecDepth 65536 in
set_option maxHeartbeats 8000000 in
theorem rmI_17 (l : Launch) (Z : State) (a0 : Array Value) (hw : ∀ d ∈ tables_1, d.before a0 Z = true) (n0 : Nat) (r0 : Addr) (p1 : Int32) (p2 : Int32) (p3 : Int32) (p4 : Int32) (RR : Obs) :
    Triple l Z n0 (⟨"com/example/capabind/capabind/http/WireReader", "isDigits", "([BII)Z"⟩ : MethodName) prog_45_method_20_code 5 (some .boolean) ({ frames := 0, cells := 0, slots := 0, locals := 0 } : Room) 0 0 [(.ref r0), (.int (3 : Int32)), (.int (1 : Int32))] ((r0, .inr (.byte, [(.int p1), (.int p2), (.int p3), (.int p4)])) :: RR) (fun v L' => v = some (.int (0 : Int32)) ∧ L' = ((r0, .inr (.byte, [(.int p1), (.int p2), (.int p3), (.int p4)])) :: RR)) := by
  refine Triple.of_body (tbl := tables_1) (a0 := a0) (Ls := #[.val (.ref r0), .val (.int (3 : Int32)), .val (.int (1 : Int32)), .unset, .unset]) pn_1 hw rfl ?_
  intro p e s m below meth c T A
  refine A.iloadN (q := 1) d1_0 rfl rfl ?_
  refine A.iloadN (q := 2) d1_1 rfl rfl ?_
  refine A.icmpT (r := 9) d1_2 (by decide) (by decide) ?_
  refine A.iconst (q := 10) (v := (0 : Int32)) d1_9 rfl (by decide) ?_
  refine A.istoreN (q := 11) (l' := #[.val (.ref r0), .val (.int (3 : Int32)), .val (.int (1 : Int32)), .val (.int (0 : Int32)), .unset]) d1_10 rfl rfl ?_
  refine A.iloadN (q := 12) d1_11 rfl rfl ?_
  refine A.istore (q := 14) (l' := #[.val (.ref r0), .val (.int (3 : Int32)), .val (.int (1 : Int32)), .val (.int (0 : Int32)), .val (.int (3 : Int32))]) d1_12 rfl rfl ?_
  refine A.iloadN (q := 15) d1_14 rfl rfl ?_
  refine A.ifT (r := 54) d1_15 (by decide) (by decide) ?_
  refine A.iloadN (q := 55) d1_54 rfl rfl ?_
  exact A.retZ (v := (0 : Int32)) d1_55 (by decide) (by decide) (by decide) ⟨rfl, rfl⟩
set_option maxRecDepth 65536 in
set_option maxHeartbeats 8000000 in
theorem rmI_18 (l : Launch) (Z : State) (a0 : Array Value) (hw : ∀ d ∈ tables_1, d.before a0 Z = true) (n0 : Nat) (r0 : Addr) (p1 : Int32) (p2 : Int32) (p3 : Int32) (p4 : Int32) (RR : Obs) :
    Triple l Z n0 (⟨"com/example/capabind/capabind/http/WireReader", "isDigits", "([BII)Z"⟩ : MethodName) prog_45_method_20_code 5 (some .boolean) ({ frames := 0, cells := 0, slots := 0, locals := 0 } : Room) 0 0 [(.ref r0), (.int (3 : Int32)), (.int (2 : Int32))] ((r0, .inr (.byte, [(.int p1), (.int p2), (.int p3), (.int p4)])) :: RR) (fun v L' => v = some (.int (0 : Int32)) ∧ L' = ((r0, .inr (.byte, [(.int p1), (.int p2), (.int p3), (.int p4)])) :: RR)) := by
  refine Triple.of_body (tbl := tables_1) (a0 := a0) (Ls := #[.val (.ref r0), .val (.int (3 : Int32)), .val (.int (2 : Int32)), .unset, .unset]) pn_1 hw rfl ?_
  intro p e s m below meth c T A
  refine A.iloadN (q := 1) d1_0 rfl rfl ?_
  refine A.iloadN (q := 2) d1_1 rfl rfl ?_
  refine A.icmpT (r := 9) d1_2 (by decide) (by decide) ?_
  refine A.iconst (q := 10) (v := (0 : Int32)) d1_9 rfl (by decide) ?_
  refine A.istoreN (q := 11) (l' := #[.val (.ref r0), .val (.int (3 : Int32)), .val (.int (2 : Int32)), .val (.int (0 : Int32)), .unset]) d1_10 rfl rfl ?_
  refine A.iloadN (q := 12) d1_11 rfl rfl ?_
  refine A.istore (q := 14) (l' := #[.val (.ref r0), .val (.int (3 : Int32)), .val (.int (2 : Int32)), .val (.int (0 : Int32)), .val (.int (3 : Int32))]) d1_12 rfl rfl ?_
  refine A.iloadN (q := 15) d1_14 rfl rfl ?_
  refine A.ifT (r := 54) d1_15 (by decide) (by decide) ?_
  refine A.iloadN (q := 55) d1_54 rfl rfl ?_
  exact A.retZ (v := (0 : Int32)) d1_55 (by decide) (by decide) (by decide) ⟨rfl, rfl⟩
set_option maxRecDepth 65536 in
set_option maxHeartbeats 8000000 in
theorem rmI_19 (l : Launch) (Z : State) (a0 : Array Value) (hw : ∀ d ∈ tables_1, d.before a0 Z = true) (n0 : Nat) (r0 : Addr) (p1 : Int32) (p2 : Int32) (p3 : Int32) (p4 : Int32) (RR : Obs) :
    Triple l Z n0 (⟨"com/example/capabind/capabind/http/WireReader", "isDigits", "([BII)Z"⟩ : MethodName) prog_45_method_20_code 5 (some .boolean) ({ frames := 0, cells := 0, slots := 0, locals := 0 } : Room) 0 0 [(.ref r0), (.int (3 : Int32)), (.int (3 : Int32))] ((r0, .inr (.byte, [(.int p1), (.int p2), (.int p3), (.int p4)])) :: RR) (fun v L' => v = some (.int (0 : Int32)) ∧ L' = ((r0, .inr (.byte, [(.int p1), (.int p2), (.int p3), (.int p4)])) :: RR)) := by
  refine Triple.of_body (tbl := tables_1) (a0 := a0) (Ls := #[.val (.ref r0), .val (.int (3 : Int32)), .val (.int (3 : Int32)), .unset, .unset]) pn_1 hw rfl ?_
  intro p e s m below meth c T A
  refine A.iloadN (q := 1) d1_0 rfl rfl ?_
  refine A.iloadN (q := 2) d1_1 rfl rfl ?_
  refine A.icmpT (r := 9) d1_2 (by decide) (by decide) ?_
  refine A.iconst (q := 10) (v := (0 : Int32)) d1_9 rfl (by decide) ?_
  refine A.istoreN (q := 11) (l' := #[.val (.ref r0), .val (.int (3 : Int32)), .val (.int (3 : Int32)), .val (.int (0 : Int32)), .unset]) d1_10 rfl rfl ?_
  refine A.iloadN (q := 12) d1_11 rfl rfl ?_
  refine A.istore (q := 14) (l' := #[.val (.ref r0), .val (.int (3 : Int32)), .val (.int (3 : Int32)), .val (.int (0 : Int32)), .val (.int (3 : Int32))]) d1_12 rfl rfl ?_
  refine A.iloadN (q := 15) d1_14 rfl rfl ?_
  refine A.ifT (r := 54) d1_15 (by decide) (by decide) ?_
  refine A.iloadN (q := 55) d1_54 rfl rfl ?_
  exact A.retZ (v := (0 : Int32)) d1_55 (by decide) (by decide) (by decide) ⟨rfl, rfl⟩
set_option maxRecDepth 65536 in
set_option maxHeartbeats 8000000 in
theorem rmI_20 (l : Launch) (Z : State) (a0 : Array Value) (hw : ∀ d ∈ tables_1, d.before a0 Z = true) (n0 : Nat) (r0 : Addr) (p1 : Int32) (p2 : Int32) (p3 : Int32) (p4 : Int32) (RR : Obs) :
    Triple l Z n0 (⟨"com/example/capabind/capabind/http/WireReader", "isDigits", "([BII)Z"⟩ : MethodName) prog_45_method_20_code 5 (some .boolean) ({ frames := 0, cells := 0, slots := 0, locals := 0 } : Room) 0 0 [(.ref r0), (.int (3 : Int32)), (.int (4 : Int32))] ((r0, .inr (.byte, [(.int p1), (.int p2), (.int p3), (.int p4)])) :: RR) (fun v L' => v = some (.int ((if p4 < (48 : Int32) then (0 : Int32) else (if (57 : Int32) < p4 then (0 : Int32) else (1 : Int32))))) ∧ L' = ((r0, .inr (.byte, [(.int p1), (.int p2), (.int p3), (.int p4)])) :: RR)) := by
  refine Triple.of_body (tbl := tables_1) (a0 := a0) (Ls := #[.val (.ref r0), .val (.int (3 : Int32)), .val (.int (4 : Int32)), .unset, .unset]) pn_1 hw rfl ?_
  intro p e s m below meth c T A
  refine A.iloadN (q := 1) d1_0 rfl rfl ?_
  refine A.iloadN (q := 2) d1_1 rfl rfl ?_
  refine A.icmpF (q := 5) d1_2 rfl (by decide) ?_
  refine A.iconst (q := 6) (v := (1 : Int32)) d1_5 rfl (by decide) ?_
  refine A.goto (r := 10) d1_6 (by decide) ?_
  refine A.istoreN (q := 11) (l' := #[.val (.ref r0), .val (.int (3 : Int32)), .val (.int (4 : Int32)), .val (.int (1 : Int32)), .unset]) d1_10 rfl rfl ?_
  refine A.iloadN (q := 12) d1_11 rfl rfl ?_
  refine A.istore (q := 14) (l' := #[.val (.ref r0), .val (.int (3 : Int32)), .val (.int (4 : Int32)), .val (.int (1 : Int32)), .val (.int (3 : Int32))]) d1_12 rfl rfl ?_
  refine A.iloadN (q := 15) d1_14 rfl rfl ?_
  refine A.ifF (q := 18) d1_15 rfl (by decide) ?_
  refine A.iload (q := 20) d1_18 rfl rfl ?_
  refine A.iloadN (q := 21) d1_20 rfl rfl ?_
  refine A.icmpF (q := 24) d1_21 rfl (by decide) ?_
  have J24_3 : ∀ (T : State) (j3 : Int32), j3 = (if p4 < (48 : Int32) then (0 : Int32) else (if (57 : Int32) < p4 then (0 : Int32) else (1 : Int32))) → Here p l e ({ frames := 0, cells := 0, slots := 0, locals := 0 } : Room) s m ([(.ref r0), (.int (3 : Int32)), (.int (4 : Int32))] : List Value).toArray below meth c Z a0 tables_1 (⟨"com/example/capabind/capabind/http/WireReader", "isDigits", "([BII)Z"⟩ : MethodName).cls (⟨"com/example/capabind/capabind/http/WireReader", "isDigits", "([BII)Z"⟩ : MethodName).name prog_45_method_20_code 5 (some .boolean) n0 T ((r0, .inr (.byte, [(.int p1), (.int p2), (.int p3), (.int p4)])) :: RR) 0 0 → Go p e below (EndS below s n0 Z 0 0 (fun v L' => v = some (.int ((if p4 < (48 : Int32) then (0 : Int32) else (if (57 : Int32) < p4 then (0 : Int32) else (1 : Int32))))) ∧ L' = ((r0, .inr (.byte, [(.int p1), (.int p2), (.int p3), (.int p4)])) :: RR))) (T.setTop (mkF m 47 #[.val (.ref r0), .val (.int (3 : Int32)), .val (.int (4 : Int32)), .val (.int (1 : Int32)), .val (.int (3 : Int32))] [(.int j3)])) := by
   intro T j3 ej3 A
   have z_j3 : nar .boolean j3 = j3 := by rw [ej3]; (repeat' split) <;> first | decide | assumption
   refine A.istoreN (q := 48) (l' := #[.val (.ref r0), .val (.int (3 : Int32)), .val (.int (4 : Int32)), .val (.int j3), .val (.int (3 : Int32))]) d1_47 rfl rfl ?_
   refine A.iinc (q := 51) (v := (4 : Int32)) (l' := #[.val (.ref r0), .val (.int (3 : Int32)), .val (.int (4 : Int32)), .val (.int j3), .val (.int (4 : Int32))]) d1_48 rfl rfl (by decide) rfl ?_
   refine A.goto (r := 14) d1_51 (by decide) ?_
   refine A.iloadN (q := 15) d1_14 rfl rfl ?_
   refine A.if_eq (q := 18) (r := 54) d1_15 rfl (by decide) (fun h5 => ?_) (fun h5 => ?_)
   · refine A.iloadN (q := 55) d1_54 rfl rfl ?_
     subst ej3
     exact A.retZ (v := ((if p4 < (48 : Int32) then (0 : Int32) else (if (57 : Int32) < p4 then (0 : Int32) else (1 : Int32))))) d1_55 (by first | rfl | assumption | decide) (by decide) (by decide) ⟨rfl, by first | rfl | (simp only [if_pos h5])⟩
   · refine A.iload (q := 20) d1_18 rfl rfl ?_
     refine A.iloadN (q := 21) d1_20 rfl rfl ?_
     refine A.icmpT (r := 54) d1_21 (by decide) (by decide) ?_
     refine A.iloadN (q := 55) d1_54 rfl rfl ?_
     subst ej3
     exact A.retZ (v := ((if p4 < (48 : Int32) then (0 : Int32) else (if (57 : Int32) < p4 then (0 : Int32) else (1 : Int32))))) d1_55 (by first | rfl | assumption | decide) (by decide) (by decide) ⟨rfl, by first | rfl | (simp only [if_neg h5])⟩
  refine A.aloadN (q := 25) d1_24 rfl rfl rfl ?_
  refine A.iload (q := 27) d1_25 rfl rfl ?_
  refine A.baloadB (q := 28) (i := 0) (v := (.int p4)) d1_27 rfl rfl (by decide) rfl ?_
  refine A.bipush (q := 30) (v := (48 : Int32)) d1_28 rfl (by decide) ?_
  refine A.icmp_lt (q := 33) (r := 46) d1_30 rfl (by decide) (fun h1 => ?_) (fun h1 => ?_)
  · refine A.iconst (q := 47) (v := (0 : Int32)) d1_46 rfl (by decide) ?_
    exact J24_3 T _ (by simp only [if_pos h1]) A
  · refine A.aloadN (q := 34) d1_33 rfl rfl rfl ?_
    refine A.iload (q := 36) d1_34 rfl rfl ?_
    refine A.baloadB (q := 37) (i := 0) (v := (.int p4)) d1_36 rfl rfl (by decide) rfl ?_
    refine A.bipush (q := 39) (v := (57 : Int32)) d1_37 rfl (by decide) ?_
    refine A.icmp_gt (q := 42) (r := 46) d1_39 rfl (by decide) (fun h2 => ?_) (fun h2 => ?_)
    · refine A.iconst (q := 47) (v := (0 : Int32)) d1_46 rfl (by decide) ?_
      exact J24_3 T _ (by simp only [if_neg h1, if_pos h2]) A
    · refine A.iconst (q := 43) (v := (1 : Int32)) d1_42 rfl (by decide) ?_
      refine A.goto (r := 47) d1_43 (by decide) ?_
      exact J24_3 T _ (by simp only [if_neg h1, if_neg h2]) A
set_option maxRecDepth 65536 in
set_option maxHeartbeats 8000000 in
theorem rmI_21 (l : Launch) (Z : State) (a0 : Array Value) (hw : ∀ d ∈ tables_1, d.before a0 Z = true) (n0 : Nat) (r0 : Addr) (p1 : Int32) (p2 : Int32) (p3 : Int32) (p4 : Int32) (RR : Obs) :
    Triple l Z n0 (⟨"com/example/capabind/capabind/http/WireReader", "isDigits", "([BII)Z"⟩ : MethodName) prog_45_method_20_code 5 (some .boolean) ({ frames := 0, cells := 0, slots := 0, locals := 0 } : Room) 0 0 [(.ref r0), (.int (4 : Int32)), (.int (0 : Int32))] ((r0, .inr (.byte, [(.int p1), (.int p2), (.int p3), (.int p4)])) :: RR) (fun v L' => v = some (.int (0 : Int32)) ∧ L' = ((r0, .inr (.byte, [(.int p1), (.int p2), (.int p3), (.int p4)])) :: RR)) := by
  refine Triple.of_body (tbl := tables_1) (a0 := a0) (Ls := #[.val (.ref r0), .val (.int (4 : Int32)), .val (.int (0 : Int32)), .unset, .unset]) pn_1 hw rfl ?_
  intro p e s m below meth c T A
  refine A.iloadN (q := 1) d1_0 rfl rfl ?_
  refine A.iloadN (q := 2) d1_1 rfl rfl ?_
  refine A.icmpT (r := 9) d1_2 (by decide) (by decide) ?_
  refine A.iconst (q := 10) (v := (0 : Int32)) d1_9 rfl (by decide) ?_
  refine A.istoreN (q := 11) (l' := #[.val (.ref r0), .val (.int (4 : Int32)), .val (.int (0 : Int32)), .val (.int (0 : Int32)), .unset]) d1_10 rfl rfl ?_
  refine A.iloadN (q := 12) d1_11 rfl rfl ?_
  refine A.istore (q := 14) (l' := #[.val (.ref r0), .val (.int (4 : Int32)), .val (.int (0 : Int32)), .val (.int (0 : Int32)), .val (.int (4 : Int32))]) d1_12 rfl rfl ?_
  refine A.iloadN (q := 15) d1_14 rfl rfl ?_
  refine A.ifT (r := 54) d1_15 (by decide) (by decide) ?_
  refine A.iloadN (q := 55) d1_54 rfl rfl ?_
  exact A.retZ (v := (0 : Int32)) d1_55 (by decide) (by decide) (by decide) ⟨rfl, rfl⟩
set_option maxRecDepth 65536 in
set_option maxHeartbeats 8000000 in
theorem rmI_22 (l : Launch) (Z : State) (a0 : Array Value) (hw : ∀ d ∈ tables_1, d.before a0 Z = true) (n0 : Nat) (r0 : Addr) (p1 : Int32) (p2 : Int32) (p3 : Int32) (p4 : Int32) (RR : Obs) :
    Triple l Z n0 (⟨"com/example/capabind/capabind/http/WireReader", "isDigits", "([BII)Z"⟩ : MethodName) prog_45_method_20_code 5 (some .boolean) ({ frames := 0, cells := 0, slots := 0, locals := 0 } : Room) 0 0 [(.ref r0), (.int (4 : Int32)), (.int (1 : Int32))] ((r0, .inr (.byte, [(.int p1), (.int p2), (.int p3), (.int p4)])) :: RR) (fun v L' => v = some (.int (0 : Int32)) ∧ L' = ((r0, .inr (.byte, [(.int p1), (.int p2), (.int p3), (.int p4)])) :: RR)) := by
  refine Triple.of_body (tbl := tables_1) (a0 := a0) (Ls := #[.val (.ref r0), .val (.int (4 : Int32)), .val (.int (1 : Int32)), .unset, .unset]) pn_1 hw rfl ?_
  intro p e s m below meth c T A
  refine A.iloadN (q := 1) d1_0 rfl rfl ?_
  refine A.iloadN (q := 2) d1_1 rfl rfl ?_
  refine A.icmpT (r := 9) d1_2 (by decide) (by decide) ?_
  refine A.iconst (q := 10) (v := (0 : Int32)) d1_9 rfl (by decide) ?_
  refine A.istoreN (q := 11) (l' := #[.val (.ref r0), .val (.int (4 : Int32)), .val (.int (1 : Int32)), .val (.int (0 : Int32)), .unset]) d1_10 rfl rfl ?_
  refine A.iloadN (q := 12) d1_11 rfl rfl ?_
  refine A.istore (q := 14) (l' := #[.val (.ref r0), .val (.int (4 : Int32)), .val (.int (1 : Int32)), .val (.int (0 : Int32)), .val (.int (4 : Int32))]) d1_12 rfl rfl ?_
  refine A.iloadN (q := 15) d1_14 rfl rfl ?_
  refine A.ifT (r := 54) d1_15 (by decide) (by decide) ?_
  refine A.iloadN (q := 55) d1_54 rfl rfl ?_
  exact A.retZ (v := (0 : Int32)) d1_55 (by decide) (by decide) (by decide) ⟨rfl, rfl⟩
set_option maxRecDepth 65536 in
set_option maxHeartbeats 8000000 in
theorem rmI_23 (l : Launch) (Z : State) (a0 : Array Value) (hw : ∀ d ∈ tables_1, d.before a0 Z = true) (n0 : Nat) (r0 : Addr) (p1 : Int32) (p2 : Int32) (p3 : Int32) (p4 : Int32) (RR : Obs) :
    Triple l Z n0 (⟨"com/example/capabind/capabind/http/WireReader", "isDigits", "([BII)Z"⟩ : MethodName) prog_45_method_20_code 5 (some .boolean) ({ frames := 0, cells := 0, slots := 0, locals := 0 } : Room) 0 0 [(.ref r0), (.int (4 : Int32)), (.int (2 : Int32))] ((r0, .inr (.byte, [(.int p1), (.int p2), (.int p3), (.int p4)])) :: RR) (fun v L' => v = some (.int (0 : Int32)) ∧ L' = ((r0, .inr (.byte, [(.int p1), (.int p2), (.int p3), (.int p4)])) :: RR)) := by
  refine Triple.of_body (tbl := tables_1) (a0 := a0) (Ls := #[.val (.ref r0), .val (.int (4 : Int32)), .val (.int (2 : Int32)), .unset, .unset]) pn_1 hw rfl ?_
  intro p e s m below meth c T A
  refine A.iloadN (q := 1) d1_0 rfl rfl ?_
  refine A.iloadN (q := 2) d1_1 rfl rfl ?_
  refine A.icmpT (r := 9) d1_2 (by decide) (by decide) ?_
  refine A.iconst (q := 10) (v := (0 : Int32)) d1_9 rfl (by decide) ?_
  refine A.istoreN (q := 11) (l' := #[.val (.ref r0), .val (.int (4 : Int32)), .val (.int (2 : Int32)), .val (.int (0 : Int32)), .unset]) d1_10 rfl rfl ?_
  refine A.iloadN (q := 12) d1_11 rfl rfl ?_
  refine A.istore (q := 14) (l' := #[.val (.ref r0), .val (.int (4 : Int32)), .val (.int (2 : Int32)), .val (.int (0 : Int32)), .val (.int (4 : Int32))]) d1_12 rfl rfl ?_
  refine A.iloadN (q := 15) d1_14 rfl rfl ?_
  refine A.ifT (r := 54) d1_15 (by decide) (by decide) ?_
  refine A.iloadN (q := 55) d1_54 rfl rfl ?_
  exact A.retZ (v := (0 : Int32)) d1_55 (by decide) (by decide) (by decide) ⟨rfl, rfl⟩
set_option maxRecDepth 65536 in
set_option maxHeartbeats 8000000 in
theorem rmI_24 (l : Launch) (Z : State) (a0 : Array Value) (hw : ∀ d ∈ tables_1, d.before a0 Z = true) (n0 : Nat) (r0 : Addr) (p1 : Int32) (p2 : Int32) (p3 : Int32) (p4 : Int32) (RR : Obs) :
    Triple l Z n0 (⟨"com/example/capabind/capabind/http/WireReader", "isDigits", "([BII)Z"⟩ : MethodName) prog_45_method_20_code 5 (some .boolean) ({ frames := 0, cells := 0, slots := 0, locals := 0 } : Room) 0 0 [(.ref r0), (.int (4 : Int32)), (.int (3 : Int32))] ((r0, .inr (.byte, [(.int p1), (.int p2), (.int p3), (.int p4)])) :: RR) (fun v L' => v = some (.int (0 : Int32)) ∧ L' = ((r0, .inr (.byte, [(.int p1), (.int p2), (.int p3), (.int p4)])) :: RR)) := by
  refine Triple.of_body (tbl := tables_1) (a0 := a0) (Ls := #[.val (.ref r0), .val (.int (4 : Int32)), .val (.int (3 : Int32)), .unset, .unset]) pn_1 hw rfl ?_
  intro p e s m below meth c T A
  refine A.iloadN (q := 1) d1_0 rfl rfl ?_
  refine A.iloadN (q := 2) d1_1 rfl rfl ?_
  refine A.icmpT (r := 9) d1_2 (by decide) (by decide) ?_
  refine A.iconst (q := 10) (v := (0 : Int32)) d1_9 rfl (by decide) ?_
  refine A.istoreN (q := 11) (l' := #[.val (.ref r0), .val (.int (4 : Int32)), .val (.int (3 : Int32)), .val (.int (0 : Int32)), .unset]) d1_10 rfl rfl ?_
  refine A.iloadN (q := 12) d1_11 rfl rfl ?_
  refine A.istore (q := 14) (l' := #[.val (.ref r0), .val (.int (4 : Int32)), .val (.int (3 : Int32)), .val (.int (0 : Int32)), .val (.int (4 : Int32))]) d1_12 rfl rfl ?_
  refine A.iloadN (q := 15) d1_14 rfl rfl ?_
  refine A.ifT (r := 54) d1_15 (by decide) (by decide) ?_
  refine A.iloadN (q := 55) d1_54 rfl rfl ?_
  exact A.retZ (v := (0 : Int32)) d1_55 (by decide) (by decide) (by decide) ⟨rfl, rfl⟩
set_option maxRecDepth 65536 in
set_option maxHeartbeats 8000000 in
theorem rmI_25 (l : Launch) (Z : State) (a0 : Array Value) (hw : ∀ d ∈ tables_1, d.before a0 Z = true) (n0 : Nat) (r0 : Addr) (p1 : Int32) (p2 : Int32) (p3 : Int32) (p4 : Int32) (RR : Obs) :
    Triple l Z n0 (⟨"com/example/capabind/capabind/http/WireReader", "isDigits", "([BII)Z"⟩ : MethodName) prog_45_method_20_code 5 (some .boolean) ({ frames := 0, cells := 0, slots := 0, locals := 0 } : Room) 0 0 [(.ref r0), (.int (4 : Int32)), (.int (4 : Int32))] ((r0, .inr (.byte, [(.int p1), (.int p2), (.int p3), (.int p4)])) :: RR) (fun v L' => v = some (.int (0 : Int32)) ∧ L' = ((r0, .inr (.byte, [(.int p1), (.int p2), (.int p3), (.int p4)])) :: RR)) := by
  refine Triple.of_body (tbl := tables_1) (a0 := a0) (Ls := #[.val (.ref r0), .val (.int (4 : Int32)), .val (.int (4 : Int32)), .unset, .unset]) pn_1 hw rfl ?_
  intro p e s m below meth c T A
  refine A.iloadN (q := 1) d1_0 rfl rfl ?_
  refine A.iloadN (q := 2) d1_1 rfl rfl ?_
  refine A.icmpT (r := 9) d1_2 (by decide) (by decide) ?_
  refine A.iconst (q := 10) (v := (0 : Int32)) d1_9 rfl (by decide) ?_
  refine A.istoreN (q := 11) (l' := #[.val (.ref r0), .val (.int (4 : Int32)), .val (.int (4 : Int32)), .val (.int (0 : Int32)), .unset]) d1_10 rfl rfl ?_
  refine A.iloadN (q := 12) d1_11 rfl rfl ?_
  refine A.istore (q := 14) (l' := #[.val (.ref r0), .val (.int (4 : Int32)), .val (.int (4 : Int32)), .val (.int (0 : Int32)), .val (.int (4 : Int32))]) d1_12 rfl rfl ?_
  refine A.iloadN (q := 15) d1_14 rfl rfl ?_
  refine A.ifT (r := 54) d1_15 (by decide) (by decide) ?_
  refine A.iloadN (q := 55) d1_54 rfl rfl ?_
  exact A.retZ (v := (0 : Int32)) d1_55 (by decide) (by decide) (by decide) ⟨rfl, rfl⟩
theorem pn_0 : plainFor (⟨"com/example/capabind/capabind/http/WireReaderIsDigitsPinLaw", "law", "(IIIII)Z"⟩ : MethodName) = true := plainFor_of_name (by first | (simp [plainName, overriddenIn]; done) | decide +kernel)
set_option maxRecDepth 65536 in
set_option maxHeartbeats 8000000 in
theorem rm0 (l : Launch) (Z : State) (a0 : Array Value) (hw : ∀ d ∈ tables_1, d.before a0 Z = true) (n0 : Nat) (y0 y1 y2 y3 rg : Int32) :
    Triple l Z n0 x code 10 (some .boolean) room_1 16 128 [(.int y0), (.int y1), (.int y2), (.int y3), (.int rg)] [] (fun v _ => v = some (.int 1)) := by
  refine Triple.of_body (tbl := tables_1) (a0 := a0) (Ls := #[.val (.int y0), .val (.int y1), .val (.int y2), .val (.int y3), .val (.int rg), .unset, .unset, .unset, .unset, .unset]) pn_0 hw rfl ?_
  intro p e s m below meth c T A
  refine A.iconst (q := 1) (v := (4 : Int32)) at_0 rfl (by decide) ?_
  refine A.newA (q := 3) (w := 0) (cap := 4) (ty := .byte) (vs := [(.int (0 : Int32)), (.int (0 : Int32)), (.int (0 : Int32)), (.int (0 : Int32))]) at_1 rfl rfl rfl (by decide) (by decide) (by decide) rfl (by decide) (by decide) ?_
  intro T b1 A
  refine A.dup (q := 4) at_3 rfl rfl ?_
  refine A.iconst (q := 5) (v := (0 : Int32)) at_4 rfl (by decide) ?_
  refine A.iloadN (q := 6) at_5 rfl rfl ?_
  obtain ⟨v2, e2⟩ : ∃ v : Int32, y0.toInt8.toInt32 = v := ⟨_, rfl⟩
  refine A.i2b (q := 7) at_6 rfl e2 ?_
  refine A.bastoreB (q := 8) (i := 0) (x' := v2) (L' := [(b1, .inr (.byte, [(.int v2), (.int (0 : Int32)), (.int (0 : Int32)), (.int (0 : Int32))]))]) at_7 rfl rfl (by decide) (by show Int32.toNatClampNeg (0 : Int32) < 4; decide) (by subst e2; exact own_nb _) rfl ?_
  intro T A
  refine A.dup (q := 9) at_8 rfl rfl ?_
  refine A.iconst (q := 10) (v := (1 : Int32)) at_9 rfl (by decide) ?_
  refine A.iloadN (q := 11) at_10 rfl rfl ?_
  obtain ⟨v3, e3⟩ : ∃ v : Int32, y1.toInt8.toInt32 = v := ⟨_, rfl⟩
  refine A.i2b (q := 12) at_11 rfl e3 ?_
  refine A.bastoreB (q := 13) (i := 0) (x' := v3) (L' := [(b1, .inr (.byte, [(.int v2), (.int v3), (.int (0 : Int32)), (.int (0 : Int32))]))]) at_12 rfl rfl (by decide) (by show Int32.toNatClampNeg (1 : Int32) < 4; decide) (by subst e2 e3; exact own_nb _) rfl ?_
  intro T A
  refine A.dup (q := 14) at_13 rfl rfl ?_
  refine A.iconst (q := 15) (v := (2 : Int32)) at_14 rfl (by decide) ?_
  refine A.iloadN (q := 16) at_15 rfl rfl ?_
  obtain ⟨v4, e4⟩ : ∃ v : Int32, y2.toInt8.toInt32 = v := ⟨_, rfl⟩
  refine A.i2b (q := 17) at_16 rfl e4 ?_
  refine A.bastoreB (q := 18) (i := 0) (x' := v4) (L' := [(b1, .inr (.byte, [(.int v2), (.int v3), (.int v4), (.int (0 : Int32))]))]) at_17 rfl rfl (by decide) (by show Int32.toNatClampNeg (2 : Int32) < 4; decide) (by subst e2 e3 e4; exact own_nb _) rfl ?_
  intro T A
  refine A.dup (q := 19) at_18 rfl rfl ?_
  refine A.iconst (q := 20) (v := (3 : Int32)) at_19 rfl (by decide) ?_
  refine A.iloadN (q := 21) at_20 rfl rfl ?_
  obtain ⟨v5, e5⟩ : ∃ v : Int32, y3.toInt8.toInt32 = v := ⟨_, rfl⟩
  refine A.i2b (q := 22) at_21 rfl e5 ?_
  refine A.bastoreB (q := 23) (i := 0) (x' := v5) (L' := [(b1, .inr (.byte, [(.int v2), (.int v3), (.int v4), (.int v5)]))]) at_22 rfl rfl (by decide) (by show Int32.toNatClampNeg (3 : Int32) < 4; decide) (by subst e2 e3 e4 e5; exact own_nb _) rfl ?_
  intro T A
  refine A.astore (q := 25) (l' := #[.val (.int y0), .val (.int y1), .val (.int y2), .val (.int y3), .val (.int rg), .val (.ref b1), .unset, .unset, .unset, .unset]) at_23 rfl rfl rfl ?_
  refine A.iload (q := 27) at_25 rfl rfl ?_
  refine A.ldc (q := 29) (v := (2147483647 : Int32)) (w := 1) at_27 rfl rfl ?_
  obtain ⟨v6, e6⟩ : ∃ v : Int32, rg &&& (2147483647 : Int32) = v := ⟨_, rfl⟩
  refine A.iand (q := 30) at_29 rfl e6 ?_
  refine A.iconst (q := 31) (v := (5 : Int32)) at_30 rfl (by decide) ?_
  obtain ⟨v7, e7⟩ : ∃ v : Int32, v6 % (5 : Int32) = v := ⟨_, rfl⟩
  refine A.irem (q := 32) at_31 rfl (by decide) e7 ?_
  refine A.istore (q := 34) (l' := #[.val (.int y0), .val (.int y1), .val (.int y2), .val (.int y3), .val (.int rg), .val (.ref b1), .val (.int v7), .unset, .unset, .unset]) at_32 rfl rfl ?_
  refine A.iload (q := 36) at_34 rfl rfl ?_
  refine A.bipush (q := 38) (v := (8 : Int32)) at_36 rfl (by decide) ?_
  obtain ⟨v8, e8⟩ : ∃ v : Int32, (rg.toUInt32 >>> ((8 : Int32) &&& 31).toUInt32).toInt32 = v := ⟨_, rfl⟩
  refine A.iushr (q := 39) at_38 rfl e8 ?_
  refine A.ldc (q := 41) (v := (2147483647 : Int32)) (w := 1) at_39 rfl rfl ?_
  obtain ⟨v9, e9⟩ : ∃ v : Int32, v8 &&& (2147483647 : Int32) = v := ⟨_, rfl⟩
  refine A.iand (q := 42) at_41 rfl e9 ?_
  refine A.iconst (q := 43) (v := (5 : Int32)) at_42 rfl (by decide) ?_
  obtain ⟨v10, e10⟩ : ∃ v : Int32, v9 % (5 : Int32) = v := ⟨_, rfl⟩
  refine A.irem (q := 44) at_43 rfl (by decide) e10 ?_
  refine A.istore (q := 46) (l' := #[.val (.int y0), .val (.int y1), .val (.int y2), .val (.int y3), .val (.int rg), .val (.ref b1), .val (.int v7), .val (.int v10), .unset, .unset]) at_44 rfl rfl ?_
  have J46_20 : ∀ (T : State) (j20 : Int32), j20 = (if v7 < v10 then (if ((FK (0 : Int32) v7 v10 v2)) = (0 : Int32) then (0 : Int32) else (if ((FK (1 : Int32) v7 v10 v3)) = (0 : Int32) then (0 : Int32) else (if ((FK (2 : Int32) v7 v10 v4)) = (0 : Int32) then (0 : Int32) else (if ((FK (3 : Int32) v7 v10 v5)) = (0 : Int32) then (0 : Int32) else (1 : Int32))))) else (0 : Int32)) → Here p l e room_1 s m ([(.int y0), (.int y1), (.int y2), (.int y3), (.int rg)] : List Value).toArray below meth c Z a0 tables_1 x.cls x.name code 10 (some .boolean) n0 T [(b1, .inr (.byte, [(.int v2), (.int v3), (.int v4), (.int v5)]))] 1 4 → Go p e below (EndS below s n0 Z 16 128 (fun v _ => v = some (.int 1))) (T.setTop (mkF m 118 #[.val (.int y0), .val (.int y1), .val (.int y2), .val (.int y3), .val (.int rg), .val (.ref b1), .val (.int v7), .val (.int v10), .unset, .unset] [(.int j20)])) := by
   intro T j20 ej20 A
   have z_j20 : nar .boolean j20 = j20 := by rw [ej20]; (repeat' split) <;> first | decide | assumption
   refine A.istore (q := 120) (l' := #[.val (.int y0), .val (.int y1), .val (.int y2), .val (.int y3), .val (.int rg), .val (.ref b1), .val (.int v7), .val (.int v10), .val (.int j20), .unset]) at_118 rfl rfl ?_
   have hn : v7 = 0 ∨ v7 = 1 ∨ v7 = 2 ∨ v7 = 3 ∨ v7 = 4 := by subst e2 e3 e4 e5 e6 e7 e8 e9 e10; exact own_r5 (own_modb _ 5 5 (by decide) (by decide))
   rcases hn with rfl | rfl | rfl | rfl | rfl
   · have hn : v10 = 0 ∨ v10 = 1 ∨ v10 = 2 ∨ v10 = 3 ∨ v10 = 4 := by subst e2 e3 e4 e5 e6 e8 e9 e10; exact own_r5 (own_modb _ 5 5 (by decide) (by decide))
     rcases hn with rfl | rfl | rfl | rfl | rfl
     · refine A.aload (q := 122) at_120 rfl rfl rfl ?_
       refine A.iload (q := 124) at_122 rfl rfl ?_
       refine A.iload (q := 126) at_124 rfl rfl ?_
       refine A.callS (q := 129) (w1 := 2) (w2 := 3) (w3 := 4) (w4 := 5) (as := [(.ref b1), (.int (0 : Int32)), (.int (0 : Int32))]) (st := []) (W := 0) at_126 rfl rfl rfl rfl rfl (rmI_1 l Z a0 hw n0 b1 v2 v3 v4 v5 _) (by decide) ⟨_, _, pd_2, rfl⟩ rfl rfl rfl (by decide) (by decide) (by decide) (by decide) ?_
       rintro _ T _ ⟨rfl, rfl⟩ A
       show Go p e below _ (T.setTop (mkF m 129 #[.val (.int y0), .val (.int y1), .val (.int y2), .val (.int y3), .val (.int rg), .val (.ref b1), .val (.int (0 : Int32)), .val (.int (0 : Int32)), .val (.int j20), .unset] [(.int (0 : Int32))]))
       refine A.istore (q := 131) (l' := #[.val (.int y0), .val (.int y1), .val (.int y2), .val (.int y3), .val (.int rg), .val (.ref b1), .val (.int (0 : Int32)), .val (.int (0 : Int32)), .val (.int j20), .val (.int (0 : Int32))]) at_129 rfl rfl ?_
       refine A.iload (q := 133) at_131 rfl rfl ?_
       refine A.iload (q := 135) at_133 rfl rfl ?_
       refine A.icmpF (q := 138) at_135 rfl (teq (by subst e2 e3 e4 e5 e6 e8 e9 ej20; simp [FK, own_n0, own_n1] : (0 : Int32) = j20)).2 ?_
       refine A.iconst (q := 139) (v := (1 : Int32)) at_138 rfl (by decide) ?_
       refine A.goto (r := 143) at_139 (by decide) ?_
       exact A.retZ (v := 1) at_143 (by decide) (by decide) (by decide) rfl
     · refine A.aload (q := 122) at_120 rfl rfl rfl ?_
       refine A.iload (q := 124) at_122 rfl rfl ?_
       refine A.iload (q := 126) at_124 rfl rfl ?_
       refine A.callS (q := 129) (w1 := 2) (w2 := 3) (w3 := 4) (w4 := 5) (as := [(.ref b1), (.int (0 : Int32)), (.int (1 : Int32))]) (st := []) (W := 0) at_126 rfl rfl rfl rfl rfl (rmI_2 l Z a0 hw n0 b1 v2 v3 v4 v5 _) (by decide) ⟨_, _, pd_2, rfl⟩ rfl rfl rfl (by decide) (by decide) (by decide) (by decide) ?_
       rintro _ T _ ⟨rfl, rfl⟩ A
       show Go p e below _ (T.setTop (mkF m 129 #[.val (.int y0), .val (.int y1), .val (.int y2), .val (.int y3), .val (.int rg), .val (.ref b1), .val (.int (0 : Int32)), .val (.int (1 : Int32)), .val (.int j20), .unset] [(.int ((if v2 < (48 : Int32) then (0 : Int32) else (if (57 : Int32) < v2 then (0 : Int32) else (1 : Int32)))))]))
       obtain ⟨v22, e22⟩ : ∃ v : Int32, ((if v2 < (48 : Int32) then (0 : Int32) else (if (57 : Int32) < v2 then (0 : Int32) else (1 : Int32)))) = v := ⟨_, rfl⟩
       rw [e22]
       refine A.istore (q := 131) (l' := #[.val (.int y0), .val (.int y1), .val (.int y2), .val (.int y3), .val (.int rg), .val (.ref b1), .val (.int (0 : Int32)), .val (.int (1 : Int32)), .val (.int j20), .val (.int v22)]) at_129 rfl rfl ?_
       refine A.iload (q := 133) at_131 rfl rfl ?_
       refine A.iload (q := 135) at_133 rfl rfl ?_
       refine A.icmpF (q := 138) at_135 rfl (teq (by subst e2 e3 e4 e5 e6 e8 e9 ej20 e22; rcases own_dg y0 with ⟨a01, a02, a03⟩ | ⟨a01, a03⟩ | ⟨a01, a02, a03⟩ <;> simp [FK, own_n0, own_n1, *] : v22 = j20)).2 ?_
       refine A.iconst (q := 139) (v := (1 : Int32)) at_138 rfl (by decide) ?_
       refine A.goto (r := 143) at_139 (by decide) ?_
       exact A.retZ (v := 1) at_143 (by decide) (by decide) (by decide) rfl
     · refine A.aload (q := 122) at_120 rfl rfl rfl ?_
       refine A.iload (q := 124) at_122 rfl rfl ?_
       refine A.iload (q := 126) at_124 rfl rfl ?_
       refine A.callS (q := 129) (w1 := 2) (w2 := 3) (w3 := 4) (w4 := 5) (as := [(.ref b1), (.int (0 : Int32)), (.int (2 : Int32))]) (st := []) (W := 0) at_126 rfl rfl rfl rfl rfl (rmI_3 l Z a0 hw n0 b1 v2 v3 v4 v5 _) (by decide) ⟨_, _, pd_2, rfl⟩ rfl rfl rfl (by decide) (by decide) (by decide) (by decide) ?_
       rintro _ T _ ⟨rfl, rfl⟩ A
       show Go p e below _ (T.setTop (mkF m 129 #[.val (.int y0), .val (.int y1), .val (.int y2), .val (.int y3), .val (.int rg), .val (.ref b1), .val (.int (0 : Int32)), .val (.int (2 : Int32)), .val (.int j20), .unset] [(.int (FI_3 v2 v3))]))
       obtain ⟨v23, e23⟩ : ∃ v : Int32, (FI_3 v2 v3) = v := ⟨_, rfl⟩
       rw [e23]
       refine A.istore (q := 131) (l' := #[.val (.int y0), .val (.int y1), .val (.int y2), .val (.int y3), .val (.int rg), .val (.ref b1), .val (.int (0 : Int32)), .val (.int (2 : Int32)), .val (.int j20), .val (.int v23)]) at_129 rfl rfl ?_
       refine A.iload (q := 133) at_131 rfl rfl ?_
       refine A.iload (q := 135) at_133 rfl rfl ?_
       refine A.icmpF (q := 138) at_135 rfl (teq (by subst e2 e3 e4 e5 e6 e8 e9 ej20 e23; rcases own_dg y0 with ⟨a01, a02, a03⟩ | ⟨a01, a03⟩ | ⟨a01, a02, a03⟩ <;> rcases own_dg y1 with ⟨a11, a12, a13⟩ | ⟨a11, a13⟩ | ⟨a11, a12, a13⟩ <;> simp [FI_3, FK, own_n0, own_n1, *] : v23 = j20)).2 ?_
       refine A.iconst (q := 139) (v := (1 : Int32)) at_138 rfl (by decide) ?_
       refine A.goto (r := 143) at_139 (by decide) ?_
       exact A.retZ (v := 1) at_143 (by decide) (by decide) (by decide) rfl
     · refine A.aload (q := 122) at_120 rfl rfl rfl ?_
       refine A.iload (q := 124) at_122 rfl rfl ?_
       refine A.iload (q := 126) at_124 rfl rfl ?_
       refine A.callS (q := 129) (w1 := 2) (w2 := 3) (w3 := 4) (w4 := 5) (as := [(.ref b1), (.int (0 : Int32)), (.int (3 : Int32))]) (st := []) (W := 0) at_126 rfl rfl rfl rfl rfl (rmI_4 l Z a0 hw n0 b1 v2 v3 v4 v5 _) (by decide) ⟨_, _, pd_2, rfl⟩ rfl rfl rfl (by decide) (by decide) (by decide) (by decide) ?_
       rintro _ T _ ⟨rfl, rfl⟩ A
       show Go p e below _ (T.setTop (mkF m 129 #[.val (.int y0), .val (.int y1), .val (.int y2), .val (.int y3), .val (.int rg), .val (.ref b1), .val (.int (0 : Int32)), .val (.int (3 : Int32)), .val (.int j20), .unset] [(.int (FI_4 v2 v3 v4))]))
       obtain ⟨v24, e24⟩ : ∃ v : Int32, (FI_4 v2 v3 v4) = v := ⟨_, rfl⟩
       rw [e24]
       refine A.istore (q := 131) (l' := #[.val (.int y0), .val (.int y1), .val (.int y2), .val (.int y3), .val (.int rg), .val (.ref b1), .val (.int (0 : Int32)), .val (.int (3 : Int32)), .val (.int j20), .val (.int v24)]) at_129 rfl rfl ?_
       refine A.iload (q := 133) at_131 rfl rfl ?_
       refine A.iload (q := 135) at_133 rfl rfl ?_
       refine A.icmpF (q := 138) at_135 rfl (teq (by subst e2 e3 e4 e5 e6 e8 e9 ej20 e24; rcases own_dg y0 with ⟨a01, a02, a03⟩ | ⟨a01, a03⟩ | ⟨a01, a02, a03⟩ <;> rcases own_dg y1 with ⟨a11, a12, a13⟩ | ⟨a11, a13⟩ | ⟨a11, a12, a13⟩ <;> rcases own_dg y2 with ⟨a21, a22, a23⟩ | ⟨a21, a23⟩ | ⟨a21, a22, a23⟩ <;> simp [FI_4, FK, own_n0, own_n1, *] : v24 = j20)).2 ?_
       refine A.iconst (q := 139) (v := (1 : Int32)) at_138 rfl (by decide) ?_
       refine A.goto (r := 143) at_139 (by decide) ?_
       exact A.retZ (v := 1) at_143 (by decide) (by decide) (by decide) rfl
     · refine A.aload (q := 122) at_120 rfl rfl rfl ?_
       refine A.iload (q := 124) at_122 rfl rfl ?_
       refine A.iload (q := 126) at_124 rfl rfl ?_
       refine A.callS (q := 129) (w1 := 2) (w2 := 3) (w3 := 4) (w4 := 5) (as := [(.ref b1), (.int (0 : Int32)), (.int (4 : Int32))]) (st := []) (W := 0) at_126 rfl rfl rfl rfl rfl (rmI_5 l Z a0 hw n0 b1 v2 v3 v4 v5 _) (by decide) ⟨_, _, pd_2, rfl⟩ rfl rfl rfl (by decide) (by decide) (by decide) (by decide) ?_
       rintro _ T _ ⟨rfl, rfl⟩ A
       show Go p e below _ (T.setTop (mkF m 129 #[.val (.int y0), .val (.int y1), .val (.int y2), .val (.int y3), .val (.int rg), .val (.ref b1), .val (.int (0 : Int32)), .val (.int (4 : Int32)), .val (.int j20), .unset] [(.int (FI_5 v2 v3 v4 v5))]))
       obtain ⟨v25, e25⟩ : ∃ v : Int32, (FI_5 v2 v3 v4 v5) = v := ⟨_, rfl⟩
       rw [e25]
       refine A.istore (q := 131) (l' := #[.val (.int y0), .val (.int y1), .val (.int y2), .val (.int y3), .val (.int rg), .val (.ref b1), .val (.int (0 : Int32)), .val (.int (4 : Int32)), .val (.int j20), .val (.int v25)]) at_129 rfl rfl ?_
       refine A.iload (q := 133) at_131 rfl rfl ?_
       refine A.iload (q := 135) at_133 rfl rfl ?_
       refine A.icmpF (q := 138) at_135 rfl (teq (by subst e2 e3 e4 e5 e6 e8 e9 ej20 e25; rcases own_dg y0 with ⟨a01, a02, a03⟩ | ⟨a01, a03⟩ | ⟨a01, a02, a03⟩ <;> rcases own_dg y1 with ⟨a11, a12, a13⟩ | ⟨a11, a13⟩ | ⟨a11, a12, a13⟩ <;> rcases own_dg y2 with ⟨a21, a22, a23⟩ | ⟨a21, a23⟩ | ⟨a21, a22, a23⟩ <;> rcases own_dg y3 with ⟨a31, a32, a33⟩ | ⟨a31, a33⟩ | ⟨a31, a32, a33⟩ <;> simp [FI_5, FK, own_n0, own_n1, *] : v25 = j20)).2 ?_
       refine A.iconst (q := 139) (v := (1 : Int32)) at_138 rfl (by decide) ?_
       refine A.goto (r := 143) at_139 (by decide) ?_
       exact A.retZ (v := 1) at_143 (by decide) (by decide) (by decide) rfl
   · have hn : v10 = 0 ∨ v10 = 1 ∨ v10 = 2 ∨ v10 = 3 ∨ v10 = 4 := by subst e2 e3 e4 e5 e6 e8 e9 e10; exact own_r5 (own_modb _ 5 5 (by decide) (by decide))
     rcases hn with rfl | rfl | rfl | rfl | rfl
     · refine A.aload (q := 122) at_120 rfl rfl rfl ?_
       refine A.iload (q := 124) at_122 rfl rfl ?_
       refine A.iload (q := 126) at_124 rfl rfl ?_
       refine A.callS (q := 129) (w1 := 2) (w2 := 3) (w3 := 4) (w4 := 5) (as := [(.ref b1), (.int (1 : Int32)), (.int (0 : Int32))]) (st := []) (W := 0) at_126 rfl rfl rfl rfl rfl (rmI_6 l Z a0 hw n0 b1 v2 v3 v4 v5 _) (by decide) ⟨_, _, pd_2, rfl⟩ rfl rfl rfl (by decide) (by decide) (by decide) (by decide) ?_
       rintro _ T _ ⟨rfl, rfl⟩ A
       show Go p e below _ (T.setTop (mkF m 129 #[.val (.int y0), .val (.int y1), .val (.int y2), .val (.int y3), .val (.int rg), .val (.ref b1), .val (.int (1 : Int32)), .val (.int (0 : Int32)), .val (.int j20), .unset] [(.int (0 : Int32))]))
       refine A.istore (q := 131) (l' := #[.val (.int y0), .val (.int y1), .val (.int y2), .val (.int y3), .val (.int rg), .val (.ref b1), .val (.int (1 : Int32)), .val (.int (0 : Int32)), .val (.int j20), .val (.int (0 : Int32))]) at_129 rfl rfl ?_
       refine A.iload (q := 133) at_131 rfl rfl ?_
       refine A.iload (q := 135) at_133 rfl rfl ?_
       refine A.icmpF (q := 138) at_135 rfl (teq (by subst e2 e3 e4 e5 e6 e8 e9 ej20; simp [FK, own_n0, own_n1] : (0 : Int32) = j20)).2 ?_
       refine A.iconst (q := 139) (v := (1 : Int32)) at_138 rfl (by decide) ?_
       refine A.goto (r := 143) at_139 (by decide) ?_
       exact A.retZ (v := 1) at_143 (by decide) (by decide) (by decide) rfl
     · refine A.aload (q := 122) at_120 rfl rfl rfl ?_
       refine A.iload (q := 124) at_122 rfl rfl ?_
       refine A.iload (q := 126) at_124 rfl rfl ?_
       refine A.callS (q := 129) (w1 := 2) (w2 := 3) (w3 := 4) (w4 := 5) (as := [(.ref b1), (.int (1 : Int32)), (.int (1 : Int32))]) (st := []) (W := 0) at_126 rfl rfl rfl rfl rfl (rmI_7 l Z a0 hw n0 b1 v2 v3 v4 v5 _) (by decide) ⟨_, _, pd_2, rfl⟩ rfl rfl rfl (by decide) (by decide) (by decide) (by decide) ?_
       rintro _ T _ ⟨rfl, rfl⟩ A
       show Go p e below _ (T.setTop (mkF m 129 #[.val (.int y0), .val (.int y1), .val (.int y2), .val (.int y3), .val (.int rg), .val (.ref b1), .val (.int (1 : Int32)), .val (.int (1 : Int32)), .val (.int j20), .unset] [(.int (0 : Int32))]))
       refine A.istore (q := 131) (l' := #[.val (.int y0), .val (.int y1), .val (.int y2), .val (.int y3), .val (.int rg), .val (.ref b1), .val (.int (1 : Int32)), .val (.int (1 : Int32)), .val (.int j20), .val (.int (0 : Int32))]) at_129 rfl rfl ?_
       refine A.iload (q := 133) at_131 rfl rfl ?_
       refine A.iload (q := 135) at_133 rfl rfl ?_
       refine A.icmpF (q := 138) at_135 rfl (teq (by subst e2 e3 e4 e5 e6 e8 e9 ej20; simp [FK, own_n0, own_n1] : (0 : Int32) = j20)).2 ?_
       refine A.iconst (q := 139) (v := (1 : Int32)) at_138 rfl (by decide) ?_
       refine A.goto (r := 143) at_139 (by decide) ?_
       exact A.retZ (v := 1) at_143 (by decide) (by decide) (by decide) rfl
     · refine A.aload (q := 122) at_120 rfl rfl rfl ?_
       refine A.iload (q := 124) at_122 rfl rfl ?_
       refine A.iload (q := 126) at_124 rfl rfl ?_
       refine A.callS (q := 129) (w1 := 2) (w2 := 3) (w3 := 4) (w4 := 5) (as := [(.ref b1), (.int (1 : Int32)), (.int (2 : Int32))]) (st := []) (W := 0) at_126 rfl rfl rfl rfl rfl (rmI_8 l Z a0 hw n0 b1 v2 v3 v4 v5 _) (by decide) ⟨_, _, pd_2, rfl⟩ rfl rfl rfl (by decide) (by decide) (by decide) (by decide) ?_
       rintro _ T _ ⟨rfl, rfl⟩ A
       show Go p e below _ (T.setTop (mkF m 129 #[.val (.int y0), .val (.int y1), .val (.int y2), .val (.int y3), .val (.int rg), .val (.ref b1), .val (.int (1 : Int32)), .val (.int (2 : Int32)), .val (.int j20), .unset] [(.int ((if v3 < (48 : Int32) then (0 : Int32) else (if (57 : Int32) < v3 then (0 : Int32) else (1 : Int32)))))]))
       obtain ⟨v26, e26⟩ : ∃ v : Int32, ((if v3 < (48 : Int32) then (0 : Int32) else (if (57 : Int32) < v3 then (0 : Int32) else (1 : Int32)))) = v := ⟨_, rfl⟩
       rw [e26]
       refine A.istore (q := 131) (l' := #[.val (.int y0), .val (.int y1), .val (.int y2), .val (.int y3), .val (.int rg), .val (.ref b1), .val (.int (1 : Int32)), .val (.int (2 : Int32)), .val (.int j20), .val (.int v26)]) at_129 rfl rfl ?_
       refine A.iload (q := 133) at_131 rfl rfl ?_
       refine A.iload (q := 135) at_133 rfl rfl ?_
       refine A.icmpF (q := 138) at_135 rfl (teq (by subst e2 e3 e4 e5 e6 e8 e9 ej20 e26; rcases own_dg y1 with ⟨a11, a12, a13⟩ | ⟨a11, a13⟩ | ⟨a11, a12, a13⟩ <;> simp [FK, own_n0, own_n1, *] : v26 = j20)).2 ?_
       refine A.iconst (q := 139) (v := (1 : Int32)) at_138 rfl (by decide) ?_
       refine A.goto (r := 143) at_139 (by decide) ?_
       exact A.retZ (v := 1) at_143 (by decide) (by decide) (by decide) rfl
     · refine A.aload (q := 122) at_120 rfl rfl rfl ?_
       refine A.iload (q := 124) at_122 rfl rfl ?_
       refine A.iload (q := 126) at_124 rfl rfl ?_
       refine A.callS (q := 129) (w1 := 2) (w2 := 3) (w3 := 4) (w4 := 5) (as := [(.ref b1), (.int (1 : Int32)), (.int (3 : Int32))]) (st := []) (W := 0) at_126 rfl rfl rfl rfl rfl (rmI_9 l Z a0 hw n0 b1 v2 v3 v4 v5 _) (by decide) ⟨_, _, pd_2, rfl⟩ rfl rfl rfl (by decide) (by decide) (by decide) (by decide) ?_
       rintro _ T _ ⟨rfl, rfl⟩ A
       show Go p e below _ (T.setTop (mkF m 129 #[.val (.int y0), .val (.int y1), .val (.int y2), .val (.int y3), .val (.int rg), .val (.ref b1), .val (.int (1 : Int32)), .val (.int (3 : Int32)), .val (.int j20), .unset] [(.int (FI_9 v3 v4))]))
       obtain ⟨v27, e27⟩ : ∃ v : Int32, (FI_9 v3 v4) = v := ⟨_, rfl⟩
       rw [e27]
       refine A.istore (q := 131) (l' := #[.val (.int y0), .val (.int y1), .val (.int y2), .val (.int y3), .val (.int rg), .val (.ref b1), .val (.int (1 : Int32)), .val (.int (3 : Int32)), .val (.int j20), .val (.int v27)]) at_129 rfl rfl ?_
       refine A.iload (q := 133) at_131 rfl rfl ?_
       refine A.iload (q := 135) at_133 rfl rfl ?_
       refine A.icmpF (q := 138) at_135 rfl (teq (by subst e2 e3 e4 e5 e6 e8 e9 ej20 e27; rcases own_dg y1 with ⟨a11, a12, a13⟩ | ⟨a11, a13⟩ | ⟨a11, a12, a13⟩ <;> rcases own_dg y2 with ⟨a21, a22, a23⟩ | ⟨a21, a23⟩ | ⟨a21, a22, a23⟩ <;> simp [FI_9, FK, own_n0, own_n1, *] : v27 = j20)).2 ?_
       refine A.iconst (q := 139) (v := (1 : Int32)) at_138 rfl (by decide) ?_
       refine A.goto (r := 143) at_139 (by decide) ?_
       exact A.retZ (v := 1) at_143 (by decide) (by decide) (by decide) rfl
     · refine A.aload (q := 122) at_120 rfl rfl rfl ?_
       refine A.iload (q := 124) at_122 rfl rfl ?_
       refine A.iload (q := 126) at_124 rfl rfl ?_
       refine A.callS (q := 129) (w1 := 2) (w2 := 3) (w3 := 4) (w4 := 5) (as := [(.ref b1), (.int (1 : Int32)), (.int (4 : Int32))]) (st := []) (W := 0) at_126 rfl rfl rfl rfl rfl (rmI_10 l Z a0 hw n0 b1 v2 v3 v4 v5 _) (by decide) ⟨_, _, pd_2, rfl⟩ rfl rfl rfl (by decide) (by decide) (by decide) (by decide) ?_
       rintro _ T _ ⟨rfl, rfl⟩ A
       show Go p e below _ (T.setTop (mkF m 129 #[.val (.int y0), .val (.int y1), .val (.int y2), .val (.int y3), .val (.int rg), .val (.ref b1), .val (.int (1 : Int32)), .val (.int (4 : Int32)), .val (.int j20), .unset] [(.int (FI_10 v3 v4 v5))]))
       obtain ⟨v28, e28⟩ : ∃ v : Int32, (FI_10 v3 v4 v5) = v := ⟨_, rfl⟩
       rw [e28]
       refine A.istore (q := 131) (l' := #[.val (.int y0), .val (.int y1), .val (.int y2), .val (.int y3), .val (.int rg), .val (.ref b1), .val (.int (1 : Int32)), .val (.int (4 : Int32)), .val (.int j20), .val (.int v28)]) at_129 rfl rfl ?_
       refine A.iload (q := 133) at_131 rfl rfl ?_
       refine A.iload (q := 135) at_133 rfl rfl ?_
       refine A.icmpF (q := 138) at_135 rfl (teq (by subst e2 e3 e4 e5 e6 e8 e9 ej20 e28; rcases own_dg y1 with ⟨a11, a12, a13⟩ | ⟨a11, a13⟩ | ⟨a11, a12, a13⟩ <;> rcases own_dg y2 with ⟨a21, a22, a23⟩ | ⟨a21, a23⟩ | ⟨a21, a22, a23⟩ <;> rcases own_dg y3 with ⟨a31, a32, a33⟩ | ⟨a31, a33⟩ | ⟨a31, a32, a33⟩ <;> simp [FI_10, FK, own_n0, own_n1, *] : v28 = j20)).2 ?_
       refine A.iconst (q := 139) (v := (1 : Int32)) at_138 rfl (by decide) ?_
       refine A.goto (r := 143) at_139 (by decide) ?_
       exact A.retZ (v := 1) at_143 (by decide) (by decide) (by decide) rfl
   · have hn : v10 = 0 ∨ v10 = 1 ∨ v10 = 2 ∨ v10 = 3 ∨ v10 = 4 := by subst e2 e3 e4 e5 e6 e8 e9 e10; exact own_r5 (own_modb _ 5 5 (by decide) (by decide))
     rcases hn with rfl | rfl | rfl | rfl | rfl
     · refine A.aload (q := 122) at_120 rfl rfl rfl ?_
       refine A.iload (q := 124) at_122 rfl rfl ?_
       refine A.iload (q := 126) at_124 rfl rfl ?_
       refine A.callS (q := 129) (w1 := 2) (w2 := 3) (w3 := 4) (w4 := 5) (as := [(.ref b1), (.int (2 : Int32)), (.int (0 : Int32))]) (st := []) (W := 0) at_126 rfl rfl rfl rfl rfl (rmI_11 l Z a0 hw n0 b1 v2 v3 v4 v5 _) (by decide) ⟨_, _, pd_2, rfl⟩ rfl rfl rfl (by decide) (by decide) (by decide) (by decide) ?_
       rintro _ T _ ⟨rfl, rfl⟩ A
       show Go p e below _ (T.setTop (mkF m 129 #[.val (.int y0), .val (.int y1), .val (.int y2), .val (.int y3), .val (.int rg), .val (.ref b1), .val (.int (2 : Int32)), .val (.int (0 : Int32)), .val (.int j20), .unset] [(.int (0 : Int32))]))
       refine A.istore (q := 131) (l' := #[.val (.int y0), .val (.int y1), .val (.int y2), .val (.int y3), .val (.int rg), .val (.ref b1), .val (.int (2 : Int32)), .val (.int (0 : Int32)), .val (.int j20), .val (.int (0 : Int32))]) at_129 rfl rfl ?_
       refine A.iload (q := 133) at_131 rfl rfl ?_
       refine A.iload (q := 135) at_133 rfl rfl ?_
       refine A.icmpF (q := 138) at_135 rfl (teq (by subst e2 e3 e4 e5 e6 e8 e9 ej20; simp [FK, own_n0, own_n1] : (0 : Int32) = j20)).2 ?_
       refine A.iconst (q := 139) (v := (1 : Int32)) at_138 rfl (by decide) ?_
       refine A.goto (r := 143) at_139 (by decide) ?_
       exact A.retZ (v := 1) at_143 (by decide) (by decide) (by decide) rfl
     · refine A.aload (q := 122) at_120 rfl rfl rfl ?_
       refine A.iload (q := 124) at_122 rfl rfl ?_
       refine A.iload (q := 126) at_124 rfl rfl ?_
       refine A.callS (q := 129) (w1 := 2) (w2 := 3) (w3 := 4) (w4 := 5) (as := [(.ref b1), (.int (2 : Int32)), (.int (1 : Int32))]) (st := []) (W := 0) at_126 rfl rfl rfl rfl rfl (rmI_12 l Z a0 hw n0 b1 v2 v3 v4 v5 _) (by decide) ⟨_, _, pd_2, rfl⟩ rfl rfl rfl (by decide) (by decide) (by decide) (by decide) ?_
       rintro _ T _ ⟨rfl, rfl⟩ A
       show Go p e below _ (T.setTop (mkF m 129 #[.val (.int y0), .val (.int y1), .val (.int y2), .val (.int y3), .val (.int rg), .val (.ref b1), .val (.int (2 : Int32)), .val (.int (1 : Int32)), .val (.int j20), .unset] [(.int (0 : Int32))]))
       refine A.istore (q := 131) (l' := #[.val (.int y0), .val (.int y1), .val (.int y2), .val (.int y3), .val (.int rg), .val (.ref b1), .val (.int (2 : Int32)), .val (.int (1 : Int32)), .val (.int j20), .val (.int (0 : Int32))]) at_129 rfl rfl ?_
       refine A.iload (q := 133) at_131 rfl rfl ?_
       refine A.iload (q := 135) at_133 rfl rfl ?_
       refine A.icmpF (q := 138) at_135 rfl (teq (by subst e2 e3 e4 e5 e6 e8 e9 ej20; simp [FK, own_n0, own_n1] : (0 : Int32) = j20)).2 ?_
       refine A.iconst (q := 139) (v := (1 : Int32)) at_138 rfl (by decide) ?_
       refine A.goto (r := 143) at_139 (by decide) ?_
       exact A.retZ (v := 1) at_143 (by decide) (by decide) (by decide) rfl
     · refine A.aload (q := 122) at_120 rfl rfl rfl ?_
       refine A.iload (q := 124) at_122 rfl rfl ?_
       refine A.iload (q := 126) at_124 rfl rfl ?_
       refine A.callS (q := 129) (w1 := 2) (w2 := 3) (w3 := 4) (w4 := 5) (as := [(.ref b1), (.int (2 : Int32)), (.int (2 : Int32))]) (st := []) (W := 0) at_126 rfl rfl rfl rfl rfl (rmI_13 l Z a0 hw n0 b1 v2 v3 v4 v5 _) (by decide) ⟨_, _, pd_2, rfl⟩ rfl rfl rfl (by decide) (by decide) (by decide) (by decide) ?_
       rintro _ T _ ⟨rfl, rfl⟩ A
       show Go p e below _ (T.setTop (mkF m 129 #[.val (.int y0), .val (.int y1), .val (.int y2), .val (.int y3), .val (.int rg), .val (.ref b1), .val (.int (2 : Int32)), .val (.int (2 : Int32)), .val (.int j20), .unset] [(.int (0 : Int32))]))
       refine A.istore (q := 131) (l' := #[.val (.int y0), .val (.int y1), .val (.int y2), .val (.int y3), .val (.int rg), .val (.ref b1), .val (.int (2 : Int32)), .val (.int (2 : Int32)), .val (.int j20), .val (.int (0 : Int32))]) at_129 rfl rfl ?_
       refine A.iload (q := 133) at_131 rfl rfl ?_
       refine A.iload (q := 135) at_133 rfl rfl ?_
       refine A.icmpF (q := 138) at_135 rfl (teq (by subst e2 e3 e4 e5 e6 e8 e9 ej20; simp [FK, own_n0, own_n1] : (0 : Int32) = j20)).2 ?_
       refine A.iconst (q := 139) (v := (1 : Int32)) at_138 rfl (by decide) ?_
       refine A.goto (r := 143) at_139 (by decide) ?_
       exact A.retZ (v := 1) at_143 (by decide) (by decide) (by decide) rfl
     · refine A.aload (q := 122) at_120 rfl rfl rfl ?_
       refine A.iload (q := 124) at_122 rfl rfl ?_
       refine A.iload (q := 126) at_124 rfl rfl ?_
       refine A.callS (q := 129) (w1 := 2) (w2 := 3) (w3 := 4) (w4 := 5) (as := [(.ref b1), (.int (2 : Int32)), (.int (3 : Int32))]) (st := []) (W := 0) at_126 rfl rfl rfl rfl rfl (rmI_14 l Z a0 hw n0 b1 v2 v3 v4 v5 _) (by decide) ⟨_, _, pd_2, rfl⟩ rfl rfl rfl (by decide) (by decide) (by decide) (by decide) ?_
       rintro _ T _ ⟨rfl, rfl⟩ A
       show Go p e below _ (T.setTop (mkF m 129 #[.val (.int y0), .val (.int y1), .val (.int y2), .val (.int y3), .val (.int rg), .val (.ref b1), .val (.int (2 : Int32)), .val (.int (3 : Int32)), .val (.int j20), .unset] [(.int ((if v4 < (48 : Int32) then (0 : Int32) else (if (57 : Int32) < v4 then (0 : Int32) else (1 : Int32)))))]))
       obtain ⟨v29, e29⟩ : ∃ v : Int32, ((if v4 < (48 : Int32) then (0 : Int32) else (if (57 : Int32) < v4 then (0 : Int32) else (1 : Int32)))) = v := ⟨_, rfl⟩
       rw [e29]
       refine A.istore (q := 131) (l' := #[.val (.int y0), .val (.int y1), .val (.int y2), .val (.int y3), .val (.int rg), .val (.ref b1), .val (.int (2 : Int32)), .val (.int (3 : Int32)), .val (.int j20), .val (.int v29)]) at_129 rfl rfl ?_
       refine A.iload (q := 133) at_131 rfl rfl ?_
       refine A.iload (q := 135) at_133 rfl rfl ?_
       refine A.icmpF (q := 138) at_135 rfl (teq (by subst e2 e3 e4 e5 e6 e8 e9 ej20 e29; rcases own_dg y2 with ⟨a21, a22, a23⟩ | ⟨a21, a23⟩ | ⟨a21, a22, a23⟩ <;> simp [FK, own_n0, own_n1, *] : v29 = j20)).2 ?_
       refine A.iconst (q := 139) (v := (1 : Int32)) at_138 rfl (by decide) ?_
       refine A.goto (r := 143) at_139 (by decide) ?_
       exact A.retZ (v := 1) at_143 (by decide) (by decide) (by decide) rfl
     · refine A.aload (q := 122) at_120 rfl rfl rfl ?_
       refine A.iload (q := 124) at_122 rfl rfl ?_
       refine A.iload (q := 126) at_124 rfl rfl ?_
       refine A.callS (q := 129) (w1 := 2) (w2 := 3) (w3 := 4) (w4 := 5) (as := [(.ref b1), (.int (2 : Int32)), (.int (4 : Int32))]) (st := []) (W := 0) at_126 rfl rfl rfl rfl rfl (rmI_15 l Z a0 hw n0 b1 v2 v3 v4 v5 _) (by decide) ⟨_, _, pd_2, rfl⟩ rfl rfl rfl (by decide) (by decide) (by decide) (by decide) ?_
       rintro _ T _ ⟨rfl, rfl⟩ A
       show Go p e below _ (T.setTop (mkF m 129 #[.val (.int y0), .val (.int y1), .val (.int y2), .val (.int y3), .val (.int rg), .val (.ref b1), .val (.int (2 : Int32)), .val (.int (4 : Int32)), .val (.int j20), .unset] [(.int (FI_15 v4 v5))]))
       obtain ⟨v30, e30⟩ : ∃ v : Int32, (FI_15 v4 v5) = v := ⟨_, rfl⟩
       rw [e30]
       refine A.istore (q := 131) (l' := #[.val (.int y0), .val (.int y1), .val (.int y2), .val (.int y3), .val (.int rg), .val (.ref b1), .val (.int (2 : Int32)), .val (.int (4 : Int32)), .val (.int j20), .val (.int v30)]) at_129 rfl rfl ?_
       refine A.iload (q := 133) at_131 rfl rfl ?_
       refine A.iload (q := 135) at_133 rfl rfl ?_
       refine A.icmpF (q := 138) at_135 rfl (teq (by subst e2 e3 e4 e5 e6 e8 e9 ej20 e30; rcases own_dg y2 with ⟨a21, a22, a23⟩ | ⟨a21, a23⟩ | ⟨a21, a22, a23⟩ <;> rcases own_dg y3 with ⟨a31, a32, a33⟩ | ⟨a31, a33⟩ | ⟨a31, a32, a33⟩ <;> simp [FI_15, FK, own_n0, own_n1, *] : v30 = j20)).2 ?_
       refine A.iconst (q := 139) (v := (1 : Int32)) at_138 rfl (by decide) ?_
       refine A.goto (r := 143) at_139 (by decide) ?_
       exact A.retZ (v := 1) at_143 (by decide) (by decide) (by decide) rfl
   · have hn : v10 = 0 ∨ v10 = 1 ∨ v10 = 2 ∨ v10 = 3 ∨ v10 = 4 := by subst e2 e3 e4 e5 e6 e8 e9 e10; exact own_r5 (own_modb _ 5 5 (by decide) (by decide))
     rcases hn with rfl | rfl | rfl | rfl | rfl
     · refine A.aload (q := 122) at_120 rfl rfl rfl ?_
       refine A.iload (q := 124) at_122 rfl rfl ?_
       refine A.iload (q := 126) at_124 rfl rfl ?_
       refine A.callS (q := 129) (w1 := 2) (w2 := 3) (w3 := 4) (w4 := 5) (as := [(.ref b1), (.int (3 : Int32)), (.int (0 : Int32))]) (st := []) (W := 0) at_126 rfl rfl rfl rfl rfl (rmI_16 l Z a0 hw n0 b1 v2 v3 v4 v5 _) (by decide) ⟨_, _, pd_2, rfl⟩ rfl rfl rfl (by decide) (by decide) (by decide) (by decide) ?_
       rintro _ T _ ⟨rfl, rfl⟩ A
       show Go p e below _ (T.setTop (mkF m 129 #[.val (.int y0), .val (.int y1), .val (.int y2), .val (.int y3), .val (.int rg), .val (.ref b1), .val (.int (3 : Int32)), .val (.int (0 : Int32)), .val (.int j20), .unset] [(.int (0 : Int32))]))
       refine A.istore (q := 131) (l' := #[.val (.int y0), .val (.int y1), .val (.int y2), .val (.int y3), .val (.int rg), .val (.ref b1), .val (.int (3 : Int32)), .val (.int (0 : Int32)), .val (.int j20), .val (.int (0 : Int32))]) at_129 rfl rfl ?_
       refine A.iload (q := 133) at_131 rfl rfl ?_
       refine A.iload (q := 135) at_133 rfl rfl ?_
       refine A.icmpF (q := 138) at_135 rfl (teq (by subst e2 e3 e4 e5 e6 e8 e9 ej20; simp [FK, own_n0, own_n1] : (0 : Int32) = j20)).2 ?_
       refine A.iconst (q := 139) (v := (1 : Int32)) at_138 rfl (by decide) ?_
       refine A.goto (r := 143) at_139 (by decide) ?_
       exact A.retZ (v := 1) at_143 (by decide) (by decide) (by decide) rfl
     · refine A.aload (q := 122) at_120 rfl rfl rfl ?_
       refine A.iload (q := 124) at_122 rfl rfl ?_
       refine A.iload (q := 126) at_124 rfl rfl ?_
       refine A.callS (q := 129) (w1 := 2) (w2 := 3) (w3 := 4) (w4 := 5) (as := [(.ref b1), (.int (3 : Int32)), (.int (1 : Int32))]) (st := []) (W := 0) at_126 rfl rfl rfl rfl rfl (rmI_17 l Z a0 hw n0 b1 v2 v3 v4 v5 _) (by decide) ⟨_, _, pd_2, rfl⟩ rfl rfl rfl (by decide) (by decide) (by decide) (by decide) ?_
       rintro _ T _ ⟨rfl, rfl⟩ A
       show Go p e below _ (T.setTop (mkF m 129 #[.val (.int y0), .val (.int y1), .val (.int y2), .val (.int y3), .val (.int rg), .val (.ref b1), .val (.int (3 : Int32)), .val (.int (1 : Int32)), .val (.int j20), .unset] [(.int (0 : Int32))]))
       refine A.istore (q := 131) (l' := #[.val (.int y0), .val (.int y1), .val (.int y2), .val (.int y3), .val (.int rg), .val (.ref b1), .val (.int (3 : Int32)), .val (.int (1 : Int32)), .val (.int j20), .val (.int (0 : Int32))]) at_129 rfl rfl ?_
       refine A.iload (q := 133) at_131 rfl rfl ?_
       refine A.iload (q := 135) at_133 rfl rfl ?_
       refine A.icmpF (q := 138) at_135 rfl (teq (by subst e2 e3 e4 e5 e6 e8 e9 ej20; simp [FK, own_n0, own_n1] : (0 : Int32) = j20)).2 ?_
       refine A.iconst (q := 139) (v := (1 : Int32)) at_138 rfl (by decide) ?_
       refine A.goto (r := 143) at_139 (by decide) ?_
       exact A.retZ (v := 1) at_143 (by decide) (by decide) (by decide) rfl
     · refine A.aload (q := 122) at_120 rfl rfl rfl ?_
       refine A.iload (q := 124) at_122 rfl rfl ?_
       refine A.iload (q := 126) at_124 rfl rfl ?_
       refine A.callS (q := 129) (w1 := 2) (w2 := 3) (w3 := 4) (w4 := 5) (as := [(.ref b1), (.int (3 : Int32)), (.int (2 : Int32))]) (st := []) (W := 0) at_126 rfl rfl rfl rfl rfl (rmI_18 l Z a0 hw n0 b1 v2 v3 v4 v5 _) (by decide) ⟨_, _, pd_2, rfl⟩ rfl rfl rfl (by decide) (by decide) (by decide) (by decide) ?_
       rintro _ T _ ⟨rfl, rfl⟩ A
       show Go p e below _ (T.setTop (mkF m 129 #[.val (.int y0), .val (.int y1), .val (.int y2), .val (.int y3), .val (.int rg), .val (.ref b1), .val (.int (3 : Int32)), .val (.int (2 : Int32)), .val (.int j20), .unset] [(.int (0 : Int32))]))
       refine A.istore (q := 131) (l' := #[.val (.int y0), .val (.int y1), .val (.int y2), .val (.int y3), .val (.int rg), .val (.ref b1), .val (.int (3 : Int32)), .val (.int (2 : Int32)), .val (.int j20), .val (.int (0 : Int32))]) at_129 rfl rfl ?_
       refine A.iload (q := 133) at_131 rfl rfl ?_
       refine A.iload (q := 135) at_133 rfl rfl ?_
       refine A.icmpF (q := 138) at_135 rfl (teq (by subst e2 e3 e4 e5 e6 e8 e9 ej20; simp [FK, own_n0, own_n1] : (0 : Int32) = j20)).2 ?_
       refine A.iconst (q := 139) (v := (1 : Int32)) at_138 rfl (by decide) ?_
       refine A.goto (r := 143) at_139 (by decide) ?_
       exact A.retZ (v := 1) at_143 (by decide) (by decide) (by decide) rfl
     · refine A.aload (q := 122) at_120 rfl rfl rfl ?_
       refine A.iload (q := 124) at_122 rfl rfl ?_
       refine A.iload (q := 126) at_124 rfl rfl ?_
       refine A.callS (q := 129) (w1 := 2) (w2 := 3) (w3 := 4) (w4 := 5) (as := [(.ref b1), (.int (3 : Int32)), (.int (3 : Int32))]) (st := []) (W := 0) at_126 rfl rfl rfl rfl rfl (rmI_19 l Z a0 hw n0 b1 v2 v3 v4 v5 _) (by decide) ⟨_, _, pd_2, rfl⟩ rfl rfl rfl (by decide) (by decide) (by decide) (by decide) ?_
       rintro _ T _ ⟨rfl, rfl⟩ A
       show Go p e below _ (T.setTop (mkF m 129 #[.val (.int y0), .val (.int y1), .val (.int y2), .val (.int y3), .val (.int rg), .val (.ref b1), .val (.int (3 : Int32)), .val (.int (3 : Int32)), .val (.int j20), .unset] [(.int (0 : Int32))]))
       refine A.istore (q := 131) (l' := #[.val (.int y0), .val (.int y1), .val (.int y2), .val (.int y3), .val (.int rg), .val (.ref b1), .val (.int (3 : Int32)), .val (.int (3 : Int32)), .val (.int j20), .val (.int (0 : Int32))]) at_129 rfl rfl ?_
       refine A.iload (q := 133) at_131 rfl rfl ?_
       refine A.iload (q := 135) at_133 rfl rfl ?_
       refine A.icmpF (q := 138) at_135 rfl (teq (by subst e2 e3 e4 e5 e6 e8 e9 ej20; simp [FK, own_n0, own_n1] : (0 : Int32) = j20)).2 ?_
       refine A.iconst (q := 139) (v := (1 : Int32)) at_138 rfl (by decide) ?_
       refine A.goto (r := 143) at_139 (by decide) ?_
       exact A.retZ (v := 1) at_143 (by decide) (by decide) (by decide) rfl
     · refine A.aload (q := 122) at_120 rfl rfl rfl ?_
       refine A.iload (q := 124) at_122 rfl rfl ?_
       refine A.iload (q := 126) at_124 rfl rfl ?_
       refine A.callS (q := 129) (w1 := 2) (w2 := 3) (w3 := 4) (w4 := 5) (as := [(.ref b1), (.int (3 : Int32)), (.int (4 : Int32))]) (st := []) (W := 0) at_126 rfl rfl rfl rfl rfl (rmI_20 l Z a0 hw n0 b1 v2 v3 v4 v5 _) (by decide) ⟨_, _, pd_2, rfl⟩ rfl rfl rfl (by decide) (by decide) (by decide) (by decide) ?_
       rintro _ T _ ⟨rfl, rfl⟩ A
       show Go p e below _ (T.setTop (mkF m 129 #[.val (.int y0), .val (.int y1), .val (.int y2), .val (.int y3), .val (.int rg), .val (.ref b1), .val (.int (3 : Int32)), .val (.int (4 : Int32)), .val (.int j20), .unset] [(.int ((if v5 < (48 : Int32) then (0 : Int32) else (if (57 : Int32) < v5 then (0 : Int32) else (1 : Int32)))))]))
       obtain ⟨v31, e31⟩ : ∃ v : Int32, ((if v5 < (48 : Int32) then (0 : Int32) else (if (57 : Int32) < v5 then (0 : Int32) else (1 : Int32)))) = v := ⟨_, rfl⟩
       rw [e31]
       refine A.istore (q := 131) (l' := #[.val (.int y0), .val (.int y1), .val (.int y2), .val (.int y3), .val (.int rg), .val (.ref b1), .val (.int (3 : Int32)), .val (.int (4 : Int32)), .val (.int j20), .val (.int v31)]) at_129 rfl rfl ?_
       refine A.iload (q := 133) at_131 rfl rfl ?_
       refine A.iload (q := 135) at_133 rfl rfl ?_
       refine A.icmpF (q := 138) at_135 rfl (teq (by subst e2 e3 e4 e5 e6 e8 e9 ej20 e31; rcases own_dg y3 with ⟨a31, a32, a33⟩ | ⟨a31, a33⟩ | ⟨a31, a32, a33⟩ <;> simp [FK, own_n0, own_n1, *] : v31 = j20)).2 ?_
       refine A.iconst (q := 139) (v := (1 : Int32)) at_138 rfl (by decide) ?_
       refine A.goto (r := 143) at_139 (by decide) ?_
       exact A.retZ (v := 1) at_143 (by decide) (by decide) (by decide) rfl
   · have hn : v10 = 0 ∨ v10 = 1 ∨ v10 = 2 ∨ v10 = 3 ∨ v10 = 4 := by subst e2 e3 e4 e5 e6 e8 e9 e10; exact own_r5 (own_modb _ 5 5 (by decide) (by decide))
     rcases hn with rfl | rfl | rfl | rfl | rfl
     · refine A.aload (q := 122) at_120 rfl rfl rfl ?_
       refine A.iload (q := 124) at_122 rfl rfl ?_
       refine A.iload (q := 126) at_124 rfl rfl ?_
       refine A.callS (q := 129) (w1 := 2) (w2 := 3) (w3 := 4) (w4 := 5) (as := [(.ref b1), (.int (4 : Int32)), (.int (0 : Int32))]) (st := []) (W := 0) at_126 rfl rfl rfl rfl rfl (rmI_21 l Z a0 hw n0 b1 v2 v3 v4 v5 _) (by decide) ⟨_, _, pd_2, rfl⟩ rfl rfl rfl (by decide) (by decide) (by decide) (by decide) ?_
       rintro _ T _ ⟨rfl, rfl⟩ A
       show Go p e below _ (T.setTop (mkF m 129 #[.val (.int y0), .val (.int y1), .val (.int y2), .val (.int y3), .val (.int rg), .val (.ref b1), .val (.int (4 : Int32)), .val (.int (0 : Int32)), .val (.int j20), .unset] [(.int (0 : Int32))]))
       refine A.istore (q := 131) (l' := #[.val (.int y0), .val (.int y1), .val (.int y2), .val (.int y3), .val (.int rg), .val (.ref b1), .val (.int (4 : Int32)), .val (.int (0 : Int32)), .val (.int j20), .val (.int (0 : Int32))]) at_129 rfl rfl ?_
       refine A.iload (q := 133) at_131 rfl rfl ?_
       refine A.iload (q := 135) at_133 rfl rfl ?_
       refine A.icmpF (q := 138) at_135 rfl (teq (by subst e2 e3 e4 e5 e6 e8 e9 ej20; simp [FK, own_n0, own_n1] : (0 : Int32) = j20)).2 ?_
       refine A.iconst (q := 139) (v := (1 : Int32)) at_138 rfl (by decide) ?_
       refine A.goto (r := 143) at_139 (by decide) ?_
       exact A.retZ (v := 1) at_143 (by decide) (by decide) (by decide) rfl
     · refine A.aload (q := 122) at_120 rfl rfl rfl ?_
       refine A.iload (q := 124) at_122 rfl rfl ?_
       refine A.iload (q := 126) at_124 rfl rfl ?_
       refine A.callS (q := 129) (w1 := 2) (w2 := 3) (w3 := 4) (w4 := 5) (as := [(.ref b1), (.int (4 : Int32)), (.int (1 : Int32))]) (st := []) (W := 0) at_126 rfl rfl rfl rfl rfl (rmI_22 l Z a0 hw n0 b1 v2 v3 v4 v5 _) (by decide) ⟨_, _, pd_2, rfl⟩ rfl rfl rfl (by decide) (by decide) (by decide) (by decide) ?_
       rintro _ T _ ⟨rfl, rfl⟩ A
       show Go p e below _ (T.setTop (mkF m 129 #[.val (.int y0), .val (.int y1), .val (.int y2), .val (.int y3), .val (.int rg), .val (.ref b1), .val (.int (4 : Int32)), .val (.int (1 : Int32)), .val (.int j20), .unset] [(.int (0 : Int32))]))
       refine A.istore (q := 131) (l' := #[.val (.int y0), .val (.int y1), .val (.int y2), .val (.int y3), .val (.int rg), .val (.ref b1), .val (.int (4 : Int32)), .val (.int (1 : Int32)), .val (.int j20), .val (.int (0 : Int32))]) at_129 rfl rfl ?_
       refine A.iload (q := 133) at_131 rfl rfl ?_
       refine A.iload (q := 135) at_133 rfl rfl ?_
       refine A.icmpF (q := 138) at_135 rfl (teq (by subst e2 e3 e4 e5 e6 e8 e9 ej20; simp [FK, own_n0, own_n1] : (0 : Int32) = j20)).2 ?_
       refine A.iconst (q := 139) (v := (1 : Int32)) at_138 rfl (by decide) ?_
       refine A.goto (r := 143) at_139 (by decide) ?_
       exact A.retZ (v := 1) at_143 (by decide) (by decide) (by decide) rfl
     · refine A.aload (q := 122) at_120 rfl rfl rfl ?_
       refine A.iload (q := 124) at_122 rfl rfl ?_
       refine A.iload (q := 126) at_124 rfl rfl ?_
       refine A.callS (q := 129) (w1 := 2) (w2 := 3) (w3 := 4) (w4 := 5) (as := [(.ref b1), (.int (4 : Int32)), (.int (2 : Int32))]) (st := []) (W := 0) at_126 rfl rfl rfl rfl rfl (rmI_23 l Z a0 hw n0 b1 v2 v3 v4 v5 _) (by decide) ⟨_, _, pd_2, rfl⟩ rfl rfl rfl (by decide) (by decide) (by decide) (by decide) ?_
       rintro _ T _ ⟨rfl, rfl⟩ A
       show Go p e below _ (T.setTop (mkF m 129 #[.val (.int y0), .val (.int y1), .val (.int y2), .val (.int y3), .val (.int rg), .val (.ref b1), .val (.int (4 : Int32)), .val (.int (2 : Int32)), .val (.int j20), .unset] [(.int (0 : Int32))]))
       refine A.istore (q := 131) (l' := #[.val (.int y0), .val (.int y1), .val (.int y2), .val (.int y3), .val (.int rg), .val (.ref b1), .val (.int (4 : Int32)), .val (.int (2 : Int32)), .val (.int j20), .val (.int (0 : Int32))]) at_129 rfl rfl ?_
       refine A.iload (q := 133) at_131 rfl rfl ?_
       refine A.iload (q := 135) at_133 rfl rfl ?_
       refine A.icmpF (q := 138) at_135 rfl (teq (by subst e2 e3 e4 e5 e6 e8 e9 ej20; simp [FK, own_n0, own_n1] : (0 : Int32) = j20)).2 ?_
       refine A.iconst (q := 139) (v := (1 : Int32)) at_138 rfl (by decide) ?_
       refine A.goto (r := 143) at_139 (by decide) ?_
       exact A.retZ (v := 1) at_143 (by decide) (by decide) (by decide) rfl
     · refine A.aload (q := 122) at_120 rfl rfl rfl ?_
       refine A.iload (q := 124) at_122 rfl rfl ?_
       refine A.iload (q := 126) at_124 rfl rfl ?_
       refine A.callS (q := 129) (w1 := 2) (w2 := 3) (w3 := 4) (w4 := 5) (as := [(.ref b1), (.int (4 : Int32)), (.int (3 : Int32))]) (st := []) (W := 0) at_126 rfl rfl rfl rfl rfl (rmI_24 l Z a0 hw n0 b1 v2 v3 v4 v5 _) (by decide) ⟨_, _, pd_2, rfl⟩ rfl rfl rfl (by decide) (by decide) (by decide) (by decide) ?_
       rintro _ T _ ⟨rfl, rfl⟩ A
       show Go p e below _ (T.setTop (mkF m 129 #[.val (.int y0), .val (.int y1), .val (.int y2), .val (.int y3), .val (.int rg), .val (.ref b1), .val (.int (4 : Int32)), .val (.int (3 : Int32)), .val (.int j20), .unset] [(.int (0 : Int32))]))
       refine A.istore (q := 131) (l' := #[.val (.int y0), .val (.int y1), .val (.int y2), .val (.int y3), .val (.int rg), .val (.ref b1), .val (.int (4 : Int32)), .val (.int (3 : Int32)), .val (.int j20), .val (.int (0 : Int32))]) at_129 rfl rfl ?_
       refine A.iload (q := 133) at_131 rfl rfl ?_
       refine A.iload (q := 135) at_133 rfl rfl ?_
       refine A.icmpF (q := 138) at_135 rfl (teq (by subst e2 e3 e4 e5 e6 e8 e9 ej20; simp [FK, own_n0, own_n1] : (0 : Int32) = j20)).2 ?_
       refine A.iconst (q := 139) (v := (1 : Int32)) at_138 rfl (by decide) ?_
       refine A.goto (r := 143) at_139 (by decide) ?_
       exact A.retZ (v := 1) at_143 (by decide) (by decide) (by decide) rfl
     · refine A.aload (q := 122) at_120 rfl rfl rfl ?_
       refine A.iload (q := 124) at_122 rfl rfl ?_
       refine A.iload (q := 126) at_124 rfl rfl ?_
       refine A.callS (q := 129) (w1 := 2) (w2 := 3) (w3 := 4) (w4 := 5) (as := [(.ref b1), (.int (4 : Int32)), (.int (4 : Int32))]) (st := []) (W := 0) at_126 rfl rfl rfl rfl rfl (rmI_25 l Z a0 hw n0 b1 v2 v3 v4 v5 _) (by decide) ⟨_, _, pd_2, rfl⟩ rfl rfl rfl (by decide) (by decide) (by decide) (by decide) ?_
       rintro _ T _ ⟨rfl, rfl⟩ A
       show Go p e below _ (T.setTop (mkF m 129 #[.val (.int y0), .val (.int y1), .val (.int y2), .val (.int y3), .val (.int rg), .val (.ref b1), .val (.int (4 : Int32)), .val (.int (4 : Int32)), .val (.int j20), .unset] [(.int (0 : Int32))]))
       refine A.istore (q := 131) (l' := #[.val (.int y0), .val (.int y1), .val (.int y2), .val (.int y3), .val (.int rg), .val (.ref b1), .val (.int (4 : Int32)), .val (.int (4 : Int32)), .val (.int j20), .val (.int (0 : Int32))]) at_129 rfl rfl ?_
       refine A.iload (q := 133) at_131 rfl rfl ?_
       refine A.iload (q := 135) at_133 rfl rfl ?_
       refine A.icmpF (q := 138) at_135 rfl (teq (by subst e2 e3 e4 e5 e6 e8 e9 ej20; simp [FK, own_n0, own_n1] : (0 : Int32) = j20)).2 ?_
       refine A.iconst (q := 139) (v := (1 : Int32)) at_138 rfl (by decide) ?_
       refine A.goto (r := 143) at_139 (by decide) ?_
       exact A.retZ (v := 1) at_143 (by decide) (by decide) (by decide) rfl
  refine A.iload (q := 48) at_46 rfl rfl ?_
  refine A.iload (q := 50) at_48 rfl rfl ?_
  refine A.icmp_ge (q := 53) (r := 117) at_50 rfl (by decide) (fun h11 => ?_) (fun h11 => ?_)
  · refine A.iconst (q := 118) (v := (0 : Int32)) at_117 rfl (by decide) ?_
    exact J46_20 T _ (by simp only [if_neg h11]) A
  · refine A.iconst (q := 54) (v := (0 : Int32)) at_53 rfl (by decide) ?_
    refine A.iload (q := 56) at_54 rfl rfl ?_
    refine A.iload (q := 58) at_56 rfl rfl ?_
    refine A.aload (q := 60) at_58 rfl rfl rfl ?_
    refine A.iconst (q := 61) (v := (0 : Int32)) at_60 rfl (by decide) ?_
    refine A.baloadB (q := 62) (i := 0) (v := (.int v2)) at_61 rfl rfl (by decide) rfl ?_
    refine A.callS (q := 65) (w1 := 6) (w2 := 7) (w3 := 8) (w4 := 9) (as := [(.int (0 : Int32)), (.int v7), (.int v10), (.int v2)]) (st := []) (W := 0) at_62 rfl rfl rfl rfl rfl (rmK l Z a0 hw n0 (0 : Int32) v7 v10 v2 _) (by decide) ⟨_, _, pd_1, rfl⟩ rfl rfl rfl (by decide) (by decide) (by decide) (by decide) ?_
    rintro _ T _ ⟨rfl, rfl⟩ A
    show Go p e below _ (T.setTop (mkF m 65 #[.val (.int y0), .val (.int y1), .val (.int y2), .val (.int y3), .val (.int rg), .val (.ref b1), .val (.int v7), .val (.int v10), .unset, .unset] [(.int (FK (0 : Int32) v7 v10 v2))]))
    obtain ⟨v12, e12⟩ : ∃ v : Int32, (FK (0 : Int32) v7 v10 v2) = v := ⟨_, rfl⟩
    rw [e12]
    refine A.if_eq (q := 68) (r := 117) at_65 rfl (by decide) (fun h13 => ?_) (fun h13 => ?_)
    · refine A.iconst (q := 118) (v := (0 : Int32)) at_117 rfl (by decide) ?_
      exact J46_20 T _ (by simp only [e12, if_pos h11, if_pos h13]) A
    · refine A.iconst (q := 69) (v := (1 : Int32)) at_68 rfl (by decide) ?_
      refine A.iload (q := 71) at_69 rfl rfl ?_
      refine A.iload (q := 73) at_71 rfl rfl ?_
      refine A.aload (q := 75) at_73 rfl rfl rfl ?_
      refine A.iconst (q := 76) (v := (1 : Int32)) at_75 rfl (by decide) ?_
      refine A.baloadB (q := 77) (i := 0) (v := (.int v3)) at_76 rfl rfl (by decide) rfl ?_
      refine A.callS (q := 80) (w1 := 6) (w2 := 7) (w3 := 8) (w4 := 9) (as := [(.int (1 : Int32)), (.int v7), (.int v10), (.int v3)]) (st := []) (W := 0) at_77 rfl rfl rfl rfl rfl (rmK l Z a0 hw n0 (1 : Int32) v7 v10 v3 _) (by decide) ⟨_, _, pd_1, rfl⟩ rfl rfl rfl (by decide) (by decide) (by decide) (by decide) ?_
      rintro _ T _ ⟨rfl, rfl⟩ A
      show Go p e below _ (T.setTop (mkF m 80 #[.val (.int y0), .val (.int y1), .val (.int y2), .val (.int y3), .val (.int rg), .val (.ref b1), .val (.int v7), .val (.int v10), .unset, .unset] [(.int (FK (1 : Int32) v7 v10 v3))]))
      obtain ⟨v14, e14⟩ : ∃ v : Int32, (FK (1 : Int32) v7 v10 v3) = v := ⟨_, rfl⟩
      rw [e14]
      refine A.if_eq (q := 83) (r := 117) at_80 rfl (by decide) (fun h15 => ?_) (fun h15 => ?_)
      · refine A.iconst (q := 118) (v := (0 : Int32)) at_117 rfl (by decide) ?_
        exact J46_20 T _ (by simp only [e12, e14, if_neg h13, if_pos h11, if_pos h15]) A
      · refine A.iconst (q := 84) (v := (2 : Int32)) at_83 rfl (by decide) ?_
        refine A.iload (q := 86) at_84 rfl rfl ?_
        refine A.iload (q := 88) at_86 rfl rfl ?_
        refine A.aload (q := 90) at_88 rfl rfl rfl ?_
        refine A.iconst (q := 91) (v := (2 : Int32)) at_90 rfl (by decide) ?_
        refine A.baloadB (q := 92) (i := 0) (v := (.int v4)) at_91 rfl rfl (by decide) rfl ?_
        refine A.callS (q := 95) (w1 := 6) (w2 := 7) (w3 := 8) (w4 := 9) (as := [(.int (2 : Int32)), (.int v7), (.int v10), (.int v4)]) (st := []) (W := 0) at_92 rfl rfl rfl rfl rfl (rmK l Z a0 hw n0 (2 : Int32) v7 v10 v4 _) (by decide) ⟨_, _, pd_1, rfl⟩ rfl rfl rfl (by decide) (by decide) (by decide) (by decide) ?_
        rintro _ T _ ⟨rfl, rfl⟩ A
        show Go p e below _ (T.setTop (mkF m 95 #[.val (.int y0), .val (.int y1), .val (.int y2), .val (.int y3), .val (.int rg), .val (.ref b1), .val (.int v7), .val (.int v10), .unset, .unset] [(.int (FK (2 : Int32) v7 v10 v4))]))
        obtain ⟨v16, e16⟩ : ∃ v : Int32, (FK (2 : Int32) v7 v10 v4) = v := ⟨_, rfl⟩
        rw [e16]
        refine A.if_eq (q := 98) (r := 117) at_95 rfl (by decide) (fun h17 => ?_) (fun h17 => ?_)
        · refine A.iconst (q := 118) (v := (0 : Int32)) at_117 rfl (by decide) ?_
          exact J46_20 T _ (by simp only [e12, e14, e16, if_neg h13, if_neg h15, if_pos h11, if_pos h17]) A
        · refine A.iconst (q := 99) (v := (3 : Int32)) at_98 rfl (by decide) ?_
          refine A.iload (q := 101) at_99 rfl rfl ?_
          refine A.iload (q := 103) at_101 rfl rfl ?_
          refine A.aload (q := 105) at_103 rfl rfl rfl ?_
          refine A.iconst (q := 106) (v := (3 : Int32)) at_105 rfl (by decide) ?_
          refine A.baloadB (q := 107) (i := 0) (v := (.int v5)) at_106 rfl rfl (by decide) rfl ?_
          refine A.callS (q := 110) (w1 := 6) (w2 := 7) (w3 := 8) (w4 := 9) (as := [(.int (3 : Int32)), (.int v7), (.int v10), (.int v5)]) (st := []) (W := 0) at_107 rfl rfl rfl rfl rfl (rmK l Z a0 hw n0 (3 : Int32) v7 v10 v5 _) (by decide) ⟨_, _, pd_1, rfl⟩ rfl rfl rfl (by decide) (by decide) (by decide) (by decide) ?_
          rintro _ T _ ⟨rfl, rfl⟩ A
          show Go p e below _ (T.setTop (mkF m 110 #[.val (.int y0), .val (.int y1), .val (.int y2), .val (.int y3), .val (.int rg), .val (.ref b1), .val (.int v7), .val (.int v10), .unset, .unset] [(.int (FK (3 : Int32) v7 v10 v5))]))
          obtain ⟨v18, e18⟩ : ∃ v : Int32, (FK (3 : Int32) v7 v10 v5) = v := ⟨_, rfl⟩
          rw [e18]
          refine A.if_eq (q := 113) (r := 117) at_110 rfl (by decide) (fun h19 => ?_) (fun h19 => ?_)
          · refine A.iconst (q := 118) (v := (0 : Int32)) at_117 rfl (by decide) ?_
            exact J46_20 T _ (by simp only [e12, e14, e16, e18, if_neg h13, if_neg h15, if_neg h17, if_pos h11, if_pos h19]) A
          · refine A.iconst (q := 114) (v := (1 : Int32)) at_113 rfl (by decide) ?_
            refine A.goto (r := 118) at_114 (by decide) ?_
            exact J46_20 T _ (by simp only [e12, e14, e16, e18, if_neg h13, if_neg h15, if_neg h17, if_neg h19, if_pos h11]) A
set_option maxRecDepth 65536 in
set_option maxHeartbeats 8000000 in
theorem comes_1 {Post : Tables → Env → Array Value → State → Outcome → State → Prop} (hpost : ∀ tb e args s v u, (limb_1_1.after args s (.returned v) u = true ∧ limb_1_2.after args s (.returned v) u = true ∧ True) → FrameEnd s (.returned v) u (Jvm.fieldLocs frame_1_writes args s ++ Jvm.arrayLocs frame_1_arrays args s ++ Jvm.staticLocs frame_1_statics s) 16 128 → Post tb e args s (.returned v) u) :
    ArmFor flags0 classFile x code maxLocals ret World_1 tables_1 room_1 Calls_1 rest_1 Pre_1 Post := by
  intro l hfl _ _ p e ha hc hk s m args below hf hA hF happ hP
  obtain ⟨hcalls, hrest, hpre⟩ := hP
  obtain ⟨-, -, -, hnamed, -, -, -, hat⟩ := (Spec.applies_iff hf).mp happ
  obtain ⟨hg, hn⟩ := and_e (Cond.before_iff.mp (show (Jvm.Cond.and given_1 narrow_1).before args s = true from hpre))
  obtain ⟨g1, hg⟩ := and_e hg
  obtain ⟨gv0, hg⟩ := and_e hg
  obtain ⟨gv1, hg⟩ := and_e hg
  obtain ⟨gv2, hg⟩ := and_e hg
  obtain ⟨gv3, hg⟩ := and_e hg
  have gv4 := hg
  obtain ⟨w0, w1, w2, w3, w4, rfl⟩ : ∃ w0 w1 w2 w3 w4 : Value, args = #[w0, w1, w2, w3, w4] := by
    have hs : args.size = 5 := by simpa [Cond.value, given_1] using g1
    obtain ⟨L⟩ := args
    match L, hs with
    | [w0, w1, w2, w3, w4], _ => exact ⟨w0, w1, w2, w3, w4, rfl⟩
  have hw := fun d (hd : d ∈ tables_1) => atoms_spec (ws := Jvm.Cond.code x code maxLocals ret :: tables_1) hat d (List.mem_cons_of_mem _ hd)
  obtain ⟨i0, ei0⟩ := is_v gv0
  obtain rfl : w0 = (.int i0) := Option.some.inj ei0
  obtain ⟨i1, ei1⟩ := is_v gv1
  obtain rfl : w1 = (.int i1) := Option.some.inj ei1
  obtain ⟨i2, ei2⟩ := is_v gv2
  obtain rfl : w2 = (.int i2) := Option.some.inj ei2
  obtain ⟨i3, ei3⟩ := is_v gv3
  obtain rfl : w3 = (.int i3) := Option.some.inj ei3
  obtain ⟨i4, ei4⟩ := is_v gv4
  obtain rfl : w4 = (.int i4) := Option.some.inj ei4
  obtain ⟨n, o, h1, h2, h3, _, L, rfl, ⟨N, _, L', rfl, _⟩, hq⟩ := rm0 l s _ hw s.heap.size i0 i1 i2 i3 i4 s.heap tables_1 (Nat.le_refl _) ⟨fun _ q => (nomatch q), List.nodup_nil⟩ p e ha hc hk s m _ below hf ((Spec.applies_iff_loose hf).mp happ).1 ⟨rfl, State.Warmed39.refl s, rfl⟩ trivial
  refine ⟨n, _, h1, h2, h3, hpost _ _ _ _ _ _ ⟨Cond.after_iff.mpr rfl, Cond.after_iff.mpr (eq_i res_at (Term.int_eval (1)) rfl), trivial⟩ ⟨hq.1, hq.2.1, hq.2.2.sift fun y hy => Or.inr (N y hy)⟩⟩
theorem main_1_1 : Claimed_1_1 := comes_1 fun _ _ _ _ _ _ h hF => ⟨h.1, hF⟩
theorem main_1_2 : Claimed_1_2 := comes_1 fun _ _ _ _ _ _ h hF => ⟨h.2.1, hF⟩
end Jvm.Pilot.@@N@@
namespace Jvm.Pilot.@@N@@
open Jvm Jvm.ClassFile Sem Op Lib Jvm.Free Jvm.Stand Jvm.Pilot.@@N@@.Jvm.D
/-! MADE BY PROGRAM (witnessworld.py) out of the Statement's table words and the real class files: 9 classes; the members and pool entries that the words name. The judged class is class 1, her method 1. -/
namespace start1
open Jvm.ClassFile
def u (s : String) : CpInfo := .utf8 (stringToUtf16 s)
/-- a pool by its gaps: so many unusable entries, then the entry; so many at the end -/
def gap : Nat → List CpInfo → List CpInfo
  | 0, r => r
  | n + 1, r => .unusable :: gap n r
def poolList (es : List (Nat × CpInfo)) (last : Nat) : List CpInfo := es.foldr (fun e r => gap e.1 (e.2 :: r)) (gap last [])
def pool (es : List (Nat × CpInfo)) (last : Nat) : Array CpInfo := ⟨poolList es last⟩
def fileOf (pool : Array CpInfo) (this : Nat) (attrs : Array Attribute := #[]) (ms : Array MethodInfo := #[]) (fl : Nat := 33) (sup : Nat := 0) (ifs : Array Nat := #[]) (fds : Array FieldInfo := #[]) : ClassFile where
  minorVersion := 0
  majorVersion := 65
  constantPool := pool
  accessFlags := fl
  thisClass := this
  superClass := sup
  interfaces := ifs
  fields := fds
  methods := ms
  attributes := attrs
def plain (name : String) (sup : Option ClassId) : Class where
  name := name
  kind := .ordinary
  loader := none
  accessFlags := 33
  super := sup
  interfaces := #[]
  cf := none
  fields := #[]
  methods := #[]
  instanceTypes := #[]
  staticTypes := #[]
  resolved := #[]
  callSites := []
  init := .initialized
  statics := none
  mirror := none

def pool0 : Array CpInfo := pool [(5, u "<init>"), (0, u "()V"), (1, .class_ 10), (1, u "java/lang/Object")] 113

def k0m0 : Method := { name := "<init>", desc := "()V", sig := { parameters := [], returnType := none }, accessFlags := 1, code := none }
/-- java/lang/Object -/
def k0 : Class := { plain "java/lang/Object" none with
  accessFlags := 33
  interfaces := #[]
  cf := some (fileOf pool0 8 #[] #[{ accessFlags := 1, nameIndex := 5, descriptorIndex := 6, attributes := #[] }] 33 0 #[] #[])
  fields := #[]
  methods := #[k0m0]
  instanceTypes := #[]
  staticTypes := #[]
  resolved := Array.replicate 124 none
  statics := none }

def pool1 : Array CpInfo := pool [(2, .class_ 4), (1, u "java/lang/Object"), (0, u "<init>"), (0, u "()V"), (0, .integer 2147483647), (0, .methodref 9 10), (0, .class_ 11), (0, .nameAndType 12 13), (0, u "com/example/capabind/capabind/http/WireReaderIsDigitsPinLaw"), (0, u "ok"), (0, u "(IIIB)Z"), (0, .methodref 15 16), (0, .class_ 17), (0, .nameAndType 18 19), (0, u "com/example/capabind/capabind/http/WireReader"), (0, u "isDigits"), (0, u "([BII)Z"), (0, .methodref 9 21), (0, .nameAndType 22 23), (0, u "isDigit"), (0, u "(B)Z"), (2, u "law"), (0, u "(IIIII)Z")] 5

def k1m0 : Method := { name := "<init>", desc := "()V", sig := { parameters := [], returnType := none }, accessFlags := 1, code := none }
def k1c1 : Code := { maxStack := 5, maxLocals := 10, code := code, exceptionTable := #[], attributes := #[] }
def k1m1 : Method := { name := "law", desc := "(IIIII)Z", sig := { parameters := [.int, .int, .int, .int, .int], returnType := some .boolean }, accessFlags := 9, code := some k1c1 }
def k1c2 : Code := { maxStack := 2, maxLocals := 4, code := method_3_code, exceptionTable := #[], attributes := #[] }
def k1m2 : Method := { name := "ok", desc := "(IIIB)Z", sig := { parameters := [.int, .int, .int, .byte], returnType := some .boolean }, accessFlags := 10, code := some k1c2 }
def k1c3 : Code := { maxStack := 2, maxLocals := 2, code := method_4_code, exceptionTable := #[], attributes := #[] }
def k1m3 : Method := { name := "isDigit", desc := "(B)Z", sig := { parameters := [.byte], returnType := some .boolean }, accessFlags := 10, code := some k1c3 }
/-- com/example/capabind/capabind/http/WireReaderIsDigitsPinLaw -/
def k1 : Class := { plain "com/example/capabind/capabind/http/WireReaderIsDigitsPinLaw" (some 0) with
  accessFlags := 49
  interfaces := #[]
  cf := some (fileOf pool1 9 #[] #[{ accessFlags := 1, nameIndex := 5, descriptorIndex := 6, attributes := #[] }, { accessFlags := 9, nameIndex := 26, descriptorIndex := 27, attributes := #[] }, { accessFlags := 10, nameIndex := 12, descriptorIndex := 13, attributes := #[] }, { accessFlags := 10, nameIndex := 22, descriptorIndex := 23, attributes := #[] }] 49 2 #[] #[])
  fields := #[]
  methods := #[k1m0, k1m1, k1m2, k1m3]
  instanceTypes := #[]
  staticTypes := #[]
  resolved := Array.replicate 33 none
  statics := none }

def pool2 : Array CpInfo := pool [(2, .class_ 4), (1, u "java/lang/Object"), (3, .class_ 10), (1, u "com/example/capabind/capabind/http/WireReader"), (0, u "connection"), (0, u "Lcom/example/capabind/capabind/http/WireConnection;"), (4, u "window"), (3, u "[B"), (2, u "message"), (0, u "Ljava/lang/String;"), (2, u "deadline"), (0, u "J"), (2, u "taken"), (0, u "Lcom/example/capabind/capabind/http/WireReader$Allowance;"), (6, .class_ 41), (0, u "com/example/capabind/capabind/http/WireReader$Allowance"), (20, u "next"), (0, u "I"), (10, .class_ 75), (0, u "com/example/capabind/capabind/http/WireReader$Fields"), (8, u "Z"), (15, u "([BII)Z"), (20, u "isDigits"), (21, .class_ 145), (1, u "com/example/capabind/capabind/http/WireReader$Body"), (6, u "read"), (57, u "received"), (2, u "IN_TOKEN"), (0, u "Lcom/example/capabind/capabind/http/AsciiChars;"), (58, u "MAX_HEAD_BYTES"), (2, u "MOST_LENGTH_DIGITS"), (1, u "MOST_CHUNK_SIZE_DIGITS")] 80

def k2c0 : Code := { maxStack := 2, maxLocals := 5, code := prog_45_method_20_code, exceptionTable := #[], attributes := #[] }
def k2m0 : Method := { name := "isDigits", desc := "([BII)Z", sig := { parameters := [(.array .byte), .int, .int], returnType := some .boolean }, accessFlags := 8, code := some k2c0 }
/-- com/example/capabind/capabind/http/WireReader -/
def k2 : Class := { plain "com/example/capabind/capabind/http/WireReader" (some 0) with
  accessFlags := 48
  interfaces := #[]
  cf := some (fileOf pool2 8 #[.nestMembers #[143, 74, 40]] #[{ accessFlags := 8, nameIndex := 121, descriptorIndex := 100, attributes := #[] }] 48 2 #[] #[{ accessFlags := 24, nameIndex := 273, descriptorIndex := 63, attributes := #[] }, { accessFlags := 26, nameIndex := 213, descriptorIndex := 214, attributes := #[] }, { accessFlags := 26, nameIndex := 276, descriptorIndex := 63, attributes := #[] }, { accessFlags := 26, nameIndex := 278, descriptorIndex := 63, attributes := #[] }, { accessFlags := 18, nameIndex := 11, descriptorIndex := 12, attributes := #[] }, { accessFlags := 18, nameIndex := 24, descriptorIndex := 25, attributes := #[] }, { accessFlags := 2, nameIndex := 28, descriptorIndex := 29, attributes := #[] }, { accessFlags := 18, nameIndex := 32, descriptorIndex := 33, attributes := #[] }, { accessFlags := 18, nameIndex := 17, descriptorIndex := 21, attributes := #[] }, { accessFlags := 2, nameIndex := 152, descriptorIndex := 63, attributes := #[] }, { accessFlags := 2, nameIndex := 62, descriptorIndex := 63, attributes := #[] }, { accessFlags := 2, nameIndex := 210, descriptorIndex := 84, attributes := #[] }])
  fields := #[{ name := "MAX_HEAD_BYTES", type := .int, accessFlags := 24, slot := 0, constantValue := 0 }, { name := "IN_TOKEN", type := (.object "com/example/capabind/capabind/http/AsciiChars"), accessFlags := 26, slot := 1, constantValue := 0 }, { name := "MOST_LENGTH_DIGITS", type := .int, accessFlags := 26, slot := 2, constantValue := 0 }, { name := "MOST_CHUNK_SIZE_DIGITS", type := .int, accessFlags := 26, slot := 3, constantValue := 0 }, { name := "connection", type := (.object "com/example/capabind/capabind/http/WireConnection"), accessFlags := 18, slot := 0, constantValue := 0 }, { name := "message", type := (.object "java/lang/String"), accessFlags := 18, slot := 1, constantValue := 0 }, { name := "deadline", type := .long, accessFlags := 2, slot := 2, constantValue := 0 }, { name := "taken", type := (.object "com/example/capabind/capabind/http/WireReader$Allowance"), accessFlags := 18, slot := 3, constantValue := 0 }, { name := "window", type := (.array .byte), accessFlags := 18, slot := 4, constantValue := 0 }, { name := "read", type := .int, accessFlags := 2, slot := 5, constantValue := 0 }, { name := "next", type := .int, accessFlags := 2, slot := 6, constantValue := 0 }, { name := "received", type := .boolean, accessFlags := 2, slot := 7, constantValue := 0 }]
  methods := #[k2m0]
  instanceTypes := #[(.object "com/example/capabind/capabind/http/WireConnection"), (.object "java/lang/String"), .long, (.object "com/example/capabind/capabind/http/WireReader$Allowance"), (.array .byte), .int, .int, .boolean]
  staticTypes := #[.int, (.object "com/example/capabind/capabind/http/AsciiChars"), .int, .int]
  resolved := Array.replicate 359 none
  statics := none }

def pool3 : Array CpInfo := pool [(1, u "java/lang/Cloneable"), (0, .class_ 1), (0, u "java/lang/Object"), (0, .class_ 3)] 3

/-- java/lang/Cloneable -/
def k3 : Class := { plain "java/lang/Cloneable" (some 0) with
  accessFlags := 1537
  interfaces := #[]
  cf := some (fileOf pool3 2 #[] #[] 1537 4 #[] #[])
  fields := #[]
  methods := #[]
  instanceTypes := #[]
  staticTypes := #[]
  resolved := Array.replicate 8 none
  statics := none }

def pool4 : Array CpInfo := pool [(1, u "java/io/Serializable"), (0, .class_ 1), (0, u "java/lang/Object"), (0, .class_ 3)] 3

/-- java/io/Serializable -/
def k4 : Class := { plain "java/io/Serializable" (some 0) with
  accessFlags := 1537
  interfaces := #[]
  cf := some (fileOf pool4 2 #[] #[] 1537 4 #[] #[])
  fields := #[]
  methods := #[]
  instanceTypes := #[]
  staticTypes := #[]
  resolved := Array.replicate 8 none
  statics := none }

/-- the primitive byte -/
def k5 : Class := { plain "byte" none with kind := .primitive 'B', accessFlags := 0x411 }
/-- [B -/
def k6 : Class := { plain "[B" (some 0) with kind := .array 5 .byte, interfaces := #[3, 4], accessFlags := 1041 }

/-- the primitive int -/
def k7 : Class := { plain "int" none with kind := .primitive 'I', accessFlags := 0x411 }
/-- [I -/
def k8 : Class := { plain "[I" (some 0) with kind := .array 7 .int, interfaces := #[3, 4], accessFlags := 1041 }

def heap : Heap := #[]
def classes : Array Class := #[k0, k1, k2, k3, k4, k5, k6, k7, k8]
def interned : List (Array UInt16 × Addr) := []
def slotsUsed : Nat := 0
def theMethod : MethodId := ⟨1, 1⟩
def args0 : Array Value := #[.int 50, .int 51, .int 52, .int 5, .int 513]
def aboutOver (below : List Frame) : State where
  vm := { classes := classes, interned := interned.toArray }
  heap := heap
  slotsUsed := slotsUsed
  threads := #[{ frames := .invoking theMethod args0 :: below }]
def below0 : List Frame := [.native { method := ⟨0, 0⟩, args := #[] }]
def about1 : State := aboutOver below0
def p0 : Program := .bare "" "" ""
def e0 : Env := launch0.env 0 0 0
theorem w_frames : about1.frames = Frame.invoking theMethod args0 :: below0 := rfl
set_option maxRecDepth 65536 in
theorem w_args : argsFit about1.vm theMethod args0 = true := by decide +kernel
set_option maxRecDepth 65536 in
theorem w_heap : heapFits about1 = true := by decide +kernel
set_option maxRecDepth 65536 in
theorem w_runnable : about1.curStatus? = some .runnable := by decide +kernel
set_option maxRecDepth 65536 in
theorem w_alone : about1.alone = true := by decide +kernel
set_option maxRecDepth 65536 in
theorem w_named : about1.methodNamed? x = some theMethod := by decide +kernel
set_option maxRecDepth 65536 in
theorem w_hears : about1.hears theMethod below0 = true := by decide +kernel
set_option maxRecDepth 65536 in
theorem w_ripe : about1.ripe theMethod args0 below0 = true := by decide +kernel
theorem w_running : about1.status = .running := rfl
set_option maxRecDepth 65536 in
theorem w_room : about1.hasRoom e0.platform room_1 = true :=
  launch0.hasRoom_least _ room_1 (by decide +kernel) (by decide +kernel) (by decide +kernel) (by decide +kernel) (by decide +kernel) (by decide +kernel)
theorem allAtoms_all (ts : List Jvm.Cond) (a : Array Jvm.Value) (st : Jvm.State) : (allAtoms ts).before a st = ts.all (fun c => c.before a st) := by
  induction ts with
  | nil => rfl
  | cons c t ih =>
    show (Jvm.Cond.and c (allAtoms t)).before a st = _
    rw [Jvm.Cond.before_and, ih, List.all_cons]
def words1 : List Jvm.Cond := Jvm.Cond.code x code maxLocals ret :: tables_1
/-- a 'code' word, met by the world's own term for the bytes: nothing is compared byte by byte -/
theorem code_word {y : MethodName} {bytes : ByteArray} {mx : Nat} {rt : Option FieldType} {a : Array Value} {s : State} {m : MethodId} {meth : Method} {c : Code} (h1 : s.methodNamed? y = some m) (h2 : s.vm.method? m = some meth) (h3 : meth.code = some c) (h4 : c.code = bytes)
    (h5 : (c.maxLocals == mx && c.exceptionTable.isEmpty && decide (c.maxStack ≤ mostOperands) && decide (meth.sig.returnType = rt) && !meth.locks && decide (parseMethodDescriptor y.desc = some meth.sig)) = true) : (Jvm.Cond.code y bytes mx rt).before a s = true := by
  simp only [Bool.and_eq_true, beq_iff_eq, Bool.not_eq_true', decide_eq_true_eq] at h5
  obtain ⟨⟨⟨⟨⟨g1, g2⟩, g3⟩, g4⟩, g5⟩, g6⟩ := h5
  simp [Cond.before, Cond.holds, Cond.value, h1, h2, h3, h4, g1, g2, g3, g4, g5, g6]
def isCode : Jvm.Cond → Bool
  | .code _ _ _ _ => true
  | _ => false
theorem all_split {L : List Jvm.Cond} {P : Jvm.Cond → Bool} (h1 : L.all (fun c => isCode c || P c) = true) (h2 : ∀ c ∈ L.filter isCode, P c = true) : L.all P = true := by
  refine List.all_eq_true.mpr fun c hc => ?_
  have h := List.all_eq_true.mp h1 c hc
  rcases Bool.eq_false_or_eq_true (isCode c) with hi | hi
  · exact h2 c (List.mem_filter.mpr ⟨hc, hi⟩)
  · simpa [hi] using h
set_option maxRecDepth 65536 in
theorem w_c0 : (Jvm.Cond.code x code maxLocals ret).before args0 about1 = true := code_word (m := ⟨1, 1⟩) (meth := k1m1) (c := k1c1) (by decide +kernel) rfl rfl rfl (by decide +kernel)
set_option maxRecDepth 65536 in
theorem w_c1 : (Jvm.Cond.code ({ cls := "com/example/capabind/capabind/http/WireReader", name := "isDigits", desc := "([BII)Z" } : Jvm.MethodName) prog_45_method_20_code (5 : Nat) (Option.some Jvm.ClassFile.FieldType.boolean)).before args0 about1 = true := code_word (m := ⟨2, 0⟩) (meth := k2m0) (c := k2c0) (by decide +kernel) rfl rfl rfl (by decide +kernel)
set_option maxRecDepth 65536 in
theorem w_c2 : (Jvm.Cond.code ({ cls := "com/example/capabind/capabind/http/WireReaderIsDigitsPinLaw", name := "ok", desc := "(IIIB)Z" } : Jvm.MethodName) method_3_code (4 : Nat) (Option.some Jvm.ClassFile.FieldType.boolean)).before args0 about1 = true := code_word (m := ⟨1, 2⟩) (meth := k1m2) (c := k1c2) (by decide +kernel) rfl rfl rfl (by decide +kernel)
set_option maxRecDepth 65536 in
theorem w_c3 : (Jvm.Cond.code ({ cls := "com/example/capabind/capabind/http/WireReaderIsDigitsPinLaw", name := "isDigit", desc := "(B)Z" } : Jvm.MethodName) method_4_code (2 : Nat) (Option.some Jvm.ClassFile.FieldType.boolean)).before args0 about1 = true := code_word (m := ⟨1, 3⟩) (meth := k1m3) (c := k1c3) (by decide +kernel) rfl rfl rfl (by decide +kernel)
def codes1 : List Jvm.Cond := [Jvm.Cond.code x code maxLocals ret, Jvm.Cond.code ({ cls := "com/example/capabind/capabind/http/WireReader", name := "isDigits", desc := "([BII)Z" } : Jvm.MethodName) prog_45_method_20_code (5 : Nat) (Option.some Jvm.ClassFile.FieldType.boolean), Jvm.Cond.code ({ cls := "com/example/capabind/capabind/http/WireReaderIsDigitsPinLaw", name := "ok", desc := "(IIIB)Z" } : Jvm.MethodName) method_3_code (4 : Nat) (Option.some Jvm.ClassFile.FieldType.boolean), Jvm.Cond.code ({ cls := "com/example/capabind/capabind/http/WireReaderIsDigitsPinLaw", name := "isDigit", desc := "(B)Z" } : Jvm.MethodName) method_4_code (2 : Nat) (Option.some Jvm.ClassFile.FieldType.boolean)]
set_option maxRecDepth 65536 in
theorem codes_eq : words1.filter isCode = codes1 := rfl
theorem w_codes : ∀ c ∈ words1.filter isCode, c.before args0 about1 = true := by
  rw [codes_eq]
  intro c hc
  simp only [codes1, List.mem_cons, List.not_mem_nil, or_false] at hc
  rcases hc with rfl | rfl | rfl | rfl
  · exact w_c0
  · exact w_c1
  · exact w_c2
  · exact w_c3
set_option maxRecDepth 65536 in
theorem w_t1 : words1.all (fun c => isCode c || c.before args0 about1) = true := by decide +kernel
theorem w_tables : (allAtoms (Jvm.Cond.code x code maxLocals ret :: tables_1)).before args0 about1 = true := by
  rw [allAtoms_all]
  show words1.all (fun c => c.before args0 about1) = true
  refine all_split ?_ w_codes
  rw [w_t1]
set_option maxRecDepth 65536 in
theorem w_case : (Jvm.Cond.and given_1 narrow_1).before args0 about1 = true := by decide +kernel
theorem w_applies : (headSpec (Jvm.Cond.code x code maxLocals ret :: tables_1) room_1).applies x e0.platform about1 = true :=
  (Spec.applies_iff w_frames).mpr ⟨w_running, w_runnable, w_alone, w_named, w_hears, w_ripe, w_room, w_tables⟩
theorem atStart : AtStart classFile x code maxLocals ret World_1 tables_1 room_1 Calls_1 rest_1 Pre_1 launch0 p0 e0 about1 theMethod args0 below0 :=
  ⟨lists_1, trivial, launch0.admits_env _ _ _, launch0.least_env, fairChoices_fair.cas, fairChoices_fair.clock, w_frames, w_args, w_heap, w_applies, trivial, trivial, w_case⟩
end start1
theorem witness_1 : WitnessClaimed_1 := ⟨start1.p0, start1.e0, start1.about1, start1.theMethod, start1.args0, start1.below0, start1.atStart⟩
end Jvm.Pilot.@@N@@
