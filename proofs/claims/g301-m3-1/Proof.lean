import JvmDerived
import JvmDerived.Pilot.@@N@@Statement
import JvmDerived.Pilot.@@N@@Code
set_option linter.unusedVariables false
set_option linter.unusedSimpArgs false
namespace Jvm.Pilot.@@N@@
open Jvm Jvm.ClassFile Sem Op Lib Jvm.Free Jvm.Stand Jvm.LawKit Jvm.RoadKit Bundle Jvm.Pilot.@@N@@.Jvm.D
/-! ## the own layer: a picture of the heap, one fact for where a walk stands, steps in continuation form -/
abbrev Ob : Type := Sum (String × List ((String × String × String) × Value)) (FieldType × List Value)
abbrev Obs : Type := List (Addr × Ob)
def Ara (Z : State) (h : Heap) (a : Addr) (ty : FieldType) (vs : List Value) : Prop :=
  ∃ c : Cell, Arr Z h a c ty ∧ c.slots = vs.toArray ∧ vs.length < 2 ^ 31 ∧ (∀ v ∈ vs, fits ty v = true) ∧ Exa Z h a ("[" ++ ty.toString)
def Is (Z : State) (h : Heap) (a : Addr) (o : Ob) : Prop :=
  match o with
  | .inl q => Exa Z h a q.1 ∧ ∀ f ∈ q.2, Fld Z h a f.1.1 f.1.2.1 f.1.2.2 f.2
  | .inr q => Ara Z h a q.1 q.2
def Pic (Z : State) (n0 : Nat) (h : Heap) (L : Obs) : Prop := (∀ q ∈ L, n0 ≤ q.1 ∧ Is Z h q.1 q.2) ∧ (L.map Prod.fst).Nodup
def Lays (Z : State) (a0 : Array Value) (C : String) (fn : List (String × String × String)) : Prop :=
  (∀ q ∈ fn, Laid Z a0 C q.1 q.2.1 q.2.2 ∧ ∃ t, parseFieldDescriptor q.2.2 = some t) ∧ (fn.map fun q => q.2.1).Nodup
section Pics
variable {Z : State} {h h' : Heap} {a b : Addr} {o o' : Ob} {n0 : Nat} {L L' : Obs} {sl : Nat} {v : Value} {a0 : Array Value}
theorem Is.lt (I : Is Z h a o) : a < h.size := by
  cases o with
  | inl q => exact I.1.lt
  | inr q => obtain ⟨c, A, _⟩ := I; exact A.lt
theorem Is.ext (E : Ext h h') (I : Is Z h a o) : Is Z h' a o := by
  cases o with
  | inl q => exact ⟨I.1.ext E, fun f hf => (I.2 f hf).ext E⟩
  | inr q => obtain ⟨c, A, r1, r2, r3, r4⟩ := I; exact ⟨c, A.ext E, r1, r2, r3, r4.ext E⟩
theorem Is.other (W : Wr h h' b sl v) (ne : a ≠ b) (I : Is Z h a o) : Is Z h' a o := by
  cases o with
  | inl q => exact ⟨I.1.wr W, fun f hf => (I.2 f hf).other W (Or.inl ne)⟩
  | inr q => obtain ⟨c, A, r1, r2, r3, r4⟩ := I; exact ⟨c, A.other W ne, r1, r2, r3, r4.wr W⟩
theorem nodup_get {α : Type} : ∀ {l : List α} {i j : Nat} {x : α}, l.Nodup → l[i]? = some x → l[j]? = some x → i = j
  | [], i, j, x, _, h, _ => by simp at h
  | y :: t, 0, 0, x, _, _, _ => rfl
  | y :: t, 0, j + 1, x, hn, h1, h2 => by
    simp at h1 h2; subst h1
    exact absurd (List.mem_of_getElem? h2) (List.nodup_cons.mp hn).1
  | y :: t, i + 1, 0, x, hn, h1, h2 => by
    simp at h1 h2; subst h2
    exact absurd (List.mem_of_getElem? h1) (List.nodup_cons.mp hn).1
  | y :: t, i + 1, j + 1, x, hn, h1, h2 => by
    simp at h1 h2
    rw [nodup_get (List.nodup_cons.mp hn).2 h1 h2]
theorem mem_set_get {α : Type} {l : List α} {i : Nat} {x q : α} (h : q ∈ l.set i x) : q = x ∨ ∃ j, j ≠ i ∧ l[j]? = some q := by
  obtain ⟨j, hj⟩ := List.mem_iff_getElem?.mp h
  by_cases e : j = i
  · subst e
    rw [List.getElem?_set] at hj
    by_cases hl : j < l.length
    · simp [hl] at hj; exact Or.inl hj.symm
    · simp [hl] at hj
  · rw [List.getElem?_set_ne (Ne.symm e)] at hj
    exact Or.inr ⟨j, e, hj⟩
theorem Pic.new (P : Pic Z n0 h L) (E : Ext h h') (Z0 : n0 ≤ h.size) (I : Is Z h' h.size o) : Pic Z n0 h' ((h.size, o) :: L) := by
  refine ⟨fun q hq => ?_, ?_⟩
  · rcases List.mem_cons.mp hq with rfl | hq
    · exact ⟨Z0, I⟩
    · exact ⟨(P.1 q hq).1, (P.1 q hq).2.ext E⟩
  · show (h.size :: L.map Prod.fst).Nodup
    refine List.nodup_cons.mpr ⟨fun hm => ?_, P.2⟩
    obtain ⟨q, hq, e⟩ := List.mem_map.mp hm
    have lt := (P.1 q hq).2.lt
    rw [e] at lt
    exact Nat.lt_irrefl _ lt
theorem map_set_same {α β : Type} (f : α → β) : ∀ {l : List α} {i : Nat} {x y : α}, l[i]? = some x → f y = f x → (l.set i y).map f = l.map f
  | [], i, x, y, h, _ => by simp at h
  | z :: t, 0, x, y, h, e => by simp at h; subst h; simp [e]
  | z :: t, i + 1, x, y, h, e => by simp at h; simp [map_set_same f h e]
theorem Pic.set {i : Nat} (P : Pic Z n0 h L) (W : Wr h h' a sl v) (hi : L[i]? = some (a, o)) (I : Is Z h' a o') : Pic Z n0 h' (L.set i (a, o')) := by
  refine ⟨fun q hq => ?_, ?_⟩
  · rcases mem_set_get hq with rfl | ⟨j, ne, hj⟩
    · exact ⟨(P.1 _ (List.mem_of_getElem? hi)).1, I⟩
    · refine ⟨(P.1 _ (List.mem_of_getElem? hj)).1, (P.1 _ (List.mem_of_getElem? hj)).2.other W fun e => ne ?_⟩
      refine nodup_get P.2 (x := a) ?_ ?_
      · rw [List.getElem?_map, hj]; simp [e]
      · rw [List.getElem?_map, hi]; simp
  · rw [map_set_same Prod.fst (y := (a, o')) hi rfl]; exact P.2
theorem front_perm {α : Type} : ∀ {l : List α} {i : Nat} {x : α}, l[i]? = some x → List.Perm (x :: l.eraseIdx i) l
  | [], i, x, h => by simp at h
  | z :: t, 0, x, h => by simp at h; subst h; exact List.Perm.refl _
  | z :: t, i + 1, x, h => by
    simp at h
    exact (List.Perm.swap z x _).trans ((front_perm h).cons z)
theorem Pic.perm (P : Pic Z n0 h L) (q : List.Perm L' L) : Pic Z n0 h L' :=
  ⟨fun x hx => P.1 x (q.mem_iff.mp hx), ((q.map Prod.fst).nodup_iff).mpr P.2⟩
theorem Pic.front {i : Nat} {x : Addr × Ob} (P : Pic Z n0 h L) (hi : L[i]? = some x) : Pic Z n0 h (x :: L.eraseIdx i) := P.perm (front_perm hi)
theorem Pic.ne {i j : Nat} {x y : Ob} (P : Pic Z n0 h L) (hi : L[i]? = some (a, x)) (hj : L[j]? = some (b, y)) (hn : i ≠ j) : a ≠ b := fun e => hn (by
  subst e
  refine nodup_get P.2 (x := a) ?_ ?_
  · rw [List.getElem?_map, hi]; simp
  · rw [List.getElem?_map, hj]; simp)
theorem Is.put {C O n d : String} {fs : List ((String × String × String) × Value)} {j : Nat} {old : Value} (W : Wr h h' a (Jvm.RoadKit.slotOf Z O n d) v) (hl : Lays Z a0 C (fs.map Prod.fst)) (I : Is Z h a (.inl (C, fs))) (hf : fs[j]? = some ((O, n, d), old)) : Is Z h' a (.inl (C, fs.set j ((O, n, d), v))) := by
  refine ⟨I.1.wr W, fun f hm => ?_⟩
  rcases mem_set_get hm with rfl | ⟨i, ne, hi⟩
  · exact Fld.same W (I.2 ((O, n, d), old) (List.mem_of_getElem? hf))
  · have g1 : (fs.map Prod.fst)[i]? = some f.1 := by rw [List.getElem?_map, hi]; rfl
    have g2 : (fs.map Prod.fst)[j]? = some (O, n, d) := by rw [List.getElem?_map, hf]; rfl
    obtain ⟨l1, t1, p1⟩ := hl.1 _ (List.mem_of_getElem? g1)
    obtain ⟨l2, t2, p2⟩ := hl.1 _ (List.mem_of_getElem? g2)
    refine (I.2 _ (List.mem_of_getElem? hi)).other W (Or.inr (slot_ne l1 l2 (fun e => ne ?_) p1 p2))
    refine nodup_get hl.2 (x := n) ?_ ?_
    · rw [List.getElem?_map, g1]; simp [← e]
    · rw [List.getElem?_map, g2]; try rfl
theorem Ara.put {ty : FieldType} {vs : List Value} {j : Int32} (I : Ara Z h a ty vs) (W : Wr h h' a j.toNatClampNeg v) (hf : fits ty v = true) : Ara Z h' a ty (vs.set j.toNatClampNeg v) := by
  obtain ⟨c, A, r1, r2, r3, r4⟩ := I
  refine ⟨c.setSlot j.toNatClampNeg v, A.same W, ?_, by rw [List.length_set]; exact r2, fun x hx => ?_, r4.wr W⟩
  · show c.slots.setIfInBounds _ _ = _
    rw [r1]; simp
  · rcases mem_set_get hx with rfl | ⟨i, _, hi⟩
    · exact hf
    · exact r3 _ (List.mem_of_getElem? hi)
theorem fits_def (aty : ArrayType) : fits (newarray.typeOf aty) (defaultValue (newarray.typeOf aty)) = true := by cases aty <;> decide
theorem Is.keep {ws : List Addr} (K : Keep h h' ws) (hn : a ∉ ws) (I : Is Z h a o) : Is Z h' a o := by
  cases o with
  | inl q => exact ⟨I.1.keep K, fun f hf => (I.2 f hf).keep K hn⟩
  | inr q => obtain ⟨c, A, r1, r2, r3, r4⟩ := I; exact ⟨c, ⟨K.2.1 a c A.1 hn, A.2⟩, r1, r2, r3, r4.keep K⟩
theorem Pic.setK {i : Nat} (P : Pic Z n0 h L) (K : Keep h h' [a]) (hi : L[i]? = some (a, o)) (I : Is Z h' a o') : Pic Z n0 h' (L.set i (a, o')) := by
  refine ⟨fun q hq => ?_, ?_⟩
  · rcases mem_set_get hq with rfl | ⟨j, ne, hj⟩
    · exact ⟨(P.1 _ (List.mem_of_getElem? hi)).1, I⟩
    · refine ⟨(P.1 _ (List.mem_of_getElem? hj)).1, (P.1 _ (List.mem_of_getElem? hj)).2.keep K fun e => ne ?_⟩
      have e := List.mem_singleton.mp e
      refine nodup_get P.2 (x := a) ?_ ?_
      · rw [List.getElem?_map, hj]; simp [e]
      · rw [List.getElem?_map, hi]; simp
  · rw [map_set_same Prod.fst (y := (a, o')) hi rfl]; exact P.2
theorem Arv.toAra {k : ClassId} {ty : FieldType} {z : Int32} {vs : List Value} {dv : Value} (V : Arv Z h a k ty z vs dv) (hz : z.toNatClampNeg = vs.length) (hl : vs.length < 2 ^ 31) (E : Exa Z h a ("[" ++ ty.toString)) : Ara Z h a ty vs := by
  obtain ⟨c, A, q1, q2, q3, H, G⟩ := V
  refine ⟨c, A, ?_, hl, fun v hv => ?_, E⟩
  · refine Array.ext_getElem? fun i => ?_
    by_cases hi : i < c.slots.size
    · rw [H i hi, List.getElem?_toArray, List.getD_eq_getElem?_getD]
      have : i < vs.length := by omega
      rw [List.getElem?_eq_getElem this]; rfl
    · rw [Array.getElem?_eq_none (by omega), List.getElem?_toArray, List.getElem?_eq_none (by omega)]
  · obtain ⟨i, hi⟩ := List.mem_iff_getElem?.mp hv
    have hlt := (List.getElem?_eq_some_iff.mp hi).1
    have := G i (by omega)
    rw [List.getD_eq_getElem?_getD, hi] at this
    exact this
theorem Ara.toArv {ty : FieldType} {vs : List Value} (I : Ara Z h a ty vs) (dv : Value) : ∃ k, Arv Z h a k ty vs.length.toInt32 vs dv ∧ vs.length.toInt32.toNatClampNeg = vs.length ∧ ¬ vs.length.toInt32 < 0 := by
  obtain ⟨c, A, r1, r2, r3, r4⟩ := I
  have e1 : vs.length.toInt32.toInt = vs.length := len_toInt r2
  have e2 : vs.length.toInt32.toNatClampNeg = vs.length := by simp only [Int32.toNatClampNeg, e1]; omega
  have e3 : ¬ vs.length.toInt32 < 0 := by rw [Int32.lt_iff_toInt_lt, e1]; simp only [Int32.reduceToInt]; omega
  have e4 : c.slots.size = vs.length := by rw [r1]; simp
  refine ⟨c.cls, ⟨c, A, rfl, by omega, e3, fun k hk => ?_, fun k hk => ?_⟩, e2, e3⟩
  · have : k < vs.length := by omega
    rw [r1, List.getElem?_toArray, List.getElem?_eq_getElem this, List.getD_eq_getElem?_getD, List.getElem?_eq_getElem this]; rfl
  · have : k < vs.length := by omega
    rw [List.getD_eq_getElem?_getD, List.getElem?_eq_getElem this]
    exact r3 _ (List.getElem_mem this)
end Pics
def Go (p : Program) (e : Env) (below : List Frame) (F : State → Prop) (U : State) : Prop := ∃ t, Steps p.tables e below U t ∧ F t
theorem Go.st {p : Program} {e : Env} {below : List Frame} {F : State → Prop} {U U' : State} (h : ∀ t, Steps p.tables e below U' t → Steps p.tables e below U t) (g : Go p e below F U') : Go p e below F U := by
  obtain ⟨t, s, f⟩ := g; exact ⟨t, h t s, f⟩
def Here (p : Program) (l : Launch) (e : Env) (R : Room) (s : State) (m : MethodId) (args : Array Value) (below : List Frame) (meth : Method) (c : Code) (Z : State) (a0 : Array Value) (tbl : List Jvm.Cond) (own nm : String) (bc : ByteArray) (mxl : Nat) (rt : Option FieldType) (n0 : Nat) (T : State) (L : Obs) (cells slots : Nat) : Prop :=
  (p.tables.exec = Jvm.exec ∧ Z.Warmed39 s.vm ∧ s.vm.findClass own = some m.cls ∧ c.code = bc ∧ c.maxLocals = mxl ∧ (∀ d ∈ tbl, d.before a0 Z = true) ∧ meth.name = nm ∧ meth.sig.returnType = rt ∧ meth.locks = false) ∧
  ∃ locs, Stand p l e R s m args below meth c T locs cells slots ∧ Fr n0 locs ∧ n0 ≤ T.heap.size ∧ Pic Z n0 T.heap L
def EndS (below : List Frame) (s : State) (n0 : Nat) (Z : State) (kc ks : Nat) (Q : Option Value → Obs → Prop) (t : State) : Prop :=
  ∃ o, t.status = .running ∧ Ended t below o ∧ ∃ v Lc, o = .returned v ∧ (Fr n0 Lc ∧ n0 ≤ t.heap.size ∧ ∃ L', Q v L' ∧ Pic Z n0 t.heap L') ∧ FrameEnd s o t Lc kc ks
def Triple (l : Launch) (Z : State) (n0 : Nat) (y : MethodName) (bytes : ByteArray) (ml : Nat) (rt : Option FieldType) (rm : Room) (kc ks : Nat) (as : List Value) (L : Obs) (Q : Option Value → Obs → Prop) : Prop :=
  ∀ (h0 : Heap) (ws : List Jvm.Cond), n0 ≤ h0.size → Pic Z n0 h0 L →
    MetFree l y (head1 (Jvm.Cond.code y bytes ml rt :: ws) rm) (fun a U => a = as.toArray ∧ Z.Warmed39 U.vm ∧ U.heap = h0) (fun _ _ _ _ _ => True)
      (fun _ U o U' => ∃ v Lc, o = .returned v ∧ (Fr n0 Lc ∧ n0 ≤ U'.heap.size ∧ ∃ L', Q v L' ∧ Pic Z n0 U'.heap L') ∧ FrameEnd U o U' Lc kc ks)
theorem Triple.of_body {l : Launch} {Z : State} {a0 : Array Value} {tbl : List Jvm.Cond} {n0 : Nat} {y : MethodName} {bytes : ByteArray} {ml : Nat} {rt : Option FieldType} {rm : Room} {kc ks : Nat} {as : List Value} {L : Obs} {Q : Option Value → Obs → Prop} {Ls : Array Slot}
    (hp : plainFor y = true) (hw : ∀ d ∈ tbl, d.before a0 Z = true) (ef : (Jvm.Sym.laidSlots as ++ List.replicate (ml - (Jvm.Sym.laidSlots as).length) Slot.unset).toArray = Ls)
    (body : ∀ p e s m below meth c T, Here p l e rm s m as.toArray below meth c Z a0 tbl y.cls y.name bytes ml rt n0 T L 0 0 → Go p e below (EndS below s n0 Z kc ks Q) (T.setTop (mkF m 0 Ls []))) :
    Triple l Z n0 y bytes ml rt rm kc ks as L Q := by
  intro h0 ws Z0 P0
  refine MetFree.of_bodySF hp hisR ?_
  intro p e s m args below meth c s₁ Bd hml0 hP hK
  obtain ⟨rfl, hZ, hh⟩ := hP
  have e0 : s₁.heap = h0 := by rw [← hh, Bd.state]; rfl
  have A : Here p l e rm s m as.toArray below meth c Z a0 tbl y.cls y.name bytes ml rt n0 s₁ L 0 0 :=
    ⟨⟨Bd.exec, hZ, findClass_of_methodNamed Bd.named, Bd.bytes, hml0, hw, (name_of_methodNamed Bd.named Bd.method).1, Bd.returns, Bd.notSynchronized⟩, [], Stand.of_body Bd, Fr.nil n0, by rw [e0]; exact Z0, by rw [e0]; exact P0⟩
  obtain ⟨t, st, o, h1, h2, h3⟩ := body p e s m below meth c s₁ A
  have ef' : entryFrame m as.toArray ml = mkF m 0 Ls [] := by
    have q := Jvm.Sym.argsToLocals_toList as.toArray ml
    have q2 : argsToLocals as.toArray ml = Ls := by rw [← ef, ← q, Array.toArray_toList]
    unfold entryFrame mkF; rw [q2]
  exact ⟨t, o, castTop ef' st, h1, h2, h3⟩

section Walk
variable {p : Program} {l : Launch} {e : Env} {R : Room} {s : State} {m : MethodId} {args : Array Value} {below : List Frame} {meth : Method} {c : Code} {Z : State} {a0 : Array Value} {tbl : List Jvm.Cond} {own nm : String} {bc : ByteArray} {mxl : Nat} {rt : Option FieldType} {n0 : Nat} {T : State} {L : Obs} {cells slots : Nat} {F : State → Prop}
theorem Here.pt (A : Here p l e R s m args below meth c Z a0 tbl own nm bc mxl rt n0 T L cells slots) : At T m c below := by obtain ⟨_, X, _⟩ := A.2; exact X.here
theorem Here.iadd (A : Here p l e R s m args below meth c Z a0 tbl own nm bc mxl rt n0 T L cells slots) {pc q : Nat} {Ls : Array Slot} {st : List Value} {x y v : Int32} (hd : decode bc pc = .ok (.iadd, 1)) (hq : pc + 1 = q) (hv : x + y = v) (k : Go p e below F (T.setTop (mkF m q Ls (.int v :: st)))) : Go p e below F (T.setTop (mkF m pc Ls (.int y :: .int x :: st))) := by
  subst hq hv
  exact Go.st (fun t h => XS.iadd A.pt A.1.1 rfl (hb A.1.2.2.2.1 hd) rfl h) k
theorem Here.isub (A : Here p l e R s m args below meth c Z a0 tbl own nm bc mxl rt n0 T L cells slots) {pc q : Nat} {Ls : Array Slot} {st : List Value} {x y v : Int32} (hd : decode bc pc = .ok (.isub, 1)) (hq : pc + 1 = q) (hv : x - y = v) (k : Go p e below F (T.setTop (mkF m q Ls (.int v :: st)))) : Go p e below F (T.setTop (mkF m pc Ls (.int y :: .int x :: st))) := by
  subst hq hv
  exact Go.st (fun t h => XS.isub A.pt A.1.1 rfl (hb A.1.2.2.2.1 hd) rfl h) k
theorem Here.imul (A : Here p l e R s m args below meth c Z a0 tbl own nm bc mxl rt n0 T L cells slots) {pc q : Nat} {Ls : Array Slot} {st : List Value} {x y v : Int32} (hd : decode bc pc = .ok (.imul, 1)) (hq : pc + 1 = q) (hv : x * y = v) (k : Go p e below F (T.setTop (mkF m q Ls (.int v :: st)))) : Go p e below F (T.setTop (mkF m pc Ls (.int y :: .int x :: st))) := by
  subst hq hv
  exact Go.st (fun t h => XS.imul A.pt A.1.1 rfl (hb A.1.2.2.2.1 hd) rfl h) k
theorem Here.iand (A : Here p l e R s m args below meth c Z a0 tbl own nm bc mxl rt n0 T L cells slots) {pc q : Nat} {Ls : Array Slot} {st : List Value} {x y v : Int32} (hd : decode bc pc = .ok (.iand, 1)) (hq : pc + 1 = q) (hv : x &&& y = v) (k : Go p e below F (T.setTop (mkF m q Ls (.int v :: st)))) : Go p e below F (T.setTop (mkF m pc Ls (.int y :: .int x :: st))) := by
  subst hq hv
  exact Go.st (fun t h => XS.iand A.pt A.1.1 rfl (hb A.1.2.2.2.1 hd) rfl h) k
theorem Here.ior (A : Here p l e R s m args below meth c Z a0 tbl own nm bc mxl rt n0 T L cells slots) {pc q : Nat} {Ls : Array Slot} {st : List Value} {x y v : Int32} (hd : decode bc pc = .ok (.ior, 1)) (hq : pc + 1 = q) (hv : x ||| y = v) (k : Go p e below F (T.setTop (mkF m q Ls (.int v :: st)))) : Go p e below F (T.setTop (mkF m pc Ls (.int y :: .int x :: st))) := by
  subst hq hv
  exact Go.st (fun t h => XS.ior A.pt A.1.1 rfl (hb A.1.2.2.2.1 hd) rfl h) k
theorem Here.ixor (A : Here p l e R s m args below meth c Z a0 tbl own nm bc mxl rt n0 T L cells slots) {pc q : Nat} {Ls : Array Slot} {st : List Value} {x y v : Int32} (hd : decode bc pc = .ok (.ixor, 1)) (hq : pc + 1 = q) (hv : x ^^^ y = v) (k : Go p e below F (T.setTop (mkF m q Ls (.int v :: st)))) : Go p e below F (T.setTop (mkF m pc Ls (.int y :: .int x :: st))) := by
  subst hq hv
  exact Go.st (fun t h => XS.ixor A.pt A.1.1 rfl (hb A.1.2.2.2.1 hd) rfl h) k
theorem Here.ishl (A : Here p l e R s m args below meth c Z a0 tbl own nm bc mxl rt n0 T L cells slots) {pc q : Nat} {Ls : Array Slot} {st : List Value} {x y v : Int32} (hd : decode bc pc = .ok (.ishl, 1)) (hq : pc + 1 = q) (hv : x <<< (y &&& 31) = v) (k : Go p e below F (T.setTop (mkF m q Ls (.int v :: st)))) : Go p e below F (T.setTop (mkF m pc Ls (.int y :: .int x :: st))) := by
  subst hq hv
  exact Go.st (fun t h => XS.ishl A.pt A.1.1 rfl (hb A.1.2.2.2.1 hd) rfl h) k
theorem Here.ishr (A : Here p l e R s m args below meth c Z a0 tbl own nm bc mxl rt n0 T L cells slots) {pc q : Nat} {Ls : Array Slot} {st : List Value} {x y v : Int32} (hd : decode bc pc = .ok (.ishr, 1)) (hq : pc + 1 = q) (hv : x >>> (y &&& 31) = v) (k : Go p e below F (T.setTop (mkF m q Ls (.int v :: st)))) : Go p e below F (T.setTop (mkF m pc Ls (.int y :: .int x :: st))) := by
  subst hq hv
  exact Go.st (fun t h => XS.ishr A.pt A.1.1 rfl (hb A.1.2.2.2.1 hd) rfl h) k
theorem Here.iushr (A : Here p l e R s m args below meth c Z a0 tbl own nm bc mxl rt n0 T L cells slots) {pc q : Nat} {Ls : Array Slot} {st : List Value} {x y v : Int32} (hd : decode bc pc = .ok (.iushr, 1)) (hq : pc + 1 = q) (hv : (x.toUInt32 >>> (y &&& 31).toUInt32).toInt32 = v) (k : Go p e below F (T.setTop (mkF m q Ls (.int v :: st)))) : Go p e below F (T.setTop (mkF m pc Ls (.int y :: .int x :: st))) := by
  subst hq hv
  exact Go.st (fun t h => XS.iushr A.pt A.1.1 rfl (hb A.1.2.2.2.1 hd) rfl h) k
theorem Here.idiv (A : Here p l e R s m args below meth c Z a0 tbl own nm bc mxl rt n0 T L cells slots) {pc q : Nat} {Ls : Array Slot} {st : List Value} {x y v : Int32} (hd : decode bc pc = .ok (.idiv, 1)) (hq : pc + 1 = q) (hy : y ≠ 0) (hv : x / y = v) (k : Go p e below F (T.setTop (mkF m q Ls (.int v :: st)))) : Go p e below F (T.setTop (mkF m pc Ls (.int y :: .int x :: st))) := by
  subst hq hv
  exact Go.st (fun t h => XS.idiv A.pt A.1.1 rfl (hb A.1.2.2.2.1 hd) rfl hy h) k
theorem Here.irem (A : Here p l e R s m args below meth c Z a0 tbl own nm bc mxl rt n0 T L cells slots) {pc q : Nat} {Ls : Array Slot} {st : List Value} {x y v : Int32} (hd : decode bc pc = .ok (.irem, 1)) (hq : pc + 1 = q) (hy : y ≠ 0) (hv : x % y = v) (k : Go p e below F (T.setTop (mkF m q Ls (.int v :: st)))) : Go p e below F (T.setTop (mkF m pc Ls (.int y :: .int x :: st))) := by
  subst hq hv
  obtain ⟨_, X, _⟩ := A.2
  exact Go.st (fun t h => iremM X A.1.1 rfl (hb A.1.2.2.2.1 hd) rfl hy h) k
theorem Here.ineg (A : Here p l e R s m args below meth c Z a0 tbl own nm bc mxl rt n0 T L cells slots) {pc q : Nat} {Ls : Array Slot} {st : List Value} {x v : Int32} (hd : decode bc pc = .ok (.ineg, 1)) (hq : pc + 1 = q) (hv : -x = v) (k : Go p e below F (T.setTop (mkF m q Ls (.int v :: st)))) : Go p e below F (T.setTop (mkF m pc Ls (.int x :: st))) := by
  subst hq hv
  exact Go.st (fun t h => XS.ineg A.pt A.1.1 rfl (hb A.1.2.2.2.1 hd) rfl h) k
theorem Here.ladd (A : Here p l e R s m args below meth c Z a0 tbl own nm bc mxl rt n0 T L cells slots) {pc q : Nat} {Ls : Array Slot} {st : List Value} {x y v : Int64} (hd : decode bc pc = .ok (.ladd, 1)) (hq : pc + 1 = q) (hv : x + y = v) (k : Go p e below F (T.setTop (mkF m q Ls (.long v :: st)))) : Go p e below F (T.setTop (mkF m pc Ls (.long y :: .long x :: st))) := by
  subst hq hv
  exact Go.st (fun t h => XS.ladd A.pt A.1.1 rfl (hb A.1.2.2.2.1 hd) rfl h) k
theorem Here.lsub (A : Here p l e R s m args below meth c Z a0 tbl own nm bc mxl rt n0 T L cells slots) {pc q : Nat} {Ls : Array Slot} {st : List Value} {x y v : Int64} (hd : decode bc pc = .ok (.lsub, 1)) (hq : pc + 1 = q) (hv : x - y = v) (k : Go p e below F (T.setTop (mkF m q Ls (.long v :: st)))) : Go p e below F (T.setTop (mkF m pc Ls (.long y :: .long x :: st))) := by
  subst hq hv
  exact Go.st (fun t h => XS.lsub A.pt A.1.1 rfl (hb A.1.2.2.2.1 hd) rfl h) k
theorem Here.lmul (A : Here p l e R s m args below meth c Z a0 tbl own nm bc mxl rt n0 T L cells slots) {pc q : Nat} {Ls : Array Slot} {st : List Value} {x y v : Int64} (hd : decode bc pc = .ok (.lmul, 1)) (hq : pc + 1 = q) (hv : x * y = v) (k : Go p e below F (T.setTop (mkF m q Ls (.long v :: st)))) : Go p e below F (T.setTop (mkF m pc Ls (.long y :: .long x :: st))) := by
  subst hq hv
  exact Go.st (fun t h => XS.lmul A.pt A.1.1 rfl (hb A.1.2.2.2.1 hd) rfl h) k
theorem Here.land (A : Here p l e R s m args below meth c Z a0 tbl own nm bc mxl rt n0 T L cells slots) {pc q : Nat} {Ls : Array Slot} {st : List Value} {x y v : Int64} (hd : decode bc pc = .ok (.land, 1)) (hq : pc + 1 = q) (hv : x &&& y = v) (k : Go p e below F (T.setTop (mkF m q Ls (.long v :: st)))) : Go p e below F (T.setTop (mkF m pc Ls (.long y :: .long x :: st))) := by
  subst hq hv
  exact Go.st (fun t h => XS.land A.pt A.1.1 rfl (hb A.1.2.2.2.1 hd) rfl h) k
theorem Here.lor (A : Here p l e R s m args below meth c Z a0 tbl own nm bc mxl rt n0 T L cells slots) {pc q : Nat} {Ls : Array Slot} {st : List Value} {x y v : Int64} (hd : decode bc pc = .ok (.lor, 1)) (hq : pc + 1 = q) (hv : x ||| y = v) (k : Go p e below F (T.setTop (mkF m q Ls (.long v :: st)))) : Go p e below F (T.setTop (mkF m pc Ls (.long y :: .long x :: st))) := by
  subst hq hv
  exact Go.st (fun t h => XS.lor A.pt A.1.1 rfl (hb A.1.2.2.2.1 hd) rfl h) k
theorem Here.lxor (A : Here p l e R s m args below meth c Z a0 tbl own nm bc mxl rt n0 T L cells slots) {pc q : Nat} {Ls : Array Slot} {st : List Value} {x y v : Int64} (hd : decode bc pc = .ok (.lxor, 1)) (hq : pc + 1 = q) (hv : x ^^^ y = v) (k : Go p e below F (T.setTop (mkF m q Ls (.long v :: st)))) : Go p e below F (T.setTop (mkF m pc Ls (.long y :: .long x :: st))) := by
  subst hq hv
  exact Go.st (fun t h => XS.lxor A.pt A.1.1 rfl (hb A.1.2.2.2.1 hd) rfl h) k
theorem Here.lshl (A : Here p l e R s m args below meth c Z a0 tbl own nm bc mxl rt n0 T L cells slots) {pc q : Nat} {Ls : Array Slot} {st : List Value} {x v : Int64} {y : Int32} (hd : decode bc pc = .ok (.lshl, 1)) (hq : pc + 1 = q) (hv : x <<< (y &&& 0x3f).toInt64 = v) (k : Go p e below F (T.setTop (mkF m q Ls (.long v :: st)))) : Go p e below F (T.setTop (mkF m pc Ls (.int y :: .long x :: st))) := by
  subst hq hv
  exact Go.st (fun t h => XS.lshl A.pt A.1.1 rfl (hb A.1.2.2.2.1 hd) rfl h) k
theorem Here.lshr (A : Here p l e R s m args below meth c Z a0 tbl own nm bc mxl rt n0 T L cells slots) {pc q : Nat} {Ls : Array Slot} {st : List Value} {x v : Int64} {y : Int32} (hd : decode bc pc = .ok (.lshr, 1)) (hq : pc + 1 = q) (hv : x >>> (y &&& 0x3f).toInt64 = v) (k : Go p e below F (T.setTop (mkF m q Ls (.long v :: st)))) : Go p e below F (T.setTop (mkF m pc Ls (.int y :: .long x :: st))) := by
  subst hq hv
  exact Go.st (fun t h => XS.lshr A.pt A.1.1 rfl (hb A.1.2.2.2.1 hd) rfl h) k
theorem Here.lushr (A : Here p l e R s m args below meth c Z a0 tbl own nm bc mxl rt n0 T L cells slots) {pc q : Nat} {Ls : Array Slot} {st : List Value} {x v : Int64} {y : Int32} (hd : decode bc pc = .ok (.lushr, 1)) (hq : pc + 1 = q) (hv : (x.toUInt64 >>> (y &&& 0x3f).toInt64.toUInt64).toInt64 = v) (k : Go p e below F (T.setTop (mkF m q Ls (.long v :: st)))) : Go p e below F (T.setTop (mkF m pc Ls (.int y :: .long x :: st))) := by
  subst hq hv
  exact Go.st (fun t h => XS.lushr A.pt A.1.1 rfl (hb A.1.2.2.2.1 hd) rfl h) k
theorem Here.ldiv (A : Here p l e R s m args below meth c Z a0 tbl own nm bc mxl rt n0 T L cells slots) {pc q : Nat} {Ls : Array Slot} {st : List Value} {x y v : Int64} (hd : decode bc pc = .ok (.ldiv, 1)) (hq : pc + 1 = q) (hy : y ≠ 0) (hv : x / y = v) (k : Go p e below F (T.setTop (mkF m q Ls (.long v :: st)))) : Go p e below F (T.setTop (mkF m pc Ls (.long y :: .long x :: st))) := by
  subst hq hv
  exact Go.st (fun t h => XS.ldiv A.pt A.1.1 rfl (hb A.1.2.2.2.1 hd) rfl hy h) k
theorem Here.lrem (A : Here p l e R s m args below meth c Z a0 tbl own nm bc mxl rt n0 T L cells slots) {pc q : Nat} {Ls : Array Slot} {st : List Value} {x y v : Int64} (hd : decode bc pc = .ok (.lrem, 1)) (hq : pc + 1 = q) (hy : y ≠ 0) (hv : x - (x / y) * y = v) (k : Go p e below F (T.setTop (mkF m q Ls (.long v :: st)))) : Go p e below F (T.setTop (mkF m pc Ls (.long y :: .long x :: st))) := by
  subst hq hv
  exact Go.st (fun t h => XS.lrem A.pt A.1.1 rfl (hb A.1.2.2.2.1 hd) rfl hy h) k
theorem Here.lneg (A : Here p l e R s m args below meth c Z a0 tbl own nm bc mxl rt n0 T L cells slots) {pc q : Nat} {Ls : Array Slot} {st : List Value} {x v : Int64} (hd : decode bc pc = .ok (.lneg, 1)) (hq : pc + 1 = q) (hv : -x = v) (k : Go p e below F (T.setTop (mkF m q Ls (.long v :: st)))) : Go p e below F (T.setTop (mkF m pc Ls (.long x :: st))) := by
  subst hq hv
  exact Go.st (fun t h => XS.lneg A.pt A.1.1 rfl (hb A.1.2.2.2.1 hd) rfl h) k
theorem Here.i2l (A : Here p l e R s m args below meth c Z a0 tbl own nm bc mxl rt n0 T L cells slots) {pc q : Nat} {Ls : Array Slot} {st : List Value} {x : Int32} {v : Int64} (hd : decode bc pc = .ok (.i2l, 1)) (hq : pc + 1 = q) (hv : x.toInt64 = v) (k : Go p e below F (T.setTop (mkF m q Ls (.long v :: st)))) : Go p e below F (T.setTop (mkF m pc Ls (.int x :: st))) := by
  subst hq hv
  exact Go.st (fun t h => XS.i2l A.pt A.1.1 rfl (hb A.1.2.2.2.1 hd) rfl h) k
theorem Here.l2i (A : Here p l e R s m args below meth c Z a0 tbl own nm bc mxl rt n0 T L cells slots) {pc q : Nat} {Ls : Array Slot} {st : List Value} {x : Int64} {v : Int32} (hd : decode bc pc = .ok (.l2i, 1)) (hq : pc + 1 = q) (hv : x.toInt32 = v) (k : Go p e below F (T.setTop (mkF m q Ls (.int v :: st)))) : Go p e below F (T.setTop (mkF m pc Ls (.long x :: st))) := by
  subst hq hv
  exact Go.st (fun t h => XS.l2i A.pt A.1.1 rfl (hb A.1.2.2.2.1 hd) rfl h) k
theorem Here.i2b (A : Here p l e R s m args below meth c Z a0 tbl own nm bc mxl rt n0 T L cells slots) {pc q : Nat} {Ls : Array Slot} {st : List Value} {x v : Int32} (hd : decode bc pc = .ok (.i2b, 1)) (hq : pc + 1 = q) (hv : x.toInt8.toInt32 = v) (k : Go p e below F (T.setTop (mkF m q Ls (.int v :: st)))) : Go p e below F (T.setTop (mkF m pc Ls (.int x :: st))) := by
  subst hq hv
  exact Go.st (fun t h => XS.i2b A.pt A.1.1 rfl (hb A.1.2.2.2.1 hd) rfl h) k
theorem Here.i2c (A : Here p l e R s m args below meth c Z a0 tbl own nm bc mxl rt n0 T L cells slots) {pc q : Nat} {Ls : Array Slot} {st : List Value} {x v : Int32} (hd : decode bc pc = .ok (.i2c, 1)) (hq : pc + 1 = q) (hv : x.toUInt32.toUInt16.toUInt32.toInt32 = v) (k : Go p e below F (T.setTop (mkF m q Ls (.int v :: st)))) : Go p e below F (T.setTop (mkF m pc Ls (.int x :: st))) := by
  subst hq hv
  exact Go.st (fun t h => XS.i2c A.pt A.1.1 rfl (hb A.1.2.2.2.1 hd) rfl h) k
theorem Here.i2s (A : Here p l e R s m args below meth c Z a0 tbl own nm bc mxl rt n0 T L cells slots) {pc q : Nat} {Ls : Array Slot} {st : List Value} {x v : Int32} (hd : decode bc pc = .ok (.i2s, 1)) (hq : pc + 1 = q) (hv : x.toInt16.toInt32 = v) (k : Go p e below F (T.setTop (mkF m q Ls (.int v :: st)))) : Go p e below F (T.setTop (mkF m pc Ls (.int x :: st))) := by
  subst hq hv
  exact Go.st (fun t h => XS.i2s A.pt A.1.1 rfl (hb A.1.2.2.2.1 hd) rfl h) k
theorem Here.iloadN (A : Here p l e R s m args below meth c Z a0 tbl own nm bc mxl rt n0 T L cells slots) {pc q : Nat} {Ls : Array Slot} {st : List Value} {k : Fin 4} {v : Int32} (hd : decode bc pc = .ok (.iload_n k, 1)) (hq : pc + 1 = q) (hl : Ls[k.val]? = some (.val (.int v))) (k : Go p e below F (T.setTop (mkF m q Ls (.int v :: st)))) : Go p e below F (T.setTop (mkF m pc Ls st)) := by
  subst hq
  exact Go.st (fun t h => XS.iloadN A.pt A.1.1 rfl (hb A.1.2.2.2.1 hd) hl h) k
theorem Here.iload (A : Here p l e R s m args below meth c Z a0 tbl own nm bc mxl rt n0 T L cells slots) {pc q : Nat} {Ls : Array Slot} {st : List Value} {k : Nat} {v : Int32} (hd : decode bc pc = .ok (.iload k, 2)) (hq : pc + 2 = q) (hl : Ls[k]? = some (.val (.int v))) (k : Go p e below F (T.setTop (mkF m q Ls (.int v :: st)))) : Go p e below F (T.setTop (mkF m pc Ls st)) := by
  subst hq
  exact Go.st (fun t h => XS.iload A.pt A.1.1 rfl (hb A.1.2.2.2.1 hd) hl h) k
theorem Here.istoreN (A : Here p l e R s m args below meth c Z a0 tbl own nm bc mxl rt n0 T L cells slots) {pc q : Nat} {Ls : Array Slot} {st : List Value} {k : Fin 4} {v : Int32} {l' : Array Slot} (hd : decode bc pc = .ok (.istore_n k, 1)) (hq : pc + 1 = q) (hl : storeLocals Ls k.val (.int v) = some l') (k : Go p e below F (T.setTop (mkF m q l' st))) : Go p e below F (T.setTop (mkF m pc Ls (.int v :: st))) := by
  subst hq
  exact Go.st (fun t h => XS.istoreN A.pt A.1.1 rfl (hb A.1.2.2.2.1 hd) rfl hl h) k
theorem Here.istore (A : Here p l e R s m args below meth c Z a0 tbl own nm bc mxl rt n0 T L cells slots) {pc q : Nat} {Ls : Array Slot} {st : List Value} {k : Nat} {v : Int32} {l' : Array Slot} (hd : decode bc pc = .ok (.istore k, 2)) (hq : pc + 2 = q) (hl : storeLocals Ls k (.int v) = some l') (k : Go p e below F (T.setTop (mkF m q l' st))) : Go p e below F (T.setTop (mkF m pc Ls (.int v :: st))) := by
  subst hq
  exact Go.st (fun t h => XS.istore A.pt A.1.1 rfl (hb A.1.2.2.2.1 hd) rfl hl h) k
theorem Here.lloadN (A : Here p l e R s m args below meth c Z a0 tbl own nm bc mxl rt n0 T L cells slots) {pc q : Nat} {Ls : Array Slot} {st : List Value} {k : Fin 4} {v : Int64} (hd : decode bc pc = .ok (.lload_n k, 1)) (hq : pc + 1 = q) (hl : Ls[k.val]? = some (.val (.long v))) (k : Go p e below F (T.setTop (mkF m q Ls (.long v :: st)))) : Go p e below F (T.setTop (mkF m pc Ls st)) := by
  subst hq
  exact Go.st (fun t h => XS.lloadN A.pt A.1.1 rfl (hb A.1.2.2.2.1 hd) hl h) k
theorem Here.lload (A : Here p l e R s m args below meth c Z a0 tbl own nm bc mxl rt n0 T L cells slots) {pc q : Nat} {Ls : Array Slot} {st : List Value} {k : Nat} {v : Int64} (hd : decode bc pc = .ok (.lload k, 2)) (hq : pc + 2 = q) (hl : Ls[k]? = some (.val (.long v))) (k : Go p e below F (T.setTop (mkF m q Ls (.long v :: st)))) : Go p e below F (T.setTop (mkF m pc Ls st)) := by
  subst hq
  exact Go.st (fun t h => XS.lload A.pt A.1.1 rfl (hb A.1.2.2.2.1 hd) hl h) k
theorem Here.lstoreN (A : Here p l e R s m args below meth c Z a0 tbl own nm bc mxl rt n0 T L cells slots) {pc q : Nat} {Ls : Array Slot} {st : List Value} {k : Fin 4} {v : Int64} {l' : Array Slot} (hd : decode bc pc = .ok (.lstore_n k, 1)) (hq : pc + 1 = q) (hl : storeLocals Ls k.val (.long v) = some l') (k : Go p e below F (T.setTop (mkF m q l' st))) : Go p e below F (T.setTop (mkF m pc Ls (.long v :: st))) := by
  subst hq
  exact Go.st (fun t h => XS.lstoreN A.pt A.1.1 rfl (hb A.1.2.2.2.1 hd) rfl hl h) k
theorem Here.lstore (A : Here p l e R s m args below meth c Z a0 tbl own nm bc mxl rt n0 T L cells slots) {pc q : Nat} {Ls : Array Slot} {st : List Value} {k : Nat} {v : Int64} {l' : Array Slot} (hd : decode bc pc = .ok (.lstore k, 2)) (hq : pc + 2 = q) (hl : storeLocals Ls k (.long v) = some l') (k : Go p e below F (T.setTop (mkF m q l' st))) : Go p e below F (T.setTop (mkF m pc Ls (.long v :: st))) := by
  subst hq
  exact Go.st (fun t h => XS.lstore A.pt A.1.1 rfl (hb A.1.2.2.2.1 hd) rfl hl h) k
theorem Here.aloadN (A : Here p l e R s m args below meth c Z a0 tbl own nm bc mxl rt n0 T L cells slots) {pc q : Nat} {Ls : Array Slot} {st : List Value} {k : Fin 4} {v : Value} (hd : decode bc pc = .ok (.aload_n k, 1)) (hq : pc + 1 = q) (hl : Ls[k.val]? = some (.val v)) (hr : v.isRef = true) (k : Go p e below F (T.setTop (mkF m q Ls (v :: st)))) : Go p e below F (T.setTop (mkF m pc Ls st)) := by
  subst hq
  exact Go.st (fun t h => XS.aloadN A.pt A.1.1 rfl (hb A.1.2.2.2.1 hd) hl hr h) k
theorem Here.aload (A : Here p l e R s m args below meth c Z a0 tbl own nm bc mxl rt n0 T L cells slots) {pc q : Nat} {Ls : Array Slot} {st : List Value} {k : Nat} {v : Value} (hd : decode bc pc = .ok (.aload k, 2)) (hq : pc + 2 = q) (hl : Ls[k]? = some (.val v)) (hr : v.isRef = true) (k : Go p e below F (T.setTop (mkF m q Ls (v :: st)))) : Go p e below F (T.setTop (mkF m pc Ls st)) := by
  subst hq
  exact Go.st (fun t h => XS.aload A.pt A.1.1 rfl (hb A.1.2.2.2.1 hd) hl hr h) k
theorem Here.astoreN (A : Here p l e R s m args below meth c Z a0 tbl own nm bc mxl rt n0 T L cells slots) {pc q : Nat} {Ls : Array Slot} {st : List Value} {k : Fin 4} {v : Value} {l' : Array Slot} (hd : decode bc pc = .ok (.astore_n k, 1)) (hq : pc + 1 = q) (hr : v.isRef = true) (hl : storeLocals Ls k.val v = some l') (k : Go p e below F (T.setTop (mkF m q l' st))) : Go p e below F (T.setTop (mkF m pc Ls (v :: st))) := by
  subst hq
  exact Go.st (fun t h => XS.astoreN A.pt A.1.1 rfl (hb A.1.2.2.2.1 hd) rfl hr hl h) k
theorem Here.astore (A : Here p l e R s m args below meth c Z a0 tbl own nm bc mxl rt n0 T L cells slots) {pc q : Nat} {Ls : Array Slot} {st : List Value} {k : Nat} {v : Value} {l' : Array Slot} (hd : decode bc pc = .ok (.astore k, 2)) (hq : pc + 2 = q) (hr : v.isRef = true) (hl : storeLocals Ls k v = some l') (k : Go p e below F (T.setTop (mkF m q l' st))) : Go p e below F (T.setTop (mkF m pc Ls (v :: st))) := by
  subst hq
  exact Go.st (fun t h => XS.astore A.pt A.1.1 rfl (hb A.1.2.2.2.1 hd) rfl hr hl h) k
theorem Here.iconst (A : Here p l e R s m args below meth c Z a0 tbl own nm bc mxl rt n0 T L cells slots) {pc q : Nat} {Ls : Array Slot} {st : List Value} {i : Int} {v : Int32} (hd : decode bc pc = .ok (.iconst i, 1)) (hq : pc + 1 = q) (hv : Int32.ofInt i = v) (k : Go p e below F (T.setTop (mkF m q Ls (.int v :: st)))) : Go p e below F (T.setTop (mkF m pc Ls st)) := by
  subst hq hv
  exact Go.st (fun t h => XS.iconst A.pt A.1.1 rfl (hb A.1.2.2.2.1 hd)  h) k
theorem Here.bipush (A : Here p l e R s m args below meth c Z a0 tbl own nm bc mxl rt n0 T L cells slots) {pc q : Nat} {Ls : Array Slot} {st : List Value} {i : Int} {v : Int32} (hd : decode bc pc = .ok (.bipush i, 2)) (hq : pc + 2 = q) (hv : (Int8.ofInt i).toInt32 = v) (k : Go p e below F (T.setTop (mkF m q Ls (.int v :: st)))) : Go p e below F (T.setTop (mkF m pc Ls st)) := by
  subst hq hv
  exact Go.st (fun t h => XS.bipush A.pt A.1.1 rfl (hb A.1.2.2.2.1 hd)  h) k
theorem Here.sipush (A : Here p l e R s m args below meth c Z a0 tbl own nm bc mxl rt n0 T L cells slots) {pc q : Nat} {Ls : Array Slot} {st : List Value} {i : Int} {v : Int32} (hd : decode bc pc = .ok (.sipush i, 3)) (hq : pc + 3 = q) (hv : (Int16.ofInt i).toInt32 = v) (k : Go p e below F (T.setTop (mkF m q Ls (.int v :: st)))) : Go p e below F (T.setTop (mkF m pc Ls st)) := by
  subst hq hv
  exact Go.st (fun t h => XS.sipush A.pt A.1.1 rfl (hb A.1.2.2.2.1 hd)  h) k
theorem Here.lconst (A : Here p l e R s m args below meth c Z a0 tbl own nm bc mxl rt n0 T L cells slots) {pc q : Nat} {Ls : Array Slot} {st : List Value} {i : Fin 2} {v : Int64} (hd : decode bc pc = .ok (.lconst i, 1)) (hq : pc + 1 = q) (hv : Int64.ofNat i = v) (k : Go p e below F (T.setTop (mkF m q Ls (.long v :: st)))) : Go p e below F (T.setTop (mkF m pc Ls st)) := by
  subst hq hv
  exact Go.st (fun t h => XS.lconst A.pt A.1.1 rfl (hb A.1.2.2.2.1 hd)  h) k
theorem Here.aconst_null (A : Here p l e R s m args below meth c Z a0 tbl own nm bc mxl rt n0 T L cells slots) {pc q : Nat} {Ls : Array Slot} {st : List Value}  (hd : decode bc pc = .ok (.aconst_null, 1)) (hq : pc + 1 = q)  (k : Go p e below F (T.setTop (mkF m q Ls (.null :: st)))) : Go p e below F (T.setTop (mkF m pc Ls st)) := by
  subst hq
  exact Go.st (fun t h => XS.aconstNull A.pt A.1.1 rfl (hb A.1.2.2.2.1 hd)  h) k
theorem Here.dup (A : Here p l e R s m args below meth c Z a0 tbl own nm bc mxl rt n0 T L cells slots) {pc q : Nat} {Ls : Array Slot} {st : List Value} {v : Value} (hd : decode bc pc = .ok (.dup, 1)) (hq : pc + 1 = q) (hc : v.category = 1) (k : Go p e below F (T.setTop (mkF m q Ls (v :: v :: st)))) : Go p e below F (T.setTop (mkF m pc Ls (v :: st))) := by
  subst hq
  exact Go.st (fun t h => XS.dup A.pt A.1.1 rfl (hb A.1.2.2.2.1 hd) rfl hc h) k
theorem Here.dup_x1 (A : Here p l e R s m args below meth c Z a0 tbl own nm bc mxl rt n0 T L cells slots) {pc q : Nat} {Ls : Array Slot} {st : List Value} {v w : Value} (hd : decode bc pc = .ok (.dup_x1, 1)) (hq : pc + 1 = q) (hc : v.category = 1) (hc' : w.category = 1) (k : Go p e below F (T.setTop (mkF m q Ls (v :: w :: v :: st)))) : Go p e below F (T.setTop (mkF m pc Ls (v :: w :: st))) := by
  subst hq
  exact Go.st (fun t h => XS.dupX1 A.pt A.1.1 rfl (hb A.1.2.2.2.1 hd) rfl hc hc' h) k
theorem Here.dup2 (A : Here p l e R s m args below meth c Z a0 tbl own nm bc mxl rt n0 T L cells slots) {pc q : Nat} {Ls : Array Slot} {st : List Value} {v w : Value} (hd : decode bc pc = .ok (.dup2, 1)) (hq : pc + 1 = q) (hc : v.category = 1) (hc' : w.category = 1) (k : Go p e below F (T.setTop (mkF m q Ls (v :: w :: v :: w :: st)))) : Go p e below F (T.setTop (mkF m pc Ls (v :: w :: st))) := by
  subst hq
  exact Go.st (fun t h => XT.dup2 A.pt A.1.1 rfl (hb A.1.2.2.2.1 hd) rfl hc hc' h) k
theorem Here.pop (A : Here p l e R s m args below meth c Z a0 tbl own nm bc mxl rt n0 T L cells slots) {pc q : Nat} {Ls : Array Slot} {st : List Value} {v : Value} (hd : decode bc pc = .ok (.pop, 1)) (hq : pc + 1 = q) (hc : v.category = 1) (k : Go p e below F (T.setTop (mkF m q Ls st))) : Go p e below F (T.setTop (mkF m pc Ls (v :: st))) := by
  subst hq
  exact Go.st (fun t h => XS.pop A.pt A.1.1 rfl (hb A.1.2.2.2.1 hd) rfl hc h) k
theorem Here.iinc (A : Here p l e R s m args below meth c Z a0 tbl own nm bc mxl rt n0 T L cells slots) {pc q : Nat} {Ls : Array Slot} {st : List Value} {k : Nat} {cst : Int} {x v : Int32} {l' : Array Slot} (hd : decode bc pc = .ok (.iinc k cst, 3)) (hq : pc + 3 = q) (hl : Ls[k]? = some (.val (.int x))) (hv : x + Int32.ofInt cst = v) (hl' : storeLocals Ls k (.int v) = some l') (k : Go p e below F (T.setTop (mkF m q l' st))) : Go p e below F (T.setTop (mkF m pc Ls st)) := by
  subst hq hv
  exact Go.st (fun t h => XS.iinc A.pt A.1.1 rfl (hb A.1.2.2.2.1 hd) hl hl' h) k
theorem Here.goto (A : Here p l e R s m args below meth c Z a0 tbl own nm bc mxl rt n0 T L cells slots) {pc r : Nat} {Ls : Array Slot} {st : List Value} {o : Int} (hd : decode bc pc = .ok (.goto o, 3)) (hr : (pc : Int) + o = (r : Int)) (k : Go p e below F (T.setTop (mkF m r Ls st))) : Go p e below F (T.setTop (mkF m pc Ls st)) :=
  Go.st (fun t h => XS.goto A.pt A.1.1 rfl (pc0 := pc) (pc' := r) rfl (hb A.1.2.2.2.1 hd) (by omega) (by omega) h) k
theorem Here.icmp_lt (A : Here p l e R s m args below meth c Z a0 tbl own nm bc mxl rt n0 T L cells slots) {pc q r : Nat} {Ls : Array Slot} {st : List Value} {x y : Int32} {o : Int} (hd : decode bc pc = .ok (.if_icmp .lt o, 3)) (hq : pc + 3 = q) (hr : (pc : Int) + o = (r : Int)) (kt : x < y → Go p e below F (T.setTop (mkF m r Ls st))) (kf : ¬ (x < y) → Go p e below F (T.setTop (mkF m q Ls st))) : Go p e below F (T.setTop (mkF m pc Ls (.int y :: .int x :: st))) := by
  by_cases hc : x < y
  · exact Go.st (fun t h => XS.icmpYes A.pt A.1.1 rfl (pc0 := pc) (pc' := r) rfl (hb A.1.2.2.2.1 hd) rfl (tlt hc).1 (by omega) (by omega) h) (kt hc)
  · subst hq; exact Go.st (fun t h => XS.icmpNo A.pt A.1.1 rfl (hb A.1.2.2.2.1 hd) rfl (flt hc).1 h) (kf hc)
theorem Here.if_lt (A : Here p l e R s m args below meth c Z a0 tbl own nm bc mxl rt n0 T L cells slots) {pc q r : Nat} {Ls : Array Slot} {st : List Value} {x : Int32} {o : Int} (hd : decode bc pc = .ok (.ifCond .lt o, 3)) (hq : pc + 3 = q) (hr : (pc : Int) + o = (r : Int)) (kt : x < (0 : Int32) → Go p e below F (T.setTop (mkF m r Ls st))) (kf : ¬ (x < (0 : Int32)) → Go p e below F (T.setTop (mkF m q Ls st))) : Go p e below F (T.setTop (mkF m pc Ls (.int x :: st))) := by
  by_cases hc : x < (0 : Int32)
  · exact Go.st (fun t h => XS.ifYes A.pt A.1.1 rfl (pc0 := pc) (pc' := r) rfl (hb A.1.2.2.2.1 hd) rfl ((if0 _ _).trans (tlt hc).1) (by omega) (by omega) h) (kt hc)
  · subst hq; exact Go.st (fun t h => XS.ifNo A.pt A.1.1 rfl (hb A.1.2.2.2.1 hd) rfl ((if0 _ _).trans (flt hc).1) h) (kf hc)
theorem Here.icmp_ge (A : Here p l e R s m args below meth c Z a0 tbl own nm bc mxl rt n0 T L cells slots) {pc q r : Nat} {Ls : Array Slot} {st : List Value} {x y : Int32} {o : Int} (hd : decode bc pc = .ok (.if_icmp .ge o, 3)) (hq : pc + 3 = q) (hr : (pc : Int) + o = (r : Int)) (kt : ¬ (x < y) → Go p e below F (T.setTop (mkF m r Ls st))) (kf : x < y → Go p e below F (T.setTop (mkF m q Ls st))) : Go p e below F (T.setTop (mkF m pc Ls (.int y :: .int x :: st))) := by
  by_cases hc : x < y
  · subst hq; exact Go.st (fun t h => XS.icmpNo A.pt A.1.1 rfl (hb A.1.2.2.2.1 hd) rfl (tlt hc).2.1 h) (kf hc)
  · exact Go.st (fun t h => XS.icmpYes A.pt A.1.1 rfl (pc0 := pc) (pc' := r) rfl (hb A.1.2.2.2.1 hd) rfl (flt hc).2.1 (by omega) (by omega) h) (kt hc)
theorem Here.if_ge (A : Here p l e R s m args below meth c Z a0 tbl own nm bc mxl rt n0 T L cells slots) {pc q r : Nat} {Ls : Array Slot} {st : List Value} {x : Int32} {o : Int} (hd : decode bc pc = .ok (.ifCond .ge o, 3)) (hq : pc + 3 = q) (hr : (pc : Int) + o = (r : Int)) (kt : ¬ (x < (0 : Int32)) → Go p e below F (T.setTop (mkF m r Ls st))) (kf : x < (0 : Int32) → Go p e below F (T.setTop (mkF m q Ls st))) : Go p e below F (T.setTop (mkF m pc Ls (.int x :: st))) := by
  by_cases hc : x < (0 : Int32)
  · subst hq; exact Go.st (fun t h => XS.ifNo A.pt A.1.1 rfl (hb A.1.2.2.2.1 hd) rfl ((if0 _ _).trans (tlt hc).2.1) h) (kf hc)
  · exact Go.st (fun t h => XS.ifYes A.pt A.1.1 rfl (pc0 := pc) (pc' := r) rfl (hb A.1.2.2.2.1 hd) rfl ((if0 _ _).trans (flt hc).2.1) (by omega) (by omega) h) (kt hc)
theorem Here.icmp_gt (A : Here p l e R s m args below meth c Z a0 tbl own nm bc mxl rt n0 T L cells slots) {pc q r : Nat} {Ls : Array Slot} {st : List Value} {x y : Int32} {o : Int} (hd : decode bc pc = .ok (.if_icmp .gt o, 3)) (hq : pc + 3 = q) (hr : (pc : Int) + o = (r : Int)) (kt : y < x → Go p e below F (T.setTop (mkF m r Ls st))) (kf : ¬ (y < x) → Go p e below F (T.setTop (mkF m q Ls st))) : Go p e below F (T.setTop (mkF m pc Ls (.int y :: .int x :: st))) := by
  by_cases hc : y < x
  · exact Go.st (fun t h => XS.icmpYes A.pt A.1.1 rfl (pc0 := pc) (pc' := r) rfl (hb A.1.2.2.2.1 hd) rfl (tlt hc).2.2.1 (by omega) (by omega) h) (kt hc)
  · subst hq; exact Go.st (fun t h => XS.icmpNo A.pt A.1.1 rfl (hb A.1.2.2.2.1 hd) rfl (flt hc).2.2.1 h) (kf hc)
theorem Here.if_gt (A : Here p l e R s m args below meth c Z a0 tbl own nm bc mxl rt n0 T L cells slots) {pc q r : Nat} {Ls : Array Slot} {st : List Value} {x : Int32} {o : Int} (hd : decode bc pc = .ok (.ifCond .gt o, 3)) (hq : pc + 3 = q) (hr : (pc : Int) + o = (r : Int)) (kt : (0 : Int32) < x → Go p e below F (T.setTop (mkF m r Ls st))) (kf : ¬ ((0 : Int32) < x) → Go p e below F (T.setTop (mkF m q Ls st))) : Go p e below F (T.setTop (mkF m pc Ls (.int x :: st))) := by
  by_cases hc : (0 : Int32) < x
  · exact Go.st (fun t h => XS.ifYes A.pt A.1.1 rfl (pc0 := pc) (pc' := r) rfl (hb A.1.2.2.2.1 hd) rfl ((if0 _ _).trans (tlt hc).2.2.1) (by omega) (by omega) h) (kt hc)
  · subst hq; exact Go.st (fun t h => XS.ifNo A.pt A.1.1 rfl (hb A.1.2.2.2.1 hd) rfl ((if0 _ _).trans (flt hc).2.2.1) h) (kf hc)
theorem Here.icmp_le (A : Here p l e R s m args below meth c Z a0 tbl own nm bc mxl rt n0 T L cells slots) {pc q r : Nat} {Ls : Array Slot} {st : List Value} {x y : Int32} {o : Int} (hd : decode bc pc = .ok (.if_icmp .le o, 3)) (hq : pc + 3 = q) (hr : (pc : Int) + o = (r : Int)) (kt : ¬ (y < x) → Go p e below F (T.setTop (mkF m r Ls st))) (kf : y < x → Go p e below F (T.setTop (mkF m q Ls st))) : Go p e below F (T.setTop (mkF m pc Ls (.int y :: .int x :: st))) := by
  by_cases hc : y < x
  · subst hq; exact Go.st (fun t h => XS.icmpNo A.pt A.1.1 rfl (hb A.1.2.2.2.1 hd) rfl (tlt hc).2.2.2 h) (kf hc)
  · exact Go.st (fun t h => XS.icmpYes A.pt A.1.1 rfl (pc0 := pc) (pc' := r) rfl (hb A.1.2.2.2.1 hd) rfl (flt hc).2.2.2 (by omega) (by omega) h) (kt hc)
theorem Here.if_le (A : Here p l e R s m args below meth c Z a0 tbl own nm bc mxl rt n0 T L cells slots) {pc q r : Nat} {Ls : Array Slot} {st : List Value} {x : Int32} {o : Int} (hd : decode bc pc = .ok (.ifCond .le o, 3)) (hq : pc + 3 = q) (hr : (pc : Int) + o = (r : Int)) (kt : ¬ ((0 : Int32) < x) → Go p e below F (T.setTop (mkF m r Ls st))) (kf : (0 : Int32) < x → Go p e below F (T.setTop (mkF m q Ls st))) : Go p e below F (T.setTop (mkF m pc Ls (.int x :: st))) := by
  by_cases hc : (0 : Int32) < x
  · subst hq; exact Go.st (fun t h => XS.ifNo A.pt A.1.1 rfl (hb A.1.2.2.2.1 hd) rfl ((if0 _ _).trans (tlt hc).2.2.2) h) (kf hc)
  · exact Go.st (fun t h => XS.ifYes A.pt A.1.1 rfl (pc0 := pc) (pc' := r) rfl (hb A.1.2.2.2.1 hd) rfl ((if0 _ _).trans (flt hc).2.2.2) (by omega) (by omega) h) (kt hc)
theorem Here.icmp_eq (A : Here p l e R s m args below meth c Z a0 tbl own nm bc mxl rt n0 T L cells slots) {pc q r : Nat} {Ls : Array Slot} {st : List Value} {x y : Int32} {o : Int} (hd : decode bc pc = .ok (.if_icmp .eq o, 3)) (hq : pc + 3 = q) (hr : (pc : Int) + o = (r : Int)) (kt : x = y → Go p e below F (T.setTop (mkF m r Ls st))) (kf : ¬ (x = y) → Go p e below F (T.setTop (mkF m q Ls st))) : Go p e below F (T.setTop (mkF m pc Ls (.int y :: .int x :: st))) := by
  by_cases hc : x = y
  · exact Go.st (fun t h => XS.icmpYes A.pt A.1.1 rfl (pc0 := pc) (pc' := r) rfl (hb A.1.2.2.2.1 hd) rfl (teq hc).1 (by omega) (by omega) h) (kt hc)
  · subst hq; exact Go.st (fun t h => XS.icmpNo A.pt A.1.1 rfl (hb A.1.2.2.2.1 hd) rfl (feq hc).1 h) (kf hc)
theorem Here.if_eq (A : Here p l e R s m args below meth c Z a0 tbl own nm bc mxl rt n0 T L cells slots) {pc q r : Nat} {Ls : Array Slot} {st : List Value} {x : Int32} {o : Int} (hd : decode bc pc = .ok (.ifCond .eq o, 3)) (hq : pc + 3 = q) (hr : (pc : Int) + o = (r : Int)) (kt : x = (0 : Int32) → Go p e below F (T.setTop (mkF m r Ls st))) (kf : ¬ (x = (0 : Int32)) → Go p e below F (T.setTop (mkF m q Ls st))) : Go p e below F (T.setTop (mkF m pc Ls (.int x :: st))) := by
  by_cases hc : x = (0 : Int32)
  · exact Go.st (fun t h => XS.ifYes A.pt A.1.1 rfl (pc0 := pc) (pc' := r) rfl (hb A.1.2.2.2.1 hd) rfl ((if0 _ _).trans (teq hc).1) (by omega) (by omega) h) (kt hc)
  · subst hq; exact Go.st (fun t h => XS.ifNo A.pt A.1.1 rfl (hb A.1.2.2.2.1 hd) rfl ((if0 _ _).trans (feq hc).1) h) (kf hc)
theorem Here.icmp_ne (A : Here p l e R s m args below meth c Z a0 tbl own nm bc mxl rt n0 T L cells slots) {pc q r : Nat} {Ls : Array Slot} {st : List Value} {x y : Int32} {o : Int} (hd : decode bc pc = .ok (.if_icmp .ne o, 3)) (hq : pc + 3 = q) (hr : (pc : Int) + o = (r : Int)) (kt : ¬ (x = y) → Go p e below F (T.setTop (mkF m r Ls st))) (kf : x = y → Go p e below F (T.setTop (mkF m q Ls st))) : Go p e below F (T.setTop (mkF m pc Ls (.int y :: .int x :: st))) := by
  by_cases hc : x = y
  · subst hq; exact Go.st (fun t h => XS.icmpNo A.pt A.1.1 rfl (hb A.1.2.2.2.1 hd) rfl (teq hc).2 h) (kf hc)
  · exact Go.st (fun t h => XS.icmpYes A.pt A.1.1 rfl (pc0 := pc) (pc' := r) rfl (hb A.1.2.2.2.1 hd) rfl (feq hc).2 (by omega) (by omega) h) (kt hc)
theorem Here.if_ne (A : Here p l e R s m args below meth c Z a0 tbl own nm bc mxl rt n0 T L cells slots) {pc q r : Nat} {Ls : Array Slot} {st : List Value} {x : Int32} {o : Int} (hd : decode bc pc = .ok (.ifCond .ne o, 3)) (hq : pc + 3 = q) (hr : (pc : Int) + o = (r : Int)) (kt : ¬ (x = (0 : Int32)) → Go p e below F (T.setTop (mkF m r Ls st))) (kf : x = (0 : Int32) → Go p e below F (T.setTop (mkF m q Ls st))) : Go p e below F (T.setTop (mkF m pc Ls (.int x :: st))) := by
  by_cases hc : x = (0 : Int32)
  · subst hq; exact Go.st (fun t h => XS.ifNo A.pt A.1.1 rfl (hb A.1.2.2.2.1 hd) rfl ((if0 _ _).trans (teq hc).2) h) (kf hc)
  · exact Go.st (fun t h => XS.ifYes A.pt A.1.1 rfl (pc0 := pc) (pc' := r) rfl (hb A.1.2.2.2.1 hd) rfl ((if0 _ _).trans (feq hc).2) (by omega) (by omega) h) (kt hc)
theorem Here.icmpT (A : Here p l e R s m args below meth c Z a0 tbl own nm bc mxl rt n0 T L cells slots) {pc r : Nat} {Ls : Array Slot} {st : List Value} {x y : Int32} {o : Int} {cd : ClassFile.Cond} (hd : decode bc pc = .ok (.if_icmp cd o, 3)) (hr : (pc : Int) + o = (r : Int)) (hc : if_icmp.holds cd x y = true) (k : Go p e below F (T.setTop (mkF m r Ls st))) : Go p e below F (T.setTop (mkF m pc Ls (.int y :: .int x :: st))) :=
  Go.st (fun t h => XS.icmpYes A.pt A.1.1 rfl (pc0 := pc) (pc' := r) rfl (hb A.1.2.2.2.1 hd) rfl hc (by omega) (by omega) h) k
theorem Here.icmpF (A : Here p l e R s m args below meth c Z a0 tbl own nm bc mxl rt n0 T L cells slots) {pc q : Nat} {Ls : Array Slot} {st : List Value} {x y : Int32} {o : Int} {cd : ClassFile.Cond} (hd : decode bc pc = .ok (.if_icmp cd o, 3)) (hq : pc + 3 = q) (hc : if_icmp.holds cd x y = false) (k : Go p e below F (T.setTop (mkF m q Ls st))) : Go p e below F (T.setTop (mkF m pc Ls (.int y :: .int x :: st))) := by
  subst hq; exact Go.st (fun t h => XS.icmpNo A.pt A.1.1 rfl (hb A.1.2.2.2.1 hd) rfl hc h) k
theorem Here.ifT (A : Here p l e R s m args below meth c Z a0 tbl own nm bc mxl rt n0 T L cells slots) {pc r : Nat} {Ls : Array Slot} {st : List Value} {x : Int32} {o : Int} {cd : ClassFile.Cond} (hd : decode bc pc = .ok (.ifCond cd o, 3)) (hr : (pc : Int) + o = (r : Int)) (hc : ifCond.holds cd x = true) (k : Go p e below F (T.setTop (mkF m r Ls st))) : Go p e below F (T.setTop (mkF m pc Ls (.int x :: st))) :=
  Go.st (fun t h => XS.ifYes A.pt A.1.1 rfl (pc0 := pc) (pc' := r) rfl (hb A.1.2.2.2.1 hd) rfl hc (by omega) (by omega) h) k
theorem Here.ifF (A : Here p l e R s m args below meth c Z a0 tbl own nm bc mxl rt n0 T L cells slots) {pc q : Nat} {Ls : Array Slot} {st : List Value} {x : Int32} {o : Int} {cd : ClassFile.Cond} (hd : decode bc pc = .ok (.ifCond cd o, 3)) (hq : pc + 3 = q) (hc : ifCond.holds cd x = false) (k : Go p e below F (T.setTop (mkF m q Ls st))) : Go p e below F (T.setTop (mkF m pc Ls (.int x :: st))) := by
  subst hq; exact Go.st (fun t h => XS.ifNo A.pt A.1.1 rfl (hb A.1.2.2.2.1 hd) rfl hc h) k
theorem Here.lcmp_lt (A : Here p l e R s m args below meth c Z a0 tbl own nm bc mxl rt n0 T L cells slots) {pc q q2 r : Nat} {Ls : Array Slot} {st : List Value} {x y : Int64} {o : Int} (hd : decode bc pc = .ok (.lcmp, 1)) (hq : pc + 1 = q) (hd2 : decode bc q = .ok (.ifCond .lt o, 3)) (hq2 : q + 3 = q2) (hr : (q : Int) + o = (r : Int)) (kt : x < y → Go p e below F (T.setTop (mkF m r Ls st))) (kf : ¬ (x < y) → Go p e below F (T.setTop (mkF m q2 Ls st))) : Go p e below F (T.setTop (mkF m pc Ls (.long y :: .long x :: st))) := by
  have key : Go p e below F (T.setTop (mkF m q Ls (.int (lcmpW x y) :: st))) := by
    by_cases hc : x < y
    · exact A.ifT hd2 hr ((if0 _ _).trans (tlt ((lw_lt x y).mpr hc)).1) (kt hc)
    · exact A.ifF hd2 hq2 ((if0 _ _).trans (flt (mt (lw_lt x y).mp hc)).1) (kf hc)
  subst hq
  exact Go.st (fun t h => XS.lcmp A.pt A.1.1 rfl (hb A.1.2.2.2.1 hd) rfl h) key
theorem Here.lcmp_ge (A : Here p l e R s m args below meth c Z a0 tbl own nm bc mxl rt n0 T L cells slots) {pc q q2 r : Nat} {Ls : Array Slot} {st : List Value} {x y : Int64} {o : Int} (hd : decode bc pc = .ok (.lcmp, 1)) (hq : pc + 1 = q) (hd2 : decode bc q = .ok (.ifCond .ge o, 3)) (hq2 : q + 3 = q2) (hr : (q : Int) + o = (r : Int)) (kt : ¬ (x < y) → Go p e below F (T.setTop (mkF m r Ls st))) (kf : x < y → Go p e below F (T.setTop (mkF m q2 Ls st))) : Go p e below F (T.setTop (mkF m pc Ls (.long y :: .long x :: st))) := by
  have key : Go p e below F (T.setTop (mkF m q Ls (.int (lcmpW x y) :: st))) := by
    by_cases hc : x < y
    · exact A.ifF hd2 hq2 ((if0 _ _).trans (tlt ((lw_lt x y).mpr hc)).2.1) (kf hc)
    · exact A.ifT hd2 hr ((if0 _ _).trans (flt (mt (lw_lt x y).mp hc)).2.1) (kt hc)
  subst hq
  exact Go.st (fun t h => XS.lcmp A.pt A.1.1 rfl (hb A.1.2.2.2.1 hd) rfl h) key
theorem Here.lcmp_gt (A : Here p l e R s m args below meth c Z a0 tbl own nm bc mxl rt n0 T L cells slots) {pc q q2 r : Nat} {Ls : Array Slot} {st : List Value} {x y : Int64} {o : Int} (hd : decode bc pc = .ok (.lcmp, 1)) (hq : pc + 1 = q) (hd2 : decode bc q = .ok (.ifCond .gt o, 3)) (hq2 : q + 3 = q2) (hr : (q : Int) + o = (r : Int)) (kt : y < x → Go p e below F (T.setTop (mkF m r Ls st))) (kf : ¬ (y < x) → Go p e below F (T.setTop (mkF m q2 Ls st))) : Go p e below F (T.setTop (mkF m pc Ls (.long y :: .long x :: st))) := by
  have key : Go p e below F (T.setTop (mkF m q Ls (.int (lcmpW x y) :: st))) := by
    by_cases hc : y < x
    · exact A.ifT hd2 hr ((if0 _ _).trans (tlt ((lw_gt x y).mpr hc)).2.2.1) (kt hc)
    · exact A.ifF hd2 hq2 ((if0 _ _).trans (flt (mt (lw_gt x y).mp hc)).2.2.1) (kf hc)
  subst hq
  exact Go.st (fun t h => XS.lcmp A.pt A.1.1 rfl (hb A.1.2.2.2.1 hd) rfl h) key
theorem Here.lcmp_le (A : Here p l e R s m args below meth c Z a0 tbl own nm bc mxl rt n0 T L cells slots) {pc q q2 r : Nat} {Ls : Array Slot} {st : List Value} {x y : Int64} {o : Int} (hd : decode bc pc = .ok (.lcmp, 1)) (hq : pc + 1 = q) (hd2 : decode bc q = .ok (.ifCond .le o, 3)) (hq2 : q + 3 = q2) (hr : (q : Int) + o = (r : Int)) (kt : ¬ (y < x) → Go p e below F (T.setTop (mkF m r Ls st))) (kf : y < x → Go p e below F (T.setTop (mkF m q2 Ls st))) : Go p e below F (T.setTop (mkF m pc Ls (.long y :: .long x :: st))) := by
  have key : Go p e below F (T.setTop (mkF m q Ls (.int (lcmpW x y) :: st))) := by
    by_cases hc : y < x
    · exact A.ifF hd2 hq2 ((if0 _ _).trans (tlt ((lw_gt x y).mpr hc)).2.2.2) (kf hc)
    · exact A.ifT hd2 hr ((if0 _ _).trans (flt (mt (lw_gt x y).mp hc)).2.2.2) (kt hc)
  subst hq
  exact Go.st (fun t h => XS.lcmp A.pt A.1.1 rfl (hb A.1.2.2.2.1 hd) rfl h) key
theorem Here.lcmp_eq (A : Here p l e R s m args below meth c Z a0 tbl own nm bc mxl rt n0 T L cells slots) {pc q q2 r : Nat} {Ls : Array Slot} {st : List Value} {x y : Int64} {o : Int} (hd : decode bc pc = .ok (.lcmp, 1)) (hq : pc + 1 = q) (hd2 : decode bc q = .ok (.ifCond .eq o, 3)) (hq2 : q + 3 = q2) (hr : (q : Int) + o = (r : Int)) (kt : x = y → Go p e below F (T.setTop (mkF m r Ls st))) (kf : ¬ (x = y) → Go p e below F (T.setTop (mkF m q2 Ls st))) : Go p e below F (T.setTop (mkF m pc Ls (.long y :: .long x :: st))) := by
  have key : Go p e below F (T.setTop (mkF m q Ls (.int (lcmpW x y) :: st))) := by
    by_cases hc : x = y
    · exact A.ifT hd2 hr ((if0 _ _).trans (teq ((lw_eq x y).mpr hc)).1) (kt hc)
    · exact A.ifF hd2 hq2 ((if0 _ _).trans (feq (mt (lw_eq x y).mp hc)).1) (kf hc)
  subst hq
  exact Go.st (fun t h => XS.lcmp A.pt A.1.1 rfl (hb A.1.2.2.2.1 hd) rfl h) key
theorem Here.lcmp_ne (A : Here p l e R s m args below meth c Z a0 tbl own nm bc mxl rt n0 T L cells slots) {pc q q2 r : Nat} {Ls : Array Slot} {st : List Value} {x y : Int64} {o : Int} (hd : decode bc pc = .ok (.lcmp, 1)) (hq : pc + 1 = q) (hd2 : decode bc q = .ok (.ifCond .ne o, 3)) (hq2 : q + 3 = q2) (hr : (q : Int) + o = (r : Int)) (kt : ¬ (x = y) → Go p e below F (T.setTop (mkF m r Ls st))) (kf : x = y → Go p e below F (T.setTop (mkF m q2 Ls st))) : Go p e below F (T.setTop (mkF m pc Ls (.long y :: .long x :: st))) := by
  have key : Go p e below F (T.setTop (mkF m q Ls (.int (lcmpW x y) :: st))) := by
    by_cases hc : x = y
    · exact A.ifF hd2 hq2 ((if0 _ _).trans (teq ((lw_eq x y).mpr hc)).2) (kf hc)
    · exact A.ifT hd2 hr ((if0 _ _).trans (feq (mt (lw_eq x y).mp hc)).2) (kt hc)
  subst hq
  exact Go.st (fun t h => XS.lcmp A.pt A.1.1 rfl (hb A.1.2.2.2.1 hd) rfl h) key
theorem Here.ifnonnullT (A : Here p l e R s m args below meth c Z a0 tbl own nm bc mxl rt n0 T L cells slots) {pc r : Nat} {Ls : Array Slot} {st : List Value} {b : Addr} {o : Int} (hd : decode bc pc = .ok (.ifnonnull o, 3)) (hr : (pc : Int) + o = (r : Int)) (k : Go p e below F (T.setTop (mkF m r Ls st))) : Go p e below F (T.setTop (mkF m pc Ls (.ref b :: st))) :=
  Go.st (fun t h => XS.ifnonnullYes A.pt A.1.1 rfl (pc0 := pc) (pc' := r) rfl (hb A.1.2.2.2.1 hd) rfl (by omega) (by omega) h) k
theorem Here.ifnonnullF (A : Here p l e R s m args below meth c Z a0 tbl own nm bc mxl rt n0 T L cells slots) {pc q : Nat} {Ls : Array Slot} {st : List Value} {o : Int} (hd : decode bc pc = .ok (.ifnonnull o, 3)) (hq : pc + 3 = q) (k : Go p e below F (T.setTop (mkF m q Ls st))) : Go p e below F (T.setTop (mkF m pc Ls (.null :: st))) := by
  subst hq; exact Go.st (fun t h => XS.ifnonnullNo A.pt A.1.1 rfl (hb A.1.2.2.2.1 hd) rfl h) k
theorem Here.ifnullT (A : Here p l e R s m args below meth c Z a0 tbl own nm bc mxl rt n0 T L cells slots) {pc r : Nat} {Ls : Array Slot} {st : List Value} {o : Int} (hd : decode bc pc = .ok (.ifnull o, 3)) (hr : (pc : Int) + o = (r : Int)) (k : Go p e below F (T.setTop (mkF m r Ls st))) : Go p e below F (T.setTop (mkF m pc Ls (.null :: st))) :=
  Go.st (fun t h => XS.ifnullYes A.pt A.1.1 rfl (pc0 := pc) (pc' := r) rfl (hb A.1.2.2.2.1 hd) rfl (by omega) (by omega) h) k
theorem Here.ifnullF (A : Here p l e R s m args below meth c Z a0 tbl own nm bc mxl rt n0 T L cells slots) {pc q : Nat} {Ls : Array Slot} {st : List Value} {b : Addr} {o : Int} (hd : decode bc pc = .ok (.ifnull o, 3)) (hq : pc + 3 = q) (k : Go p e below F (T.setTop (mkF m q Ls st))) : Go p e below F (T.setTop (mkF m pc Ls (.ref b :: st))) := by
  subst hq; exact Go.st (fun t h => XS.ifnullNo A.pt A.1.1 rfl (hb A.1.2.2.2.1 hd) rfl h) k
theorem Here.acmp (A : Here p l e R s m args below meth c Z a0 tbl own nm bc mxl rt n0 T L cells slots) {pc r : Nat} {Ls : Array Slot} {st : List Value} {x y : Value} {cd : ACond} {o : Int} {same : Bool} (hd : decode bc pc = .ok (.if_acmp cd o, 3)) (h1 : x.isRef = true) (h2 : y.isRef = true) (hs : decide (x = y) = same) (ho : 0 ≤ (pc : Int) + o) (hp : r = if acV cd same = true then ((pc : Int) + o).toNat else pc + 3) (k : Go p e below F (T.setTop (mkF m r Ls st))) : Go p e below F (T.setTop (mkF m pc Ls (y :: x :: st))) := by
  obtain ⟨_, X, _⟩ := A.2
  exact Go.st (fun t h => Jvm.RoadKit.acmp X A.1.1 rfl h1 h2 (pc0 := pc) (pc' := r) (same := same) rfl (hb A.1.2.2.2.1 hd) rfl hs ho hp h) k
theorem Here.ldc (A : Here p l e R s m args below meth c Z a0 tbl own nm bc mxl rt n0 T L cells slots) {pc q w index : Nat} {Ls : Array Slot} {st : List Value} {v : Int32} (hd : decode bc pc = .ok (.ldc index, 2)) (hq : pc + 2 = q) (hw : tbl[w]? = some (Jvm.Cond.constant own index v)) (k : Go p e below F (T.setTop (mkF m q Ls (.int v :: st)))) : Go p e below F (T.setTop (mkF m pc Ls st)) := by
  obtain ⟨⟨hx, hZ, hown, hby, hml, hww, hnm, hrt, hlk⟩, locs, X, N, Z0, P⟩ := id A
  subst hq
  exact Go.st (X.ldcInt hx hown (mvT hZ (hww _ (List.mem_of_getElem? hw))) (g := mkF m pc Ls st) rfl (hb hby hd)) k
theorem Here.ldc_w (A : Here p l e R s m args below meth c Z a0 tbl own nm bc mxl rt n0 T L cells slots) {pc q w index : Nat} {Ls : Array Slot} {st : List Value} {v : Int32} (hd : decode bc pc = .ok (.ldc_w index, 3)) (hq : pc + 3 = q) (hw : tbl[w]? = some (Jvm.Cond.constant own index v)) (k : Go p e below F (T.setTop (mkF m q Ls (.int v :: st)))) : Go p e below F (T.setTop (mkF m pc Ls st)) := by
  obtain ⟨⟨hx, hZ, hown, hby, hml, hww, hnm, hrt, hlk⟩, locs, X, N, Z0, P⟩ := id A
  subst hq
  exact Go.st (X.ldcwInt hx hown (mvT hZ (hww _ (List.mem_of_getElem? hw))) (g := mkF m pc Ls st) rfl (hb hby hd)) k
theorem Here.ldc2_w (A : Here p l e R s m args below meth c Z a0 tbl own nm bc mxl rt n0 T L cells slots) {pc q w index : Nat} {Ls : Array Slot} {st : List Value} {v : Int64} (hd : decode bc pc = .ok (.ldc2_w index, 3)) (hq : pc + 3 = q) (hw : tbl[w]? = some (Jvm.Cond.constantLong own index v)) (k : Go p e below F (T.setTop (mkF m q Ls (.long v :: st)))) : Go p e below F (T.setTop (mkF m pc Ls st)) := by
  obtain ⟨⟨hx, hZ, hown, hby, hml, hww, hnm, hrt, hlk⟩, locs, X, N, Z0, P⟩ := id A
  subst hq
  exact Go.st (X.ldc2Long hx hown (mvT hZ (hww _ (List.mem_of_getElem? hw))) (g := mkF m pc Ls st) rfl (hb hby hd)) k
theorem Here.getF (A : Here p l e R s m args below meth c Z a0 tbl own nm bc mxl rt n0 T L cells slots) {pc q w i j index : Nat} {Ls : Array Slot} {st : List Value} {O n d C : String} {a : Addr} {fs : List ((String × String × String) × Value)} {v : Value} (hd : decode bc pc = .ok (.getfield index, 3)) (hq : pc + 3 = q) (hw : tbl[w]? = some (Jvm.Cond.fieldLink own index O n d)) (hL : L[i]? = some (a, .inl (C, fs))) (hf : fs[j]? = some ((O, n, d), v))
    (k : ∀ T', Here p l e R s m args below meth c Z a0 tbl own nm bc mxl rt n0 T' L cells slots → Go p e below F (T'.setTop (mkF m q Ls (v :: st)))) : Go p e below F (T.setTop (mkF m pc Ls (.ref a :: st))) := by
  obtain ⟨⟨hx, hZ, hown, hby, hml, hww, hnm, hrt, hlk⟩, locs, X, N, Z0, P⟩ := id A
  have Fd := (P.1 _ (List.mem_of_getElem? hL)).2.2 _ (List.mem_of_getElem? hf)
  obtain ⟨T', X', e', st'⟩ := Jvm.RoadKit.getF X hx hZ hown (host := "") (Or.inl (hww _ (List.mem_of_getElem? hw))) Via.refl rfl Fd (g := mkF m pc Ls (.ref a :: st)) rfl rfl (hb hby hd)
  subst hq
  exact Go.st st' (k T' ⟨A.1, locs, X', N, by rw [e']; exact Z0, by rw [e']; exact P⟩)
theorem Here.putF (A : Here p l e R s m args below meth c Z a0 tbl own nm bc mxl rt n0 T L cells slots) {pc q w w2 w3 i j index kk : Nat} {Ls : Array Slot} {st : List Value} {O n d C : String} {a : Addr} {fs : List ((String × String × String) × Value)} {v v' old : Value} {ty : FieldType} {L' : Obs} (hd : decode bc pc = .ok (.putfield index, 3)) (hq : pc + 3 = q) (hw : tbl[w]? = some (Jvm.Cond.fieldLink own index O n d)) (hL : L[i]? = some (a, .inl (C, fs))) (hf : fs[j]? = some ((O, n, d), old))
    (hl : Lays Z a0 C (fs.map Prod.fst)) (hp : tbl[w2]? = some (Jvm.Cond.lays C O n d) ∨ (tbl[w2]? = some (Jvm.Cond.laysFinal C O n d) ∧ own = O ∧ nm = "<init>")) (hi : tbl[w3]? = some (Jvm.Cond.instantiable C kk)) (hty : parseFieldDescriptor d = some ty) (hn : narrow ty v = v') (hfit : fits ty v' = true) (hL' : L.set i (a, .inl (C, fs.set j ((O, n, d), v'))) = L')
    (k : ∀ T', Here p l e R s m args below meth c Z a0 tbl own nm bc mxl rt n0 T' L' cells slots → Go p e below F (T'.setTop (mkF m q Ls st))) : Go p e below F (T.setTop (mkF m pc Ls (v :: .ref a :: st))) := by
  obtain ⟨⟨hx, hZ, hown, hby, hml, hww, hnm, hrt, hlk⟩, locs, X, N, Z0, P⟩ := id A
  have I := P.1 _ (List.mem_of_getElem? hL)
  obtain ⟨T', h', X', e', W, st'⟩ := Jvm.RoadKit.putFN X hx hZ hown (hww _ (List.mem_of_getElem? hw)) Via.refl rfl (I.2.2 _ (List.mem_of_getElem? hf)) I.2.1 (hp.imp (fun q => hww _ (List.mem_of_getElem? q)) (fun q => ⟨hww _ (List.mem_of_getElem? q.1), q.2.1, by rw [hnm]; exact q.2.2⟩)) (hww _ (List.mem_of_getElem? hi)) hty hn hfit (g := mkF m pc Ls (v :: .ref a :: st)) rfl rfl (hb hby hd)
  subst hq hL' e'
  exact Go.st st' (k T' ⟨A.1, _, X', Fr.snoc X' N I.1, by rw [W.size]; exact Z0, P.set W hL (I.2.put W hl hf)⟩)
theorem Here.newO (A : Here p l e R s m args below meth c Z a0 tbl own nm bc mxl rt n0 T L cells slots) {pc q w1 w2 w3 index n : Nat} {Ls : Array Slot} {st : List Value} {C : String} {fs : List ((String × String × String) × Value)} (hd : decode bc pc = .ok (.new index, 3)) (hq : pc + 3 = q) (h1 : tbl[w1]? = some (Jvm.Cond.classLink own index C)) (h2 : tbl[w2]? = some (Jvm.Cond.instantiable C n)) (h3 : tbl[w3]? = some (Jvm.Cond.initialized C)) (hl : Lays Z a0 C (fs.map Prod.fst))
    (hdef : (fs.all fun q => match parseFieldDescriptor q.1.2.2 with | some t => decide (defaultValue t = q.2) | none => false) = true) (hc : cells + 1 ≤ R.cells) (hs : slots + n ≤ R.slots)
    (k : ∀ T' a, Here p l e R s m args below meth c Z a0 tbl own nm bc mxl rt n0 T' ((a, .inl (C, fs)) :: L) (cells + 1) (slots + n) → Go p e below F (T'.setTop (mkF m q Ls (.ref a :: st)))) : Go p e below F (T.setTop (mkF m pc Ls st)) := by
  obtain ⟨⟨hx, hZ, hown, hby, hml, hww, hnm, hrt, hlk⟩, locs, X, N, Z0, P⟩ := id A
  obtain ⟨T', h', X', e', E, Ex, D, -, st'⟩ := Jvm.RoadKit.newO X hx hZ hown (hww _ (List.mem_of_getElem? h1)) (hww _ (List.mem_of_getElem? h2)) (hww _ (List.mem_of_getElem? h3)) rfl (g := mkF m pc Ls st) rfl (hb hby hd) hc hs
  subst hq e'
  refine Go.st st' (k T' _ ⟨A.1, locs, X', N, Nat.le_trans Z0 E.1, P.new E Z0 ⟨Ex, fun f hf => ?_⟩⟩)
  obtain ⟨lf, -⟩ := hl.1 _ (List.mem_map.mpr ⟨f, hf, rfl⟩)
  have q := List.all_eq_true.mp hdef f hf
  cases ht : parseFieldDescriptor f.1.2.2 with
  | none => rw [ht] at q; cases q
  | some t =>
    rw [ht] at q
    have q' : defaultValue t = f.2 := of_decide_eq_true q
    rw [← q']; exact D lf ht
theorem Here.newA (A : Here p l e R s m args below meth c Z a0 tbl own nm bc mxl rt n0 T L cells slots) {pc q w cap : Nat} {Ls : Array Slot} {st : List Value} {aty : ArrayType} {n : Int32} {ty : FieldType} {vs : List Value} (hd : decode bc pc = .ok (.newarray aty, 2)) (hq : pc + 2 = q) (hty : newarray.typeOf aty = ty) (hw : tbl[w]? = some (Jvm.Cond.arrayClass ty)) (hn : ¬ n < 0) (hcap : n.toNatClampNeg ≤ cap) (hb8 : cap * 8 ≤ 536870912) (hvs : List.replicate n.toNatClampNeg (defaultValue ty) = vs) (hc : cells + 1 ≤ R.cells) (hs : slots + cap ≤ R.slots)
    (k : ∀ T' a, Here p l e R s m args below meth c Z a0 tbl own nm bc mxl rt n0 T' ((a, .inr (ty, vs)) :: L) (cells + 1) (slots + cap) → Go p e below F (T'.setTop (mkF m q Ls (.ref a :: st)))) : Go p e below F (T.setTop (mkF m pc Ls (.int n :: st))) := by
  obtain ⟨⟨hx, hZ, hown, hby, hml, hww, hnm, hrt, hlk⟩, locs, X, N, Z0, P⟩ := id A
  subst hty
  obtain ⟨T', h', cA, X', e', E, Ar, Ex, st'⟩ := newPE X hx hZ (hww _ (List.mem_of_getElem? hw)) rfl (g := mkF m pc Ls (.int n :: st)) rfl (hb hby hd) rfl hn hcap hb8 hc hs rfl
  subst hq e' hvs
  refine Go.st st' (k T' _ ⟨A.1, locs, X', N, Nat.le_trans Z0 E.1, P.new E Z0 ⟨_, Ar, ?_, ?_, ?_, Ex⟩⟩)
  · simp [Jvm.RoadKit.newA]
  · rw [List.length_replicate]; omega
  · intro v hv
    rw [(List.mem_replicate.mp hv).2]; exact fits_def aty

theorem Here.iaload (A : Here p l e R s m args below meth c Z a0 tbl own nm bc mxl rt n0 T L cells slots) {pc q i : Nat} {Ls : Array Slot} {st : List Value} {a : Addr} {j : Int32} {vs : List Value} {v : Value} (hd : decode bc pc = .ok (.iaload, 1)) (hq : pc + 1 = q) (hL : L[i]? = some (a, .inr (.int, vs))) (hj : ¬ j < 0) (hv : vs[j.toNatClampNeg]? = some v) (k : Go p e below F (T.setTop (mkF m q Ls (v :: st)))) : Go p e below F (T.setTop (mkF m pc Ls (.int j :: .ref a :: st))) := by
  obtain ⟨⟨hx, hZ, hown, hby, hml, hww, hnm, hrt, hlk⟩, locs, X, N, Z0, P⟩ := id A
  obtain ⟨cl, Ar, r1, r2, r3, r4⟩ := (P.1 _ (List.mem_of_getElem? hL)).2
  have hlt : j.toNatClampNeg < vs.length := (List.getElem?_eq_some_iff.mp hv).1
  subst hq
  exact Go.st (fun t h => X.iaload hx (j := j) (v := v) Ar.1 (State.isArrayOf_alike hZ.alike Ar.2.1) Ar.2.2 (fun q => q.elim hj (fun q => by rw [r1] at q; simp at q; omega)) (by rw [r1]; simpa using hv) (g := mkF m pc Ls (.int j :: .ref a :: st)) rfl rfl (hb hby hd) t h) k
theorem Here.laload (A : Here p l e R s m args below meth c Z a0 tbl own nm bc mxl rt n0 T L cells slots) {pc q i : Nat} {Ls : Array Slot} {st : List Value} {a : Addr} {j : Int32} {vs : List Value} {v : Value} (hd : decode bc pc = .ok (.laload, 1)) (hq : pc + 1 = q) (hL : L[i]? = some (a, .inr (.long, vs))) (hj : ¬ j < 0) (hv : vs[j.toNatClampNeg]? = some v) (k : Go p e below F (T.setTop (mkF m q Ls (v :: st)))) : Go p e below F (T.setTop (mkF m pc Ls (.int j :: .ref a :: st))) := by
  obtain ⟨⟨hx, hZ, hown, hby, hml, hww, hnm, hrt, hlk⟩, locs, X, N, Z0, P⟩ := id A
  obtain ⟨cl, Ar, r1, r2, r3, r4⟩ := (P.1 _ (List.mem_of_getElem? hL)).2
  have hlt : j.toNatClampNeg < vs.length := (List.getElem?_eq_some_iff.mp hv).1
  subst hq
  exact Go.st (fun t h => X.laload hx (j := j) (v := v) Ar.1 (State.isArrayOf_alike hZ.alike Ar.2.1) Ar.2.2 (fun q => q.elim hj (fun q => by rw [r1] at q; simp at q; omega)) (by rw [r1]; simpa using hv) (g := mkF m pc Ls (.int j :: .ref a :: st)) rfl rfl (hb hby hd) t h) k
theorem Here.baloadB (A : Here p l e R s m args below meth c Z a0 tbl own nm bc mxl rt n0 T L cells slots) {pc q i : Nat} {Ls : Array Slot} {st : List Value} {a : Addr} {j : Int32} {vs : List Value} {v : Value} (hd : decode bc pc = .ok (.baload, 1)) (hq : pc + 1 = q) (hL : L[i]? = some (a, .inr (.byte, vs))) (hj : ¬ j < 0) (hv : vs[j.toNatClampNeg]? = some v) (k : Go p e below F (T.setTop (mkF m q Ls (v :: st)))) : Go p e below F (T.setTop (mkF m pc Ls (.int j :: .ref a :: st))) := by
  obtain ⟨⟨hx, hZ, hown, hby, hml, hww, hnm, hrt, hlk⟩, locs, X, N, Z0, P⟩ := id A
  obtain ⟨cl, Ar, r1, r2, r3, r4⟩ := (P.1 _ (List.mem_of_getElem? hL)).2
  have hlt : j.toNatClampNeg < vs.length := (List.getElem?_eq_some_iff.mp hv).1
  subst hq
  exact Go.st (fun t h => X.baloadBytes hx (j := j) (v := v) Ar.1 (State.isArrayOf_alike hZ.alike Ar.2.1) Ar.2.2 (fun q => q.elim hj (fun q => by rw [r1] at q; simp at q; omega)) (by rw [r1]; simpa using hv) (g := mkF m pc Ls (.int j :: .ref a :: st)) rfl rfl (hb hby hd) t h) k
theorem Here.baloadZ (A : Here p l e R s m args below meth c Z a0 tbl own nm bc mxl rt n0 T L cells slots) {pc q i : Nat} {Ls : Array Slot} {st : List Value} {a : Addr} {j : Int32} {vs : List Value} {v : Value} (hd : decode bc pc = .ok (.baload, 1)) (hq : pc + 1 = q) (hL : L[i]? = some (a, .inr (.boolean, vs))) (hj : ¬ j < 0) (hv : vs[j.toNatClampNeg]? = some v) (k : Go p e below F (T.setTop (mkF m q Ls (v :: st)))) : Go p e below F (T.setTop (mkF m pc Ls (.int j :: .ref a :: st))) := by
  obtain ⟨⟨hx, hZ, hown, hby, hml, hww, hnm, hrt, hlk⟩, locs, X, N, Z0, P⟩ := id A
  obtain ⟨cl, Ar, r1, r2, r3, r4⟩ := (P.1 _ (List.mem_of_getElem? hL)).2
  have hlt : j.toNatClampNeg < vs.length := (List.getElem?_eq_some_iff.mp hv).1
  subst hq
  exact Go.st (fun t h => X.baloadBooleans hx (j := j) (v := v) Ar.1 (State.isArrayOf_alike hZ.alike Ar.2.1) Ar.2.2 (fun q => q.elim hj (fun q => by rw [r1] at q; simp at q; omega)) (by rw [r1]; simpa using hv) (g := mkF m pc Ls (.int j :: .ref a :: st)) rfl rfl (hb hby hd) t h) k
theorem Here.iastore (A : Here p l e R s m args below meth c Z a0 tbl own nm bc mxl rt n0 T L cells slots) {pc q i : Nat} {Ls : Array Slot} {st : List Value} {a : Addr} {j : Int32} {x x' : Int32} {vs : List Value} {L' : Obs} (hd : decode bc pc = .ok (.iastore, 1)) (hq : pc + 1 = q) (hL : L[i]? = some (a, .inr (.int, vs))) (hj : ¬ j < 0) (hlt : j.toNatClampNeg < vs.length) (hx' : x = x') (hL' : L.set i (a, .inr (.int, vs.set j.toNatClampNeg (.int x'))) = L') (k : ∀ T', Here p l e R s m args below meth c Z a0 tbl own nm bc mxl rt n0 T' L' cells slots → Go p e below F (T'.setTop (mkF m q Ls st))) : Go p e below F (T.setTop (mkF m pc Ls (.int x :: .int j :: .ref a :: st))) := by
  obtain ⟨⟨hx, hZ, hown, hby, hml, hww, hnm, hrt, hlk⟩, locs, X, N, Z0, P⟩ := id A
  have I := P.1 _ (List.mem_of_getElem? hL)
  obtain ⟨cl, Ar, r1, r2, r3, r4⟩ := id I.2
  obtain ⟨T', h', X', e', W, st'⟩ := stI X hx hZ rfl Ar (j := j) (x := x) (fun q => q.elim hj (fun q => by rw [r1] at q; simp at q; omega)) (g := mkF m pc Ls (.int x :: .int j :: .ref a :: st)) rfl rfl (hb hby hd)
  subst hq hL' e' hx'
  exact Go.st st' (k T' ⟨A.1, _, X', Fr.snoc X' N I.1, by rw [W.size]; exact Z0, P.set W hL (Ara.put (show Ara Z T.heap a .int vs from I.2) W rfl)⟩)
theorem Here.lastore (A : Here p l e R s m args below meth c Z a0 tbl own nm bc mxl rt n0 T L cells slots) {pc q i : Nat} {Ls : Array Slot} {st : List Value} {a : Addr} {j : Int32} {x x' : Int64} {vs : List Value} {L' : Obs} (hd : decode bc pc = .ok (.lastore, 1)) (hq : pc + 1 = q) (hL : L[i]? = some (a, .inr (.long, vs))) (hj : ¬ j < 0) (hlt : j.toNatClampNeg < vs.length) (hx' : x = x') (hL' : L.set i (a, .inr (.long, vs.set j.toNatClampNeg (.long x'))) = L') (k : ∀ T', Here p l e R s m args below meth c Z a0 tbl own nm bc mxl rt n0 T' L' cells slots → Go p e below F (T'.setTop (mkF m q Ls st))) : Go p e below F (T.setTop (mkF m pc Ls (.long x :: .int j :: .ref a :: st))) := by
  obtain ⟨⟨hx, hZ, hown, hby, hml, hww, hnm, hrt, hlk⟩, locs, X, N, Z0, P⟩ := id A
  have I := P.1 _ (List.mem_of_getElem? hL)
  obtain ⟨cl, Ar, r1, r2, r3, r4⟩ := id I.2
  obtain ⟨T', h', X', e', W, st'⟩ := stJ X hx hZ rfl Ar (j := j) (x := x) (fun q => q.elim hj (fun q => by rw [r1] at q; simp at q; omega)) (g := mkF m pc Ls (.long x :: .int j :: .ref a :: st)) rfl rfl (hb hby hd)
  subst hq hL' e' hx'
  exact Go.st st' (k T' ⟨A.1, _, X', Fr.snoc X' N I.1, by rw [W.size]; exact Z0, P.set W hL (Ara.put (show Ara Z T.heap a .long vs from I.2) W rfl)⟩)
theorem Here.bastoreB (A : Here p l e R s m args below meth c Z a0 tbl own nm bc mxl rt n0 T L cells slots) {pc q i : Nat} {Ls : Array Slot} {st : List Value} {a : Addr} {j : Int32} {x x' : Int32} {vs : List Value} {L' : Obs} (hd : decode bc pc = .ok (.bastore, 1)) (hq : pc + 1 = q) (hL : L[i]? = some (a, .inr (.byte, vs))) (hj : ¬ j < 0) (hlt : j.toNatClampNeg < vs.length) (hx' : (nar .byte x) = x') (hL' : L.set i (a, .inr (.byte, vs.set j.toNatClampNeg (.int x'))) = L') (k : ∀ T', Here p l e R s m args below meth c Z a0 tbl own nm bc mxl rt n0 T' L' cells slots → Go p e below F (T'.setTop (mkF m q Ls st))) : Go p e below F (T.setTop (mkF m pc Ls (.int x :: .int j :: .ref a :: st))) := by
  obtain ⟨⟨hx, hZ, hown, hby, hml, hww, hnm, hrt, hlk⟩, locs, X, N, Z0, P⟩ := id A
  have I := P.1 _ (List.mem_of_getElem? hL)
  obtain ⟨cl, Ar, r1, r2, r3, r4⟩ := id I.2
  obtain ⟨T', h', X', e', W, st'⟩ := stB X hx hZ rfl Ar (j := j) (x := x) (fun q => q.elim hj (fun q => by rw [r1] at q; simp at q; omega)) (g := mkF m pc Ls (.int x :: .int j :: .ref a :: st)) rfl rfl (hb hby hd)
  subst hq hL' e' hx'
  exact Go.st st' (k T' ⟨A.1, _, X', Fr.snoc X' N I.1, by rw [W.size]; exact Z0, P.set W hL (Ara.put (show Ara Z T.heap a .byte vs from I.2) W (fits_nar_byte _))⟩)
theorem Here.bastoreZ (A : Here p l e R s m args below meth c Z a0 tbl own nm bc mxl rt n0 T L cells slots) {pc q i : Nat} {Ls : Array Slot} {st : List Value} {a : Addr} {j : Int32} {x x' : Int32} {vs : List Value} {L' : Obs} (hd : decode bc pc = .ok (.bastore, 1)) (hq : pc + 1 = q) (hL : L[i]? = some (a, .inr (.boolean, vs))) (hj : ¬ j < 0) (hlt : j.toNatClampNeg < vs.length) (hx' : (nar .boolean x) = x') (hL' : L.set i (a, .inr (.boolean, vs.set j.toNatClampNeg (.int x'))) = L') (k : ∀ T', Here p l e R s m args below meth c Z a0 tbl own nm bc mxl rt n0 T' L' cells slots → Go p e below F (T'.setTop (mkF m q Ls st))) : Go p e below F (T.setTop (mkF m pc Ls (.int x :: .int j :: .ref a :: st))) := by
  obtain ⟨⟨hx, hZ, hown, hby, hml, hww, hnm, hrt, hlk⟩, locs, X, N, Z0, P⟩ := id A
  have I := P.1 _ (List.mem_of_getElem? hL)
  obtain ⟨cl, Ar, r1, r2, r3, r4⟩ := id I.2
  obtain ⟨T', h', X', e', W, st'⟩ := stZ X hx hZ rfl Ar (j := j) (x := x) (fun q => q.elim hj (fun q => by rw [r1] at q; simp at q; omega)) (g := mkF m pc Ls (.int x :: .int j :: .ref a :: st)) rfl rfl (hb hby hd)
  subst hq hL' e' hx'
  exact Go.st st' (k T' ⟨A.1, _, X', Fr.snoc X' N I.1, by rw [W.size]; exact Z0, P.set W hL (Ara.put (show Ara Z T.heap a .boolean vs from I.2) W (fits_nar_bool _))⟩)
theorem Here.arraylength (A : Here p l e R s m args below meth c Z a0 tbl own nm bc mxl rt n0 T L cells slots) {pc q i : Nat} {Ls : Array Slot} {st : List Value} {a : Addr} {ty : FieldType} {vs : List Value} {v : Int32} (hd : decode bc pc = .ok (.arraylength, 1)) (hq : pc + 1 = q) (hL : L[i]? = some (a, .inr (ty, vs))) (hv : vs.length.toInt32 = v) (k : Go p e below F (T.setTop (mkF m q Ls (.int v :: st)))) : Go p e below F (T.setTop (mkF m pc Ls (.ref a :: st))) := by
  obtain ⟨⟨hx, hZ, hown, hby, hml, hww, hnm, hrt, hlk⟩, locs, X, N, Z0, P⟩ := id A
  obtain ⟨cl, Ar, r1, r2, r3, r4⟩ := (P.1 _ (List.mem_of_getElem? hL)).2
  have hn : cl.slots.size = vs.length := by rw [r1]; simp
  subst hq hv
  exact Go.st (fun t h => X.arraylength hx Ar.1 (State.isArrayOf_alike hZ.alike Ar.2.1) (g := mkF m pc Ls (.ref a :: st)) rfl rfl (hb hby hd) t (by rw [hn]; exact h)) k
theorem Here.castArr (A : Here p l e R s m args below meth c Z a0 tbl own nm bc mxl rt n0 T L cells slots) {pc q i w index : Nat} {Ls : Array Slot} {st : List Value} {a : Addr} {ty : FieldType} {vs : List Value} {K : String} (hd : decode bc pc = .ok (.checkcast index, 3)) (hq : pc + 3 = q) (hw : tbl[w]? = some (Jvm.Cond.classLink own index K)) (hL : L[i]? = some (a, .inr (ty, vs))) (hK : "[" ++ ty.toString = K) (k : ∀ T', Here p l e R s m args below meth c Z a0 tbl own nm bc mxl rt n0 T' L cells slots → Go p e below F (T'.setTop (mkF m q Ls (.ref a :: st)))) : Go p e below F (T.setTop (mkF m pc Ls (.ref a :: st))) := by
  obtain ⟨⟨hx, hZ, hown, hby, hml, hww, hnm, hrt, hlk⟩, locs, X, N, Z0, P⟩ := id A
  obtain ⟨cl, Ar, r1, r2, r3, r4⟩ := (P.1 _ (List.mem_of_getElem? hL)).2
  subst hK hq
  obtain ⟨T', X', e', st'⟩ := castY X hx hZ hown (hww _ (List.mem_of_getElem? hw)) rfl (Ins.self r4) (g := mkF m pc Ls (.ref a :: st)) rfl rfl (hb hby hd)
  exact Go.st st' (k T' ⟨A.1, locs, X', N, by rw [e']; exact Z0, by rw [e']; exact P⟩)
theorem Here.clone (A : Here p l e R s m args below meth c Z a0 tbl own nm bc mxl rt n0 T L cells slots) {pc q i index W w1 w2 w3 w4 w5 w6 cap : Nat} {Ls : Array Slot} {st : List Value} {a : Addr} {ty : FieldType} {vs : List Value} {ad : String} (hd : decode bc pc = .ok (.invokevirtual index, 3)) (hq : pc + 3 = q) (hL : L[i]? = some (a, .inr (ty, vs))) (hK : "[" ++ ty.toString = ad)
    (h1 : tbl[w1]? = some (Jvm.Cond.methodLink own index ⟨ad, "clone", "()Ljava/lang/Object;"⟩)) (h2 : tbl[w2]? = some (Jvm.Cond.sameMethod ad "java/lang/Object" "clone" "()Ljava/lang/Object;")) (h3 : tbl[w3]? = some (Jvm.Cond.native ⟨"java/lang/Object", "clone", "()Ljava/lang/Object;"⟩)) (h4 : tbl[w4]? = some (Jvm.Cond.instanceMethod ⟨"java/lang/Object", "clone", "()Ljava/lang/Object;"⟩)) (h5 : tbl[w5]? = some (Jvm.Cond.selects ad ⟨ad, "clone", "()Ljava/lang/Object;"⟩ ⟨"java/lang/Object", "clone", "()Ljava/lang/Object;"⟩)) (h6 : tbl[w6]? = some (Jvm.Cond.castable ad "java/lang/Cloneable"))
    (hsz : Ls.size = mxl) (hW : (st.map fun v => v.category).sum = W) (hf : 1 ≤ R.frames) (hl : W + 14 ≤ R.locals) (hcap : vs.length ≤ cap) (hc : cells + 1 ≤ R.cells) (hs : slots + cap ≤ R.slots)
    (k : ∀ T' b, Here p l e R s m args below meth c Z a0 tbl own nm bc mxl rt n0 T' ((b, .inr (ty, vs)) :: L) (cells + 1) (slots + cap) → Go p e below F (T'.setTop (mkF m q Ls (.ref b :: st)))) : Go p e below F (T.setTop (mkF m pc Ls (.ref a :: st))) := by
  obtain ⟨⟨hx, hZ, hown, hby, hml, hww, hnm, hrt, hlk⟩, locs, X, N, Z0, P⟩ := id A
  obtain ⟨cl, Ar, r1, r2, r3, r4⟩ := (P.1 _ (List.mem_of_getElem? hL)).2
  subst hK hq
  have hn : cl.slots.size = vs.length := by rw [r1]; simp
  have FC : FitC Z cl := fitC_of Ar fun i hi v hv => r3 v (by rw [r1] at hv; exact List.mem_of_getElem? (by simpa using hv))
  obtain ⟨T', h', X', e', E, Ar', Ex, st'⟩ := cloneA X hx hZ hown (hww _ (List.mem_of_getElem? h1)) (hww _ (List.mem_of_getElem? h2)) (hww _ (List.mem_of_getElem? h3)) (hww _ (List.mem_of_getElem? h4)) (hww _ (List.mem_of_getElem? h5)) (hww _ (List.mem_of_getElem? h6)) rfl Ar r4 FC (g := mkF m pc Ls (.ref a :: st)) rfl (by rw [hml]; exact hsz) rfl (hb hby hd) hf (W := W) (cap := cap) (by show 2 * 0 + _ ≤ _; omega) hl (by omega) hc hs
  subst e'
  exact Go.st st' (k T' _ ⟨A.1, locs, X', N, Nat.le_trans Z0 E.1, P.new E Z0 ⟨_, Ar', r1, r2, r3, Ex⟩⟩)
theorem Here.initObj (A : Here p l e R s m args below meth c Z a0 tbl own nm bc mxl rt n0 T L cells slots) {pc q index w1 w2 w3 W : Nat} {Ls : Array Slot} {st : List Value} {a : Addr} (hd : decode bc pc = .ok (.invokespecial index, 3)) (hq : pc + 3 = q) (h1 : tbl[w1]? = some (Jvm.Cond.methodLink own index Lib.objectInit)) (h2 : tbl[w2]? = some (Jvm.Cond.instanceMethod Lib.objectInit)) (h3 : tbl[w3]? = some (Jvm.Cond.code Lib.objectInit ⟨#[0xb1]⟩ 1 none)) (hsz : Ls.size = mxl) (hW : (st.map fun v => v.category).sum = W) (hf : 1 ≤ R.frames) (hl : W + 12 ≤ R.locals) (k : ∀ T', Here p l e R s m args below meth c Z a0 tbl own nm bc mxl rt n0 T' L cells slots → Go p e below F (T'.setTop (mkF m q Ls st))) : Go p e below F (T.setTop (mkF m pc Ls (.ref a :: st))) := by
  obtain ⟨⟨hx, hZ, hown, hby, hml, hww, hnm, hrt, hlk⟩, locs, X, N, Z0, P⟩ := id A
  subst hq
  obtain ⟨T', X', e', st'⟩ := initO X hx hZ hown (hww _ (List.mem_of_getElem? h1)) (hww _ (List.mem_of_getElem? h2)) (hww _ (List.mem_of_getElem? h3)) rfl (g := mkF m pc Ls (.ref a :: st)) rfl (by rw [hml]; exact hsz) rfl (hb hby hd) hf (W := W) (by show 2 * 0 + _ ≤ _; omega) hl
  exact Go.st st' (k T' ⟨A.1, locs, X', N, by rw [e']; exact Z0, by rw [e']; exact P⟩)
theorem Here.front (A : Here p l e R s m args below meth c Z a0 tbl own nm bc mxl rt n0 T L cells slots) {i : Nat} {x : Addr × Ob} {L' : Obs} (hi : L[i]? = some x) (hL' : x :: L.eraseIdx i = L') : Here p l e R s m args below meth c Z a0 tbl own nm bc mxl rt n0 T L' cells slots := by
  obtain ⟨⟨hx, hZ, hown, hby, hml, hww, hnm, hrt, hlk⟩, locs, X, N, Z0, P⟩ := id A
  subst hL'
  exact ⟨A.1, locs, X, N, Z0, P.front hi⟩
theorem Here.ne (A : Here p l e R s m args below meth c Z a0 tbl own nm bc mxl rt n0 T L cells slots) {i j : Nat} {a b : Addr} {x y : Ob} (hi : L[i]? = some (a, x)) (hj : L[j]? = some (b, y)) (hn : i ≠ j) : a ≠ b := by
  obtain ⟨⟨hx, hZ, hown, hby, hml, hww, hnm, hrt, hlk⟩, locs, X, N, Z0, P⟩ := id A
  exact P.ne hi hj hn

theorem Here.ialoadM (A : Here p l e R s m args below meth c Z a0 tbl own nm bc mxl rt n0 T L cells slots) {pc q i : Nat} {Ls : Array Slot} {st : List Value} {a : Addr} {j : Int32} {xs : List Int32} {v : Int32} (hd : decode bc pc = .ok (.iaload, 1)) (hq : pc + 1 = q) (hL : L[i]? = some (a, .inr (.int, xs.map Value.int))) (hj : ¬ j < 0) (hv : xs[j.toNatClampNeg]? = some v) (k : Go p e below F (T.setTop (mkF m q Ls (Value.int v :: st)))) : Go p e below F (T.setTop (mkF m pc Ls (.int j :: .ref a :: st))) :=
  A.iaload hd hq hL hj (by rw [List.getElem?_map, hv]; rfl) k
theorem Here.laloadM (A : Here p l e R s m args below meth c Z a0 tbl own nm bc mxl rt n0 T L cells slots) {pc q i : Nat} {Ls : Array Slot} {st : List Value} {a : Addr} {j : Int32} {xs : List Int64} {v : Int64} (hd : decode bc pc = .ok (.laload, 1)) (hq : pc + 1 = q) (hL : L[i]? = some (a, .inr (.long, xs.map Value.long))) (hj : ¬ j < 0) (hv : xs[j.toNatClampNeg]? = some v) (k : Go p e below F (T.setTop (mkF m q Ls (Value.long v :: st)))) : Go p e below F (T.setTop (mkF m pc Ls (.int j :: .ref a :: st))) :=
  A.laload hd hq hL hj (by rw [List.getElem?_map, hv]; rfl) k
theorem Here.baloadBM (A : Here p l e R s m args below meth c Z a0 tbl own nm bc mxl rt n0 T L cells slots) {pc q i : Nat} {Ls : Array Slot} {st : List Value} {a : Addr} {j : Int32} {xs : List Int32} {v : Int32} (hd : decode bc pc = .ok (.baload, 1)) (hq : pc + 1 = q) (hL : L[i]? = some (a, .inr (.byte, xs.map Value.int))) (hj : ¬ j < 0) (hv : xs[j.toNatClampNeg]? = some v) (k : Go p e below F (T.setTop (mkF m q Ls (Value.int v :: st)))) : Go p e below F (T.setTop (mkF m pc Ls (.int j :: .ref a :: st))) :=
  A.baloadB hd hq hL hj (by rw [List.getElem?_map, hv]; rfl) k
theorem Here.baloadZM (A : Here p l e R s m args below meth c Z a0 tbl own nm bc mxl rt n0 T L cells slots) {pc q i : Nat} {Ls : Array Slot} {st : List Value} {a : Addr} {j : Int32} {xs : List Int32} {v : Int32} (hd : decode bc pc = .ok (.baload, 1)) (hq : pc + 1 = q) (hL : L[i]? = some (a, .inr (.boolean, xs.map Value.int))) (hj : ¬ j < 0) (hv : xs[j.toNatClampNeg]? = some v) (k : Go p e below F (T.setTop (mkF m q Ls (Value.int v :: st)))) : Go p e below F (T.setTop (mkF m pc Ls (.int j :: .ref a :: st))) :=
  A.baloadZ hd hq hL hj (by rw [List.getElem?_map, hv]; rfl) k
theorem Here.iastoreM (A : Here p l e R s m args below meth c Z a0 tbl own nm bc mxl rt n0 T L cells slots) {pc q i : Nat} {Ls : Array Slot} {st : List Value} {a : Addr} {j : Int32} {x x' : Int32} {xs : List Int32} {L' : Obs} (hd : decode bc pc = .ok (.iastore, 1)) (hq : pc + 1 = q) (hL : L[i]? = some (a, .inr (.int, xs.map Value.int))) (hj : ¬ j < 0) (hlt : j.toNatClampNeg < xs.length) (hx' : x = x') (hL' : L.set i (a, .inr (.int, (xs.set j.toNatClampNeg x').map Value.int)) = L') (k : ∀ T', Here p l e R s m args below meth c Z a0 tbl own nm bc mxl rt n0 T' L' cells slots → Go p e below F (T'.setTop (mkF m q Ls st))) : Go p e below F (T.setTop (mkF m pc Ls (Value.int x :: .int j :: .ref a :: st))) :=
  A.iastore hd hq hL hj (by rw [List.length_map]; exact hlt) hx' (by rw [← hL', List.map_set]) k
theorem Here.lastoreM (A : Here p l e R s m args below meth c Z a0 tbl own nm bc mxl rt n0 T L cells slots) {pc q i : Nat} {Ls : Array Slot} {st : List Value} {a : Addr} {j : Int32} {x x' : Int64} {xs : List Int64} {L' : Obs} (hd : decode bc pc = .ok (.lastore, 1)) (hq : pc + 1 = q) (hL : L[i]? = some (a, .inr (.long, xs.map Value.long))) (hj : ¬ j < 0) (hlt : j.toNatClampNeg < xs.length) (hx' : x = x') (hL' : L.set i (a, .inr (.long, (xs.set j.toNatClampNeg x').map Value.long)) = L') (k : ∀ T', Here p l e R s m args below meth c Z a0 tbl own nm bc mxl rt n0 T' L' cells slots → Go p e below F (T'.setTop (mkF m q Ls st))) : Go p e below F (T.setTop (mkF m pc Ls (Value.long x :: .int j :: .ref a :: st))) :=
  A.lastore hd hq hL hj (by rw [List.length_map]; exact hlt) hx' (by rw [← hL', List.map_set]) k
theorem Here.bastoreBM (A : Here p l e R s m args below meth c Z a0 tbl own nm bc mxl rt n0 T L cells slots) {pc q i : Nat} {Ls : Array Slot} {st : List Value} {a : Addr} {j : Int32} {x x' : Int32} {xs : List Int32} {L' : Obs} (hd : decode bc pc = .ok (.bastore, 1)) (hq : pc + 1 = q) (hL : L[i]? = some (a, .inr (.byte, xs.map Value.int))) (hj : ¬ j < 0) (hlt : j.toNatClampNeg < xs.length) (hx' : (nar .byte x) = x') (hL' : L.set i (a, .inr (.byte, (xs.set j.toNatClampNeg x').map Value.int)) = L') (k : ∀ T', Here p l e R s m args below meth c Z a0 tbl own nm bc mxl rt n0 T' L' cells slots → Go p e below F (T'.setTop (mkF m q Ls st))) : Go p e below F (T.setTop (mkF m pc Ls (Value.int x :: .int j :: .ref a :: st))) :=
  A.bastoreB hd hq hL hj (by rw [List.length_map]; exact hlt) hx' (by rw [← hL', List.map_set]) k
theorem Here.bastoreZM (A : Here p l e R s m args below meth c Z a0 tbl own nm bc mxl rt n0 T L cells slots) {pc q i : Nat} {Ls : Array Slot} {st : List Value} {a : Addr} {j : Int32} {x x' : Int32} {xs : List Int32} {L' : Obs} (hd : decode bc pc = .ok (.bastore, 1)) (hq : pc + 1 = q) (hL : L[i]? = some (a, .inr (.boolean, xs.map Value.int))) (hj : ¬ j < 0) (hlt : j.toNatClampNeg < xs.length) (hx' : (nar .boolean x) = x') (hL' : L.set i (a, .inr (.boolean, (xs.set j.toNatClampNeg x').map Value.int)) = L') (k : ∀ T', Here p l e R s m args below meth c Z a0 tbl own nm bc mxl rt n0 T' L' cells slots → Go p e below F (T'.setTop (mkF m q Ls st))) : Go p e below F (T.setTop (mkF m pc Ls (Value.int x :: .int j :: .ref a :: st))) :=
  A.bastoreZ hd hq hL hj (by rw [List.length_map]; exact hlt) hx' (by rw [← hL', List.map_set]) k
theorem Here.arraylengthM (A : Here p l e R s m args below meth c Z a0 tbl own nm bc mxl rt n0 T L cells slots) {pc q i : Nat} {Ls : Array Slot} {st : List Value} {a : Addr} {ty : FieldType} {α : Type} {f : α → Value} {xs : List α} {v : Int32} (hd : decode bc pc = .ok (.arraylength, 1)) (hq : pc + 1 = q) (hL : L[i]? = some (a, .inr (ty, xs.map f))) (hv : xs.length.toInt32 = v) (k : Go p e below F (T.setTop (mkF m q Ls (.int v :: st)))) : Go p e below F (T.setTop (mkF m pc Ls (.ref a :: st))) :=
  A.arraylength hd hq hL (by rw [List.length_map]; exact hv) k
theorem own_gd {α : Type} {xs : List α} {n : Nat} {d : α} (h : n < xs.length) : xs[n]? = some (xs.getD n d) := by simp [List.getD, h]
theorem Here.callS (A : Here p l e R s m args below meth c Z a0 tbl own nm bc mxl rt n0 T L cells slots) {pc q index W w1 w2 w3 w4 : Nat} {Ls : Array Slot} {st stk : List Value} {y : MethodName} {bytes : ByteArray} {ml : Nat} {rt' : Option FieldType} {rm : Room} {as : List Value} {Q : Option Value → Obs → Prop} (hd : decode bc pc = .ok (.invokestatic index, 3)) (hq : pc + 3 = q) (h1 : tbl[w1]? = some (Jvm.Cond.methodLink own index y)) (h2 : tbl[w2]? = some (Jvm.Cond.static y)) (h3 : tbl[w3]? = some (Jvm.Cond.initialized y.cls)) (h4 : tbl[w4]? = some (Jvm.Cond.code y bytes ml rt')) (hT : Triple l Z n0 y bytes ml rt' rm rm.cells rm.slots as L Q) (hy : y.cls ≠ "java/lang/invoke/MethodHandle" ∧ y.cls ≠ "java/lang/invoke/VarHandle") (hlen : ∃ ps r, parseMethodDescriptor y.desc = some ⟨ps, r⟩ ∧ as.length = ps.length) (hst : stk = as.reverse ++ st) (hsz : Ls.size = mxl) (hW : (st.map fun v => v.category).sum = W) (hf : rm.frames + 1 ≤ R.frames) (hl : W + (ml + 11) + rm.locals ≤ R.locals) (hc : cells + rm.cells ≤ R.cells) (hs : slots + rm.slots ≤ R.slots)
    (k : ∀ v T' L', Q v L' → Here p l e R s m args below meth c Z a0 tbl own nm bc mxl rt n0 T' L' (cells + rm.cells) (slots + rm.slots) → Go p e below F (T'.setTop (mkF m q Ls (v.toList ++ st)))) : Go p e below F (T.setTop (mkF m pc Ls stk)) := by
  obtain ⟨⟨hx, hZ, hown, hby, hml, hww, hnm, hrt, hlk⟩, locs, X, N, Z0, P⟩ := id A
  obtain ⟨ps, r, hps, hle⟩ := hlen
  subst hst hq
  obtain ⟨v, _, ⟨T1, L1, k1, n1⟩, -, X1, ⟨Lc, hQ, l1, y1, z1⟩, st1⟩ := Jvm.LawKit.callS X hx (y := y) hown (mvT hZ (hww _ (List.mem_of_getElem? h1))) (mvT hZ (hww _ (List.mem_of_getElem? h2))) (mvT hZ (hww _ (List.mem_of_getElem? h3))) (mvT hZ (hww _ (List.mem_of_getElem? h4))) hy (backOf (W := W) (Q := fun v h Lc => Fr n0 Lc ∧ n0 ≤ h.size ∧ ∃ L', Q v L' ∧ Pic Z n0 h L') (hT T.heap [] Z0 P) hZ (hww _ (List.mem_of_getElem? h4)) (hww _ (List.mem_of_getElem? h3)) hf hl) (g := mkF m pc Ls (as.reverse ++ st)) rfl (by rw [hml]; exact hsz) (argsL := as) (rest := st) (lenOf hps hle) rfl (by show 2 * 0 + _ ≤ _; omega) (hb hby hd) (fun _ _ => ⟨rfl, rfl, hc, hs⟩)
  dsimp only [Pt.U, Pt.locs, Pt.cells, Pt.slots] at X1 l1 y1 z1 st1 hQ
  subst l1 y1 z1
  obtain ⟨Nq, Zq, L', q, Pq⟩ := hQ
  exact Go.st st1 (k v T1 L' q ⟨A.1, _, X1, N.app Nq, Zq, Pq⟩)
theorem Here.callI (A : Here p l e R s m args below meth c Z a0 tbl own nm bc mxl rt n0 T L cells slots) {pc q index W w1 w2 w3 w4 : Nat} {Ls : Array Slot} {st stk : List Value} {a : Addr} {y : MethodName} {bytes : ByteArray} {ml : Nat} {rm : Room} {as : List Value} {Q : Option Value → Obs → Prop} (hd : decode bc pc = .ok (.invokespecial index, 3)) (hq : pc + 3 = q) (hy1 : y.name = "<init>") (h1 : tbl[w1]? = some (Jvm.Cond.methodLink own index y)) (h2 : tbl[w2]? = some (Jvm.Cond.instanceMethod y)) (h3 : tbl[w3]? = some (Jvm.Cond.initialized y.cls)) (h4 : tbl[w4]? = some (Jvm.Cond.code y bytes ml none)) (hT : Triple l Z n0 y bytes ml none rm rm.cells rm.slots (.ref a :: as) L Q) (hy : y.cls ≠ "java/lang/invoke/MethodHandle" ∧ y.cls ≠ "java/lang/invoke/VarHandle") (hlen : ∃ ps r, parseMethodDescriptor y.desc = some ⟨ps, r⟩ ∧ as.length = ps.length) (hst : stk = as.reverse ++ .ref a :: st) (hsz : Ls.size = mxl) (hW : (st.map fun v => v.category).sum = W) (hf : rm.frames + 1 ≤ R.frames) (hl : W + (ml + 11) + rm.locals ≤ R.locals) (hc : cells + rm.cells ≤ R.cells) (hs : slots + rm.slots ≤ R.slots)
    (k : ∀ v T' L', Q v L' → Here p l e R s m args below meth c Z a0 tbl own nm bc mxl rt n0 T' L' (cells + rm.cells) (slots + rm.slots) → Go p e below F (T'.setTop (mkF m q Ls (v.toList ++ st)))) : Go p e below F (T.setTop (mkF m pc Ls stk)) := by
  obtain ⟨⟨hx, hZ, hown, hby, hml, hww, hnm, hrt, hlk⟩, locs, X, N, Z0, P⟩ := id A
  obtain ⟨ps, r, hps, hle⟩ := hlen
  subst hst hq
  obtain ⟨v, _, ⟨T1, L1, k1, n1⟩, -, X1, ⟨Lc, hQ, l1, y1, z1⟩, st1⟩ := X.specialBack hx (y := y) hy1 hown (mvT hZ (hww _ (List.mem_of_getElem? h1))) (mvT hZ (hww _ (List.mem_of_getElem? h2))) (mvT hZ (hww _ (List.mem_of_getElem? h4))) hy (backOf (W := W) (Q := fun v h Lc => Fr n0 Lc ∧ n0 ≤ h.size ∧ ∃ L', Q v L' ∧ Pic Z n0 h L') (hT T.heap [] Z0 P) hZ (hww _ (List.mem_of_getElem? h4)) (hww _ (List.mem_of_getElem? h3)) hf hl) (g := mkF m pc Ls (as.reverse ++ .ref a :: st)) rfl (by rw [hml]; exact hsz) (Steps.refl _) (a := a) (argsL := as) (rest := st) (lenOf hps hle) rfl (by show 2 * 0 + _ ≤ _; omega) (hb hby hd) (fun _ _ => ⟨rfl, rfl, hc, hs⟩)
  dsimp only [Pt.U, Pt.locs, Pt.cells, Pt.slots] at X1 l1 y1 z1 st1 hQ
  subst l1 y1 z1
  obtain ⟨Nq, Zq, L', q, Pq⟩ := hQ
  exact Go.st (fun t h => st1.trans h) (k v T1 L' q ⟨A.1, _, X1, N.app Nq, Zq, Pq⟩)
theorem Here.callV (A : Here p l e R s m args below meth c Z a0 tbl own nm bc mxl rt n0 T L cells slots) {pc q index W i w1 w2 w3 w4 w5 w6 : Nat} {Ls : Array Slot} {st stk : List Value} {a : Addr} {C : String} {fs : List ((String × String × String) × Value)} {y : MethodName} {bytes : ByteArray} {ml : Nat} {rt' : Option FieldType} {rm : Room} {as : List Value} {Q : Option Value → Obs → Prop} (hd : decode bc pc = .ok (.invokevirtual index, 3)) (hq : pc + 3 = q) (hL : L[i]? = some (a, .inl (C, fs))) (h1 : tbl[w1]? = some (Jvm.Cond.methodLink own index y)) (h2 : tbl[w2]? = some (Jvm.Cond.declares y)) (h5 : tbl[w5]? = some (Jvm.Cond.selects C y y)) (h6 : tbl[w6]? = some (Jvm.Cond.instanceMethod y)) (h3 : tbl[w3]? = some (Jvm.Cond.initialized y.cls)) (h4 : tbl[w4]? = some (Jvm.Cond.code y bytes ml rt')) (hT : Triple l Z n0 y bytes ml rt' rm rm.cells rm.slots (.ref a :: as) L Q) (hy : y.cls ≠ "java/lang/invoke/MethodHandle" ∧ y.cls ≠ "java/lang/invoke/VarHandle") (hlen : ∃ ps r, parseMethodDescriptor y.desc = some ⟨ps, r⟩ ∧ as.length = ps.length) (hst : stk = as.reverse ++ .ref a :: st) (hsz : Ls.size = mxl) (hW : (st.map fun v => v.category).sum = W) (hf : rm.frames + 1 ≤ R.frames) (hl : W + (ml + 11) + rm.locals ≤ R.locals) (hc : cells + rm.cells ≤ R.cells) (hs : slots + rm.slots ≤ R.slots)
    (k : ∀ v T' L', Q v L' → Here p l e R s m args below meth c Z a0 tbl own nm bc mxl rt n0 T' L' (cells + rm.cells) (slots + rm.slots) → Go p e below F (T'.setTop (mkF m q Ls (v.toList ++ st)))) : Go p e below F (T.setTop (mkF m pc Ls stk)) := by
  obtain ⟨⟨hx, hZ, hown, hby, hml, hww, hnm, hrt, hlk⟩, locs, X, N, Z0, P⟩ := id A
  obtain ⟨ps, r, hps, hle⟩ := hlen
  subst hst hq
  obtain ⟨cq, kq, qa, qb, qc⟩ := isOf (T := T) hZ rfl (P.1 _ (List.mem_of_getElem? hL)).2.1
  obtain ⟨v, _, ⟨T1, L1, k1, n1⟩, -, X1, ⟨Lc, hQ, l1, y1, z1⟩, st1⟩ := X.virtualBack hx (y := y) (z := y) hown (mvT hZ (hww _ (List.mem_of_getElem? h1))) (mvT hZ (hww _ (List.mem_of_getElem? h2))) (notFace_of_selects (args := #[]) (mvT hZ (hww _ (List.mem_of_getElem? h5)))) (mvT hZ (hww _ (List.mem_of_getElem? h5))) (mvT hZ (hww _ (List.mem_of_getElem? h6))) hy (backOf (W := W) (Q := fun v h Lc => Fr n0 Lc ∧ n0 ≤ h.size ∧ ∃ L', Q v L' ∧ Pic Z n0 h L') (hT T.heap [] Z0 P) hZ (hww _ (List.mem_of_getElem? h4)) (hww _ (List.mem_of_getElem? h3)) hf hl) qa qc (g := mkF m pc Ls (as.reverse ++ .ref a :: st)) rfl (by rw [hml]; exact hsz) (Steps.refl _) (argsL := as) (rest := st) (lenOf hps hle) rfl (by show 2 * 0 + _ ≤ _; omega) (hb hby hd) (fun _ _ => ⟨rfl, rfl, hc, hs⟩)
  dsimp only [Pt.U, Pt.locs, Pt.cells, Pt.slots] at X1 l1 y1 z1 st1 hQ
  subst l1 y1 z1
  obtain ⟨Nq, Zq, L', q, Pq⟩ := hQ
  exact Go.st (fun t h => st1.trans h) (k v T1 L' q ⟨A.1, _, X1, N.app Nq, Zq, Pq⟩)

theorem Here.callP (A : Here p l e R s m args below meth c Z a0 tbl own nm bc mxl rt n0 T L cells slots) {pc q index W i w1 w2 w3 w4 w5 w6 kk : Nat} {Ls : Array Slot} {st stk : List Value} {a : Addr} {C : String} {fs : List ((String × String × String) × Value)} {y : MethodName} {bytes : ByteArray} {ml : Nat} {rt' : Option FieldType} {rm : Room} {as : List Value} {Q : Option Value → Obs → Prop} (hd : decode bc pc = .ok (.invokevirtual index, 3)) (hq : pc + 3 = q) (hL : L[i]? = some (a, .inl (C, fs))) (h1 : tbl[w1]? = some (Jvm.Cond.methodLink own index y)) (h2 : tbl[w2]? = some (Jvm.Cond.privateMethod y)) (h5 : tbl[w5]? = some (Jvm.Cond.instantiable y.cls kk)) (h6 : tbl[w6]? = some (Jvm.Cond.instanceMethod y)) (h3 : tbl[w3]? = some (Jvm.Cond.initialized y.cls)) (h4 : tbl[w4]? = some (Jvm.Cond.code y bytes ml rt')) (hT : Triple l Z n0 y bytes ml rt' rm rm.cells rm.slots (.ref a :: as) L Q) (hy : y.cls ≠ "java/lang/invoke/MethodHandle" ∧ y.cls ≠ "java/lang/invoke/VarHandle") (hlen : ∃ ps r, parseMethodDescriptor y.desc = some ⟨ps, r⟩ ∧ as.length = ps.length) (hst : stk = as.reverse ++ .ref a :: st) (hsz : Ls.size = mxl) (hW : (st.map fun v => v.category).sum = W) (hf : rm.frames + 1 ≤ R.frames) (hl : W + (ml + 11) + rm.locals ≤ R.locals) (hc : cells + rm.cells ≤ R.cells) (hs : slots + rm.slots ≤ R.slots)
    (k : ∀ v T' L', Q v L' → Here p l e R s m args below meth c Z a0 tbl own nm bc mxl rt n0 T' L' (cells + rm.cells) (slots + rm.slots) → Go p e below F (T'.setTop (mkF m q Ls (v.toList ++ st)))) : Go p e below F (T.setTop (mkF m pc Ls stk)) := by
  obtain ⟨⟨hx, hZ, hown, hby, hml, hww, hnm, hrt, hlk⟩, locs, X, N, Z0, P⟩ := id A
  obtain ⟨ps, r, hps, hle⟩ := hlen
  subst hst hq
  have hp : s.PrivateAt y := Cond.privateMethod_at (mvP hZ (hww _ (List.mem_of_getElem? h2)) (args := #[]))
  have hin : (Jvm.Cond.instanceMethod y).before args s = true := mvT hZ (hww _ (List.mem_of_getElem? h6))
  have hit : (Jvm.Cond.instantiable y.cls kk).before args s = true := mvT hZ (hww _ (List.mem_of_getElem? h5))
  obtain ⟨cI, kI, i1, i2, -, i4, -⟩ := Cond.instantiable_spec hit
  have hni : kI.isInterface = false := by simp only [Bool.or_eq_false_iff] at i4; exact i4.1
  have hsel := selects_self_of_private (args := args) i1 i2 hni hp hin hy
  obtain ⟨cq, q1, q2⟩ := (P.1 _ (List.mem_of_getElem? hL)).2.1.cell
  obtain ⟨v, _, ⟨T1, L1, k1, n1⟩, -, X1, ⟨Lc, hQ, l1, y1, z1⟩, st1⟩ := X.privateBack hx (y := y) hown (mvT hZ (hww _ (List.mem_of_getElem? h1))) hin hsel hp (mvT hZ (hww _ (List.mem_of_getElem? h4))) hy (backOf (W := W) (Q := fun v h Lc => Fr n0 Lc ∧ n0 ≤ h.size ∧ ∃ L', Q v L' ∧ Pic Z n0 h L') (hT T.heap [] Z0 P) hZ (hww _ (List.mem_of_getElem? h4)) (hww _ (List.mem_of_getElem? h3)) hf hl) (g := mkF m pc Ls (as.reverse ++ .ref a :: st)) rfl (by rw [hml]; exact hsz) (Steps.refl _) (a := a) q1 q2 (argsL := as) (rest := st) (lenOf hps hle) rfl (by show 2 * 0 + _ ≤ _; omega) (hb hby hd) (fun _ _ => ⟨rfl, rfl, hc, hs⟩)
  dsimp only [Pt.U, Pt.locs, Pt.cells, Pt.slots] at X1 l1 y1 z1 st1 hQ
  subst l1 y1 z1
  obtain ⟨Nq, Zq, L', q, Pq⟩ := hQ
  exact Go.st (fun t h => st1.trans h) (k v T1 L' q ⟨A.1, _, X1, N.app Nq, Zq, Pq⟩)
theorem Here.pop2L (A : Here p l e R s m args below meth c Z a0 tbl own nm bc mxl rt n0 T L cells slots) {pc q : Nat} {Ls : Array Slot} {st : List Value} {x : Int64} (hd : decode bc pc = .ok (.pop2, 1)) (hq : pc + 1 = q) (k : Go p e below F (T.setTop (mkF m q Ls st))) : Go p e below F (T.setTop (mkF m pc Ls (.long x :: st))) := by
  obtain ⟨⟨hx, hZ, hown, hby, hml, hww, hnm, hrt, hlk⟩, locs, X, N, Z0, P⟩ := id A
  subst hq
  have hd' := hb hby hd
  refine Go.st (fun t h => ?_) k
  show Steps p.tables e below (T.setTop { method := m, pc := pc, locals := Ls, stack := _ :: st, locked := none }) _
  jvm_step X.here [X.here.top, hx, hd', Value.category]
  exact h

theorem Here.copyAll (A : Here p l e R s m args below meth c Z a0 tbl own nm bc mxl rt n0 T L cells slots) {pc q index W w1 w2 w3 w4 i j : Nat} {Ls : Array Slot} {st : List Value} {a b : Addr} {ty : FieldType} {vs vd : List Value} {nn : Int32} {L' : Obs} (hd : decode bc pc = .ok (.invokestatic index, 3)) (hq : pc + 3 = q) (h1 : tbl[w1]? = some (Jvm.Cond.methodLink own index Jvm.Stand.acN)) (h2 : tbl[w2]? = some (Jvm.Cond.native Jvm.Stand.acN)) (h3 : tbl[w3]? = some (Jvm.Cond.static Jvm.Stand.acN)) (h4 : tbl[w4]? = some (Jvm.Cond.initialized "java/lang/System")) (hi : L[i]? = some (a, .inr (ty, vs))) (hj : L[j]? = some (b, .inr (ty, vd))) (hr : refKind ty = false) (hn : vd.length = vs.length) (hnn : vs.length.toInt32 = nn)
    (hsz : Ls.size = mxl) (hW : (st.map fun v => v.category).sum = W) (hf : 1 ≤ R.frames) (hlo : W + (nativeFrameWords "java/lang/System" "arraycopy" 5 + 11) ≤ R.locals) (hL' : L.set j (b, .inr (ty, vs)) = L') (k : ∀ T', Here p l e R s m args below meth c Z a0 tbl own nm bc mxl rt n0 T' L' cells slots → Go p e below F (T'.setTop (mkF m q Ls st))) : Go p e below F (T.setTop (mkF m pc Ls (.int nn :: .int 0 :: .ref b :: .int 0 :: .ref a :: st))) := by
  obtain ⟨⟨hx, hZ, hown, hby, hml, hww, hnm, hrt, hlk⟩, locs, X, N, Z0, P⟩ := id A
  have Ia := P.1 _ (List.mem_of_getElem? hi)
  have Ib := P.1 _ (List.mem_of_getElem? hj)
  have Ib2 : Ara Z T.heap b ty vd := Ib.2
  have Ia2 : Ara Z T.heap a ty vs := Ia.2
  obtain ⟨ka, VA, la, na⟩ := Ia2.toArv (defaultValue ty)
  obtain ⟨kb, VB, lb, nb⟩ := Ib2.toArv (defaultValue ty)
  rw [hn] at VB lb
  subst hq hnn hL'
  have z0 : (0 : Int32).toNatClampNeg = 0 := by decide
  obtain ⟨T', h', L1, X', e', N', K, V', st'⟩ := cpA X hx hZ hown (hww _ (List.mem_of_getElem? h1)) (hww _ (List.mem_of_getElem? h2)) (hww _ (List.mem_of_getElem? h3)) (hww _ (List.mem_of_getElem? h4)) rfl VA VB (Or.inl ⟨rfl, hr⟩) (sp := 0) (dp := 0) (by decide) (by decide) na (by rw [z0]; omega) (by rw [z0]; omega) rfl (by rw [z0]; omega) N Ib.1 (g := mkF m pc Ls (.int vs.length.toInt32 :: .int 0 :: .ref b :: .int 0 :: .ref a :: st)) rfl (by rw [hml]; exact hsz) rfl (hb hby hd) hf (W := W) (by show 2 * 0 + _ ≤ _; omega) hlo
  subst e'
  have ev : vd.take (0 : Int32).toNatClampNeg ++ (List.range vs.length.toInt32.toNatClampNeg).map (fun i => vs.getD ((0 : Int32).toNatClampNeg + i) (defaultValue ty)) ++ vd.drop ((0 : Int32).toNatClampNeg + vs.length.toInt32.toNatClampNeg) = vs := by
    rw [z0, la, List.take_zero, List.nil_append, List.drop_eq_nil_of_le (by omega), List.append_nil]
    refine List.ext_getElem? fun i => ?_
    by_cases hi' : i < vs.length
    · rw [List.getElem?_map, List.getElem?_range hi']; simp [List.getD_eq_getElem?_getD, hi']
    · rw [List.getElem?_eq_none (by simp; omega), List.getElem?_eq_none (by omega)]
  rw [ev] at V'
  obtain ⟨_, _, _, l31, _, Eb⟩ := Ib2
  exact Go.st st' (k T' ⟨A.1, L1, X', N', Nat.le_trans Z0 K.1, P.setK K hj (Arv.toAra V' la (by rw [hn] at l31; exact l31) (Eb.keep K))⟩)

theorem Here.retV  (A : Here p l e R s m args below meth c Z a0 tbl own nm bc mxl none n0 T L cells slots) {pc kc ks : Nat} {Ls : Array Slot} {Q : Option Value → Obs → Prop} (hd : decode bc pc = .ok (.return_, 1)) (hc : cells ≤ kc) (hs : slots ≤ ks) (hQ : Q none L) : Go p e below (EndS below s n0 Z kc ks Q) (T.setTop (mkF m pc Ls [])) := by
  obtain ⟨⟨hx, hZ, hown, hby, hml, hww, hnm, hrt, hlk⟩, locs, X, N, Z0, P⟩ := id A
  obtain ⟨fs, hr, hrun, hended, hW, hsame⟩ := X.leave (v := none) (fun _ => rfl)
  refine ⟨T.setFrames fs, ?_, _, hrun, hended, _, locs, rfl, ⟨N, Z0, L, hQ, P⟩, ⟨_, rfl⟩, hW, hsame.mono hc hs⟩
  exact X.returnOut hx hrt (hb hby hd) hr
theorem Here.retZ {x v : Int32} (A : Here p l e R s m args below meth c Z a0 tbl own nm bc mxl (some .boolean) n0 T L cells slots) {pc kc ks : Nat} {Ls : Array Slot} {st : List Value} {Q : Option Value → Obs → Prop} (hd : decode bc pc = .ok (.ireturn, 1)) (hv : nar .boolean x = v) (hc : cells ≤ kc) (hs : slots ≤ ks) (hQ : Q (some (.int v)) L) : Go p e below (EndS below s n0 Z kc ks Q) (T.setTop (mkF m pc Ls (.int x :: st))) := by
  obtain ⟨⟨hx, hZ, hown, hby, hml, hww, hnm, hrt, hlk⟩, locs, X, N, Z0, P⟩ := id A
  obtain ⟨fs, hr, hrun, hended, hW, hsame⟩ := X.leave (v := (some (.int v))) (fun h => by rw [hrt] at h; cases h)
  refine ⟨T.setFrames fs, ?_, _, hrun, hended, _, locs, rfl, ⟨N, Z0, L, hQ, P⟩, ⟨_, rfl⟩, hW, hsame.mono hc hs⟩
  subst hv; exact retN X hx (t := .boolean) hrt (by simp) (hb hby hd) hr
theorem Here.retB {x v : Int32} (A : Here p l e R s m args below meth c Z a0 tbl own nm bc mxl (some .byte) n0 T L cells slots) {pc kc ks : Nat} {Ls : Array Slot} {st : List Value} {Q : Option Value → Obs → Prop} (hd : decode bc pc = .ok (.ireturn, 1)) (hv : nar .byte x = v) (hc : cells ≤ kc) (hs : slots ≤ ks) (hQ : Q (some (.int v)) L) : Go p e below (EndS below s n0 Z kc ks Q) (T.setTop (mkF m pc Ls (.int x :: st))) := by
  obtain ⟨⟨hx, hZ, hown, hby, hml, hww, hnm, hrt, hlk⟩, locs, X, N, Z0, P⟩ := id A
  obtain ⟨fs, hr, hrun, hended, hW, hsame⟩ := X.leave (v := (some (.int v))) (fun h => by rw [hrt] at h; cases h)
  refine ⟨T.setFrames fs, ?_, _, hrun, hended, _, locs, rfl, ⟨N, Z0, L, hQ, P⟩, ⟨_, rfl⟩, hW, hsame.mono hc hs⟩
  subst hv; exact retN X hx (t := .byte) hrt (by simp) (hb hby hd) hr
theorem Here.retI {x : Int32} (A : Here p l e R s m args below meth c Z a0 tbl own nm bc mxl (some .int) n0 T L cells slots) {pc kc ks : Nat} {Ls : Array Slot} {st : List Value} {Q : Option Value → Obs → Prop} (hd : decode bc pc = .ok (.ireturn, 1)) (hc : cells ≤ kc) (hs : slots ≤ ks) (hQ : Q (some (.int x)) L) : Go p e below (EndS below s n0 Z kc ks Q) (T.setTop (mkF m pc Ls (.int x :: st))) := by
  obtain ⟨⟨hx, hZ, hown, hby, hml, hww, hnm, hrt, hlk⟩, locs, X, N, Z0, P⟩ := id A
  obtain ⟨fs, hr, hrun, hended, hW, hsame⟩ := X.leave (v := (some (.int x))) (fun h => by rw [hrt] at h; cases h)
  refine ⟨T.setFrames fs, ?_, _, hrun, hended, _, locs, rfl, ⟨N, Z0, L, hQ, P⟩, ⟨_, rfl⟩, hW, hsame.mono hc hs⟩
  exact retOut X hx (t := .int) hrt rfl (Or.inl ⟨rfl, Or.inl rfl, _, rfl⟩) (hb hby hd) hr
theorem Here.retJ {x : Int64} (A : Here p l e R s m args below meth c Z a0 tbl own nm bc mxl (some .long) n0 T L cells slots) {pc kc ks : Nat} {Ls : Array Slot} {st : List Value} {Q : Option Value → Obs → Prop} (hd : decode bc pc = .ok (.lreturn, 1)) (hc : cells ≤ kc) (hs : slots ≤ ks) (hQ : Q (some (.long x)) L) : Go p e below (EndS below s n0 Z kc ks Q) (T.setTop (mkF m pc Ls (.long x :: st))) := by
  obtain ⟨⟨hx, hZ, hown, hby, hml, hww, hnm, hrt, hlk⟩, locs, X, N, Z0, P⟩ := id A
  obtain ⟨fs, hr, hrun, hended, hW, hsame⟩ := X.leave (v := (some (.long x))) (fun h => by rw [hrt] at h; cases h)
  refine ⟨T.setFrames fs, ?_, _, hrun, hended, _, locs, rfl, ⟨N, Z0, L, hQ, P⟩, ⟨_, rfl⟩, hW, hsame.mono hc hs⟩
  exact retOut X hx (t := .long) hrt rfl (Or.inr (Or.inl ⟨rfl, rfl, _, rfl⟩)) (hb hby hd) hr
theorem Here.retA {x : Value} {t : FieldType} (A : Here p l e R s m args below meth c Z a0 tbl own nm bc mxl (some t) n0 T L cells slots) {pc kc ks : Nat} {Ls : Array Slot} {st : List Value} {Q : Option Value → Obs → Prop} (hd : decode bc pc = .ok (.areturn, 1)) (hrf : x.isRef = true) (htr : t.isReference = true) (hnn : narrow t x = x) (hc : cells ≤ kc) (hs : slots ≤ ks) (hQ : Q (some x) L) : Go p e below (EndS below s n0 Z kc ks Q) (T.setTop (mkF m pc Ls (x :: st))) := by
  obtain ⟨⟨hx, hZ, hown, hby, hml, hww, hnm, hrt, hlk⟩, locs, X, N, Z0, P⟩ := id A
  obtain ⟨fs, hr, hrun, hended, hW, hsame⟩ := X.leave (v := (some x)) (fun h => by rw [hrt] at h; cases h)
  refine ⟨T.setFrames fs, ?_, _, hrun, hended, _, locs, rfl, ⟨N, Z0, L, hQ, P⟩, ⟨_, rfl⟩, hW, hsame.mono hc hs⟩
  exact retOut X hx (t := t) hrt hnn (Or.inr (Or.inr (Or.inr (Or.inr ⟨rfl, htr, hrf⟩)))) (hb hby hd) hr
end Walk
abbrev ob0 (v0 v1 v2 v3 v4 : Value) : Ob := .inl ("com/example/proof_of_scan/proofofscan/Choices", [(("com/example/proof_of_scan/proofofscan/Choices", "values", "[Z"), v0), (("com/example/proof_of_scan/proofofscan/Choices", "taken", "[I"), v1), (("com/example/proof_of_scan/proofofscan/Choices", "isTaken", "[Z"), v2), (("com/example/proof_of_scan/proofofscan/Choices", "isHeld", "[Z"), v3), (("com/example/proof_of_scan/proofofscan/Choices", "takenCount", "I"), v4)])
theorem own_r3 {v : Int32} (h : 0 ≤ v.toInt ∧ v.toInt < 3) : v = 0 ∨ v = 1 ∨ v = 2 := by
  have q : v.toInt = (0 : Int32).toInt ∨ v.toInt = (1 : Int32).toInt ∨ v.toInt = (2 : Int32).toInt := by simp only [Int32.reduceToInt]; omega
  exact q.imp Int32.toInt_inj.mp (Or.imp Int32.toInt_inj.mp Int32.toInt_inj.mp)
theorem own_r4 {v : Int32} (h : 0 ≤ v.toInt ∧ v.toInt < 4) : v = 0 ∨ v = 1 ∨ v = 2 ∨ v = 3 := by
  have q : v.toInt = (0 : Int32).toInt ∨ v.toInt = (1 : Int32).toInt ∨ v.toInt = (2 : Int32).toInt ∨ v.toInt = (3 : Int32).toInt := by simp only [Int32.reduceToInt]; omega
  exact q.imp Int32.toInt_inj.mp (Or.imp Int32.toInt_inj.mp (Or.imp Int32.toInt_inj.mp Int32.toInt_inj.mp))
theorem own_r5 {v : Int32} (h : 0 ≤ v.toInt ∧ v.toInt < 5) : v = 0 ∨ v = 1 ∨ v = 2 ∨ v = 3 ∨ v = 4 := by
  have q : v.toInt = (0 : Int32).toInt ∨ v.toInt = (1 : Int32).toInt ∨ v.toInt = (2 : Int32).toInt ∨ v.toInt = (3 : Int32).toInt ∨ v.toInt = (4 : Int32).toInt := by simp only [Int32.reduceToInt]; omega
  exact q.imp Int32.toInt_inj.mp (Or.imp Int32.toInt_inj.mp (Or.imp Int32.toInt_inj.mp (Or.imp Int32.toInt_inj.mp Int32.toInt_inj.mp)))
theorem own_and3 (x : Int32) : x &&& (3 : Int32) = 0 ∨ x &&& (3 : Int32) = 1 ∨ x &&& (3 : Int32) = 2 ∨ x &&& (3 : Int32) = 3 :=
  own_r4 (by have h := c_mask x 3 2 (by decide) (by decide); omega)
theorem own_mod3 (x : Int32) : (x &&& (2147483647 : Int32)) % (3 : Int32) = 0 ∨ (x &&& (2147483647 : Int32)) % (3 : Int32) = 1 ∨ (x &&& (2147483647 : Int32)) % (3 : Int32) = 2 :=
  own_r3 (by
    have h1 := c_mask x 2147483647 31 (by decide) (by decide)
    have h2 := c_irem (x &&& (2147483647 : Int32)) 3 3 (by decide)
    omega)
theorem own_mod5 (x : Int32) : (x &&& (2147483647 : Int32)) % (5 : Int32) = 0 ∨ (x &&& (2147483647 : Int32)) % (5 : Int32) = 1 ∨ (x &&& (2147483647 : Int32)) % (5 : Int32) = 2 ∨ (x &&& (2147483647 : Int32)) % (5 : Int32) = 3 ∨ (x &&& (2147483647 : Int32)) % (5 : Int32) = 4 :=
  own_r5 (by
    have h1 := c_mask x 2147483647 31 (by decide) (by decide)
    have h2 := c_irem (x &&& (2147483647 : Int32)) 5 5 (by decide)
    omega)
theorem own_r2 {v : Int32} (h : 0 ≤ v.toInt ∧ v.toInt < 2) : v = 0 ∨ v = 1 := by
  have q : v.toInt = (0 : Int32).toInt ∨ v.toInt = (1 : Int32).toInt := by simp only [Int32.reduceToInt]; omega
  exact q.imp Int32.toInt_inj.mp Int32.toInt_inj.mp
theorem own_r1 {v : Int32} (h : 0 ≤ v.toInt ∧ v.toInt < 1) : v = 0 := by
  have q : v.toInt = (0 : Int32).toInt := by simp only [Int32.reduceToInt]; omega
  exact Int32.toInt_inj.mp q
theorem own_modb (x k : Int32) (d : Int) (hk : k.toInt = d) (hd : 0 < d) : 0 ≤ ((x &&& (2147483647 : Int32)) % k).toInt ∧ ((x &&& (2147483647 : Int32)) % k).toInt < d := by
  have h1 := c_mask x 2147483647 31 (by decide) (by decide)
  have h2 := (c_irem (x &&& (2147483647 : Int32)) k d hk).1 (by omega)
  rw [h2]
  exact ⟨Int.emod_nonneg _ (by omega), Int.emod_lt_of_pos _ hd⟩
theorem own_nb (x : Int32) : nar .byte (x.toInt8.toInt32) = x.toInt8.toInt32 := by
  have h1 := c_i2b x
  have h2 := c_i2b (x.toInt8.toInt32)
  refine Int32.toInt_inj.mp ?_
  show (x.toInt8.toInt32).toInt8.toInt32.toInt = _
  omega

theorem lay_0 (Z : State) (a0 : Array Value) (hw : ∀ d ∈ tables_1, d.before a0 Z = true) : Lays Z a0 "com/example/proof_of_scan/proofofscan/Choices" [("com/example/proof_of_scan/proofofscan/Choices", "values", "[Z"), ("com/example/proof_of_scan/proofofscan/Choices", "taken", "[I"), ("com/example/proof_of_scan/proofofscan/Choices", "isTaken", "[Z"), ("com/example/proof_of_scan/proofofscan/Choices", "isHeld", "[Z"), ("com/example/proof_of_scan/proofofscan/Choices", "takenCount", "I")] := by
  refine ⟨fun q hq => ?_, by decide⟩
  simp only [List.mem_cons, List.not_mem_nil, or_false] at hq
  rcases hq with rfl | rfl | rfl | rfl | rfl
  · exact ⟨Or.inr (hw _ (List.mem_of_getElem? (i := 12) rfl)), (.array .boolean), by decide⟩
  · exact ⟨Or.inr (hw _ (List.mem_of_getElem? (i := 15) rfl)), (.array .int), by decide⟩
  · exact ⟨Or.inr (hw _ (List.mem_of_getElem? (i := 17) rfl)), (.array .boolean), by decide⟩
  · exact ⟨Or.inr (hw _ (List.mem_of_getElem? (i := 19) rfl)), (.array .boolean), by decide⟩
  · exact ⟨Or.inl (hw _ (List.mem_of_getElem? (i := 54) rfl)), .int, by decide⟩
theorem d1_0 : decode prog_2_method_1_code 0 = .ok (.aload_n 0, 1) := by decide +kernel
theorem d1_1 : decode prog_2_method_1_code 1 = .ok (.invokespecial 1, 3) := by decide +kernel
theorem d1_4 : decode prog_2_method_1_code 4 = .ok (.aload_n 0, 1) := by decide +kernel
theorem d1_5 : decode prog_2_method_1_code 5 = .ok (.iload_n 1, 1) := by decide +kernel
theorem d1_6 : decode prog_2_method_1_code 6 = .ok (.newarray .boolean, 2) := by decide +kernel
theorem d1_8 : decode prog_2_method_1_code 8 = .ok (.putfield 7, 3) := by decide +kernel
theorem d1_11 : decode prog_2_method_1_code 11 = .ok (.aload_n 0, 1) := by decide +kernel
theorem d1_12 : decode prog_2_method_1_code 12 = .ok (.iload_n 1, 1) := by decide +kernel
theorem d1_13 : decode prog_2_method_1_code 13 = .ok (.newarray .int, 2) := by decide +kernel
theorem d1_15 : decode prog_2_method_1_code 15 = .ok (.putfield 13, 3) := by decide +kernel
theorem d1_18 : decode prog_2_method_1_code 18 = .ok (.aload_n 0, 1) := by decide +kernel
theorem d1_19 : decode prog_2_method_1_code 19 = .ok (.iload_n 1, 1) := by decide +kernel
theorem d1_20 : decode prog_2_method_1_code 20 = .ok (.newarray .boolean, 2) := by decide +kernel
theorem d1_22 : decode prog_2_method_1_code 22 = .ok (.putfield 17, 3) := by decide +kernel
theorem d1_25 : decode prog_2_method_1_code 25 = .ok (.aload_n 0, 1) := by decide +kernel
theorem d1_26 : decode prog_2_method_1_code 26 = .ok (.iload_n 1, 1) := by decide +kernel
theorem d1_27 : decode prog_2_method_1_code 27 = .ok (.newarray .boolean, 2) := by decide +kernel
theorem d1_29 : decode prog_2_method_1_code 29 = .ok (.putfield 20, 3) := by decide +kernel
theorem d1_32 : decode prog_2_method_1_code 32 = .ok (.return_, 1) := by decide +kernel
theorem pn_1 : plainFor (⟨"com/example/proof_of_scan/proofofscan/Choices", "<init>", "(I)V"⟩ : MethodName) = true := plainFor_of_name (by first | (simp [plainName, overriddenIn]; done) | decide +kernel)
set_option maxRecDepth 65536 in
set_option maxHeartbeats 8000000 in
theorem rm1_1 (l : Launch) (Z : State) (a0 : Array Value) (hw : ∀ d ∈ tables_1, d.before a0 Z = true) (n0 : Nat) (r0 : Addr) (RR : Obs) :
    Triple l Z n0 (⟨"com/example/proof_of_scan/proofofscan/Choices", "<init>", "(I)V"⟩ : MethodName) prog_2_method_1_code 2 none ({ frames := 1, cells := 4, slots := 12, locals := 12 } : Room) 4 12 [(.ref r0), (.int (3 : Int32))] ((r0, ob0 .null .null .null .null (.int (0 : Int32))) :: RR) (fun v L' => ∃ b4 b3 b2 b1 : Addr, v = none ∧ L' = ((b4, .inr (.boolean, [(.int (0 : Int32)), (.int (0 : Int32)), (.int (0 : Int32))])) :: (b3, .inr (.boolean, [(.int (0 : Int32)), (.int (0 : Int32)), (.int (0 : Int32))])) :: (b2, .inr (.int, [(.int (0 : Int32)), (.int (0 : Int32)), (.int (0 : Int32))])) :: (b1, .inr (.boolean, [(.int (0 : Int32)), (.int (0 : Int32)), (.int (0 : Int32))])) :: (r0, ob0 (.ref b1) (.ref b2) (.ref b3) (.ref b4) (.int (0 : Int32))) :: RR)) := by
  refine Triple.of_body (tbl := tables_1) (a0 := a0) (Ls := #[.val (.ref r0), .val (.int (3 : Int32))]) pn_1 hw rfl ?_
  intro p e s m below meth c T A
  refine A.aloadN (q := 1) d1_0 rfl rfl rfl ?_
  refine A.initObj (q := 4) (w1 := 7) (w2 := 8) (w3 := 9) (W := 0) d1_1 rfl rfl rfl rfl rfl rfl (by decide) (by decide) ?_
  intro T A
  refine A.aloadN (q := 5) d1_4 rfl rfl rfl ?_
  refine A.iloadN (q := 6) d1_5 rfl rfl ?_
  refine A.newA (q := 8) (w := 10) (cap := 3) (ty := .boolean) (vs := [(.int (0 : Int32)), (.int (0 : Int32)), (.int (0 : Int32))]) d1_6 rfl rfl rfl (by decide) (by decide) (by decide) rfl (by decide) (by decide) ?_
  intro T b1 A
  refine A.putF (q := 11) (w := 11) (w2 := 12) (w3 := 2) (i := 1) (j := 0) (ty := (.array .boolean)) (v' := (.ref b1)) (L' := ((b1, .inr (.boolean, [(.int (0 : Int32)), (.int (0 : Int32)), (.int (0 : Int32))])) :: (r0, ob0 (.ref b1) .null .null .null (.int (0 : Int32))) :: RR)) d1_8 rfl rfl rfl rfl (lay_0 Z a0 hw) (Or.inr ⟨rfl, rfl, rfl⟩) rfl (by decide) rfl rfl rfl ?_
  intro T A
  refine A.aloadN (q := 12) d1_11 rfl rfl rfl ?_
  refine A.iloadN (q := 13) d1_12 rfl rfl ?_
  refine A.newA (q := 15) (w := 13) (cap := 3) (ty := .int) (vs := [(.int (0 : Int32)), (.int (0 : Int32)), (.int (0 : Int32))]) d1_13 rfl rfl rfl (by decide) (by decide) (by decide) rfl (by decide) (by decide) ?_
  intro T b2 A
  refine A.putF (q := 18) (w := 14) (w2 := 15) (w3 := 2) (i := 2) (j := 1) (ty := (.array .int)) (v' := (.ref b2)) (L' := ((b2, .inr (.int, [(.int (0 : Int32)), (.int (0 : Int32)), (.int (0 : Int32))])) :: (b1, .inr (.boolean, [(.int (0 : Int32)), (.int (0 : Int32)), (.int (0 : Int32))])) :: (r0, ob0 (.ref b1) (.ref b2) .null .null (.int (0 : Int32))) :: RR)) d1_15 rfl rfl rfl rfl (lay_0 Z a0 hw) (Or.inr ⟨rfl, rfl, rfl⟩) rfl (by decide) rfl rfl rfl ?_
  intro T A
  refine A.aloadN (q := 19) d1_18 rfl rfl rfl ?_
  refine A.iloadN (q := 20) d1_19 rfl rfl ?_
  refine A.newA (q := 22) (w := 10) (cap := 3) (ty := .boolean) (vs := [(.int (0 : Int32)), (.int (0 : Int32)), (.int (0 : Int32))]) d1_20 rfl rfl rfl (by decide) (by decide) (by decide) rfl (by decide) (by decide) ?_
  intro T b3 A
  refine A.putF (q := 25) (w := 16) (w2 := 17) (w3 := 2) (i := 3) (j := 2) (ty := (.array .boolean)) (v' := (.ref b3)) (L' := ((b3, .inr (.boolean, [(.int (0 : Int32)), (.int (0 : Int32)), (.int (0 : Int32))])) :: (b2, .inr (.int, [(.int (0 : Int32)), (.int (0 : Int32)), (.int (0 : Int32))])) :: (b1, .inr (.boolean, [(.int (0 : Int32)), (.int (0 : Int32)), (.int (0 : Int32))])) :: (r0, ob0 (.ref b1) (.ref b2) (.ref b3) .null (.int (0 : Int32))) :: RR)) d1_22 rfl rfl rfl rfl (lay_0 Z a0 hw) (Or.inr ⟨rfl, rfl, rfl⟩) rfl (by decide) rfl rfl rfl ?_
  intro T A
  refine A.aloadN (q := 26) d1_25 rfl rfl rfl ?_
  refine A.iloadN (q := 27) d1_26 rfl rfl ?_
  refine A.newA (q := 29) (w := 10) (cap := 3) (ty := .boolean) (vs := [(.int (0 : Int32)), (.int (0 : Int32)), (.int (0 : Int32))]) d1_27 rfl rfl rfl (by decide) (by decide) (by decide) rfl (by decide) (by decide) ?_
  intro T b4 A
  refine A.putF (q := 32) (w := 18) (w2 := 19) (w3 := 2) (i := 4) (j := 3) (ty := (.array .boolean)) (v' := (.ref b4)) (L' := ((b4, .inr (.boolean, [(.int (0 : Int32)), (.int (0 : Int32)), (.int (0 : Int32))])) :: (b3, .inr (.boolean, [(.int (0 : Int32)), (.int (0 : Int32)), (.int (0 : Int32))])) :: (b2, .inr (.int, [(.int (0 : Int32)), (.int (0 : Int32)), (.int (0 : Int32))])) :: (b1, .inr (.boolean, [(.int (0 : Int32)), (.int (0 : Int32)), (.int (0 : Int32))])) :: (r0, ob0 (.ref b1) (.ref b2) (.ref b3) (.ref b4) (.int (0 : Int32))) :: RR)) d1_29 rfl rfl rfl rfl (lay_0 Z a0 hw) (Or.inr ⟨rfl, rfl, rfl⟩) rfl (by decide) rfl rfl rfl ?_
  intro T A
  exact A.retV d1_32 (by decide) (by decide) ⟨b4, b3, b2, b1, rfl, rfl⟩
theorem pd_0 : parseMethodDescriptor "(I)V" = some ⟨[.int], none⟩ := by decide +kernel
theorem d3_0 : decode prog_2_method_2_code 0 = .ok (.aload_n 0, 1) := by decide +kernel
theorem d3_1 : decode prog_2_method_2_code 1 = .ok (.getfield 20, 3) := by decide +kernel
theorem d3_4 : decode prog_2_method_2_code 4 = .ok (.iload_n 1, 1) := by decide +kernel
theorem d3_5 : decode prog_2_method_2_code 5 = .ok (.iconst 1, 1) := by decide +kernel
theorem d3_6 : decode prog_2_method_2_code 6 = .ok (.bastore, 1) := by decide +kernel
theorem d3_7 : decode prog_2_method_2_code 7 = .ok (.aload_n 0, 1) := by decide +kernel
theorem d3_8 : decode prog_2_method_2_code 8 = .ok (.getfield 7, 3) := by decide +kernel
theorem d3_11 : decode prog_2_method_2_code 11 = .ok (.iload_n 1, 1) := by decide +kernel
theorem d3_12 : decode prog_2_method_2_code 12 = .ok (.iload_n 2, 1) := by decide +kernel
theorem d3_13 : decode prog_2_method_2_code 13 = .ok (.bastore, 1) := by decide +kernel
theorem d3_14 : decode prog_2_method_2_code 14 = .ok (.return_, 1) := by decide +kernel
theorem pn_3 : plainFor (⟨"com/example/proof_of_scan/proofofscan/Choices", "hold", "(IZ)V"⟩ : MethodName) = true := plainFor_of_name (by first | (simp [plainName, overriddenIn]; done) | decide +kernel)
set_option maxRecDepth 65536 in
set_option maxHeartbeats 8000000 in
theorem rm3_1 (l : Launch) (Z : State) (a0 : Array Value) (hw : ∀ d ∈ tables_1, d.before a0 Z = true) (n0 : Nat) (r0 : Addr) (p1 : Int32) (r2 : Addr) (r3 : Addr) (r4 : Addr) (r5 : Addr) (RR : Obs) (z_p1 : nar .boolean p1 = p1) :
    Triple l Z n0 (⟨"com/example/proof_of_scan/proofofscan/Choices", "hold", "(IZ)V"⟩ : MethodName) prog_2_method_2_code 3 none ({ frames := 0, cells := 0, slots := 0, locals := 0 } : Room) 0 0 [(.ref r0), (.int (0 : Int32)), (.int p1)] ((r0, ob0 (.ref r2) (.ref r3) (.ref r4) (.ref r5) (.int (0 : Int32))) :: (r2, .inr (.boolean, [(.int (0 : Int32)), (.int (0 : Int32)), (.int (0 : Int32))])) :: (r3, .inr (.int, [(.int (0 : Int32)), (.int (0 : Int32)), (.int (0 : Int32))])) :: (r4, .inr (.boolean, [(.int (0 : Int32)), (.int (0 : Int32)), (.int (0 : Int32))])) :: (r5, .inr (.boolean, [(.int (0 : Int32)), (.int (0 : Int32)), (.int (0 : Int32))])) :: RR) (fun v L' => v = none ∧ L' = ((r0, ob0 (.ref r2) (.ref r3) (.ref r4) (.ref r5) (.int (0 : Int32))) :: (r2, .inr (.boolean, [(.int p1), (.int (0 : Int32)), (.int (0 : Int32))])) :: (r3, .inr (.int, [(.int (0 : Int32)), (.int (0 : Int32)), (.int (0 : Int32))])) :: (r4, .inr (.boolean, [(.int (0 : Int32)), (.int (0 : Int32)), (.int (0 : Int32))])) :: (r5, .inr (.boolean, [(.int (1 : Int32)), (.int (0 : Int32)), (.int (0 : Int32))])) :: RR)) := by
  refine Triple.of_body (tbl := tables_1) (a0 := a0) (Ls := #[.val (.ref r0), .val (.int (0 : Int32)), .val (.int p1)]) pn_3 hw rfl ?_
  intro p e s m below meth c T A
  refine A.aloadN (q := 1) d3_0 rfl rfl rfl ?_
  refine A.getF (q := 4) (w := 18) (i := 0) (j := 3) d3_1 rfl rfl rfl rfl ?_
  intro T A
  refine A.iloadN (q := 5) d3_4 rfl rfl ?_
  refine A.iconst (q := 6) (v := (1 : Int32)) d3_5 rfl (by decide) ?_
  refine A.bastoreZ (q := 7) (i := 4) (x' := (1 : Int32)) (L' := ((r0, ob0 (.ref r2) (.ref r3) (.ref r4) (.ref r5) (.int (0 : Int32))) :: (r2, .inr (.boolean, [(.int (0 : Int32)), (.int (0 : Int32)), (.int (0 : Int32))])) :: (r3, .inr (.int, [(.int (0 : Int32)), (.int (0 : Int32)), (.int (0 : Int32))])) :: (r4, .inr (.boolean, [(.int (0 : Int32)), (.int (0 : Int32)), (.int (0 : Int32))])) :: (r5, .inr (.boolean, [(.int (1 : Int32)), (.int (0 : Int32)), (.int (0 : Int32))])) :: RR)) d3_6 rfl rfl (by decide) (by show Int32.toNatClampNeg (0 : Int32) < 3; decide) (by decide) rfl ?_
  intro T A
  refine A.aloadN (q := 8) d3_7 rfl rfl rfl ?_
  refine A.getF (q := 11) (w := 11) (i := 0) (j := 0) d3_8 rfl rfl rfl rfl ?_
  intro T A
  refine A.iloadN (q := 12) d3_11 rfl rfl ?_
  refine A.iloadN (q := 13) d3_12 rfl rfl ?_
  refine A.bastoreZ (q := 14) (i := 1) (x' := p1) (L' := ((r0, ob0 (.ref r2) (.ref r3) (.ref r4) (.ref r5) (.int (0 : Int32))) :: (r2, .inr (.boolean, [(.int p1), (.int (0 : Int32)), (.int (0 : Int32))])) :: (r3, .inr (.int, [(.int (0 : Int32)), (.int (0 : Int32)), (.int (0 : Int32))])) :: (r4, .inr (.boolean, [(.int (0 : Int32)), (.int (0 : Int32)), (.int (0 : Int32))])) :: (r5, .inr (.boolean, [(.int (1 : Int32)), (.int (0 : Int32)), (.int (0 : Int32))])) :: RR)) d3_13 rfl rfl (by decide) (by show Int32.toNatClampNeg (0 : Int32) < 3; decide) z_p1 rfl ?_
  intro T A
  exact A.retV d3_14 (by decide) (by decide) ⟨rfl, rfl⟩
theorem pd_1 : parseMethodDescriptor "(IZ)V" = some ⟨[.int, .boolean], none⟩ := by decide +kernel
set_option maxRecDepth 65536 in
set_option maxHeartbeats 8000000 in
theorem rm3_2 (l : Launch) (Z : State) (a0 : Array Value) (hw : ∀ d ∈ tables_1, d.before a0 Z = true) (n0 : Nat) (r0 : Addr) (p1 : Int32) (r2 : Addr) (r3 : Addr) (r4 : Addr) (r5 : Addr) (p6 : Int32) (p7 : Int32) (RR : Obs) (z_p1 : nar .boolean p1 = p1) (z_p6 : nar .boolean p6 = p6) (z_p7 : nar .boolean p7 = p7) :
    Triple l Z n0 (⟨"com/example/proof_of_scan/proofofscan/Choices", "hold", "(IZ)V"⟩ : MethodName) prog_2_method_2_code 3 none ({ frames := 0, cells := 0, slots := 0, locals := 0 } : Room) 0 0 [(.ref r0), (.int (0 : Int32)), (.int p1)] ((r0, ob0 (.ref r2) (.ref r3) (.ref r4) (.ref r5) (.int (0 : Int32))) :: (r2, .inr (.boolean, [(.int p6), (.int (0 : Int32)), (.int (0 : Int32))])) :: (r3, .inr (.int, [(.int (0 : Int32)), (.int (0 : Int32)), (.int (0 : Int32))])) :: (r4, .inr (.boolean, [(.int (0 : Int32)), (.int (0 : Int32)), (.int (0 : Int32))])) :: (r5, .inr (.boolean, [(.int p7), (.int (0 : Int32)), (.int (0 : Int32))])) :: RR) (fun v L' => v = none ∧ L' = ((r0, ob0 (.ref r2) (.ref r3) (.ref r4) (.ref r5) (.int (0 : Int32))) :: (r2, .inr (.boolean, [(.int p1), (.int (0 : Int32)), (.int (0 : Int32))])) :: (r3, .inr (.int, [(.int (0 : Int32)), (.int (0 : Int32)), (.int (0 : Int32))])) :: (r4, .inr (.boolean, [(.int (0 : Int32)), (.int (0 : Int32)), (.int (0 : Int32))])) :: (r5, .inr (.boolean, [(.int (1 : Int32)), (.int (0 : Int32)), (.int (0 : Int32))])) :: RR)) := by
  refine Triple.of_body (tbl := tables_1) (a0 := a0) (Ls := #[.val (.ref r0), .val (.int (0 : Int32)), .val (.int p1)]) pn_3 hw rfl ?_
  intro p e s m below meth c T A
  refine A.aloadN (q := 1) d3_0 rfl rfl rfl ?_
  refine A.getF (q := 4) (w := 18) (i := 0) (j := 3) d3_1 rfl rfl rfl rfl ?_
  intro T A
  refine A.iloadN (q := 5) d3_4 rfl rfl ?_
  refine A.iconst (q := 6) (v := (1 : Int32)) d3_5 rfl (by decide) ?_
  refine A.bastoreZ (q := 7) (i := 4) (x' := (1 : Int32)) (L' := ((r0, ob0 (.ref r2) (.ref r3) (.ref r4) (.ref r5) (.int (0 : Int32))) :: (r2, .inr (.boolean, [(.int p6), (.int (0 : Int32)), (.int (0 : Int32))])) :: (r3, .inr (.int, [(.int (0 : Int32)), (.int (0 : Int32)), (.int (0 : Int32))])) :: (r4, .inr (.boolean, [(.int (0 : Int32)), (.int (0 : Int32)), (.int (0 : Int32))])) :: (r5, .inr (.boolean, [(.int (1 : Int32)), (.int (0 : Int32)), (.int (0 : Int32))])) :: RR)) d3_6 rfl rfl (by decide) (by show Int32.toNatClampNeg (0 : Int32) < 3; decide) (by decide) rfl ?_
  intro T A
  refine A.aloadN (q := 8) d3_7 rfl rfl rfl ?_
  refine A.getF (q := 11) (w := 11) (i := 0) (j := 0) d3_8 rfl rfl rfl rfl ?_
  intro T A
  refine A.iloadN (q := 12) d3_11 rfl rfl ?_
  refine A.iloadN (q := 13) d3_12 rfl rfl ?_
  refine A.bastoreZ (q := 14) (i := 1) (x' := p1) (L' := ((r0, ob0 (.ref r2) (.ref r3) (.ref r4) (.ref r5) (.int (0 : Int32))) :: (r2, .inr (.boolean, [(.int p1), (.int (0 : Int32)), (.int (0 : Int32))])) :: (r3, .inr (.int, [(.int (0 : Int32)), (.int (0 : Int32)), (.int (0 : Int32))])) :: (r4, .inr (.boolean, [(.int (0 : Int32)), (.int (0 : Int32)), (.int (0 : Int32))])) :: (r5, .inr (.boolean, [(.int (1 : Int32)), (.int (0 : Int32)), (.int (0 : Int32))])) :: RR)) d3_13 rfl rfl (by decide) (by show Int32.toNatClampNeg (0 : Int32) < 3; decide) z_p1 rfl ?_
  intro T A
  exact A.retV d3_14 (by decide) (by decide) ⟨rfl, rfl⟩
theorem d4_0 : decode prog_2_method_7_code 0 = .ok (.aload_n 0, 1) := by decide +kernel
theorem d4_1 : decode prog_2_method_7_code 1 = .ok (.getfield 7, 3) := by decide +kernel
theorem d4_4 : decode prog_2_method_7_code 4 = .ok (.invokevirtual 39, 3) := by decide +kernel
theorem d4_7 : decode prog_2_method_7_code 7 = .ok (.checkcast 40, 3) := by decide +kernel
theorem d4_10 : decode prog_2_method_7_code 10 = .ok (.areturn, 1) := by decide +kernel
theorem pn_4 : plainFor (⟨"com/example/proof_of_scan/proofofscan/Choices", "values", "()[Z"⟩ : MethodName) = true := plainFor_of_name (by first | (simp [plainName, overriddenIn]; done) | decide +kernel)
set_option maxRecDepth 65536 in
set_option maxHeartbeats 8000000 in
theorem rm4_1 (l : Launch) (Z : State) (a0 : Array Value) (hw : ∀ d ∈ tables_1, d.before a0 Z = true) (n0 : Nat) (r0 : Addr) (r1 : Addr) (r2 : Addr) (r3 : Addr) (r4 : Addr) (p5 : Int32) (RR : Obs) (z_p5 : nar .boolean p5 = p5) :
    Triple l Z n0 (⟨"com/example/proof_of_scan/proofofscan/Choices", "values", "()[Z"⟩ : MethodName) prog_2_method_7_code 1 (some (.array .boolean)) ({ frames := 1, cells := 1, slots := 3, locals := 14 } : Room) 1 3 [(.ref r0)] ((r0, ob0 (.ref r1) (.ref r2) (.ref r3) (.ref r4) (.int (0 : Int32))) :: (r1, .inr (.boolean, [(.int p5), (.int (0 : Int32)), (.int (0 : Int32))])) :: (r2, .inr (.int, [(.int (0 : Int32)), (.int (0 : Int32)), (.int (0 : Int32))])) :: (r3, .inr (.boolean, [(.int (0 : Int32)), (.int (0 : Int32)), (.int (0 : Int32))])) :: (r4, .inr (.boolean, [(.int (1 : Int32)), (.int (0 : Int32)), (.int (0 : Int32))])) :: RR) (fun v L' => ∃ b1 : Addr, v = some (.ref b1) ∧ L' = ((b1, .inr (.boolean, [(.int p5), (.int (0 : Int32)), (.int (0 : Int32))])) :: (r0, ob0 (.ref r1) (.ref r2) (.ref r3) (.ref r4) (.int (0 : Int32))) :: (r1, .inr (.boolean, [(.int p5), (.int (0 : Int32)), (.int (0 : Int32))])) :: (r2, .inr (.int, [(.int (0 : Int32)), (.int (0 : Int32)), (.int (0 : Int32))])) :: (r3, .inr (.boolean, [(.int (0 : Int32)), (.int (0 : Int32)), (.int (0 : Int32))])) :: (r4, .inr (.boolean, [(.int (1 : Int32)), (.int (0 : Int32)), (.int (0 : Int32))])) :: RR)) := by
  refine Triple.of_body (tbl := tables_1) (a0 := a0) (Ls := #[.val (.ref r0)]) pn_4 hw rfl ?_
  intro p e s m below meth c T A
  refine A.aloadN (q := 1) d4_0 rfl rfl rfl ?_
  refine A.getF (q := 4) (w := 11) (i := 0) (j := 0) d4_1 rfl rfl rfl rfl ?_
  intro T A
  refine A.clone (q := 7) (i := 1) (w1 := 30) (w2 := 31) (w3 := 35) (w4 := 33) (w5 := 34) (w6 := 36) (W := 0) (cap := 3) (ad := "[Z") d4_4 rfl rfl (by decide) rfl rfl rfl rfl rfl rfl rfl rfl (by decide) (by decide) (Nat.le_refl _) (by decide) (by decide) ?_
  intro T b1 A
  refine A.castArr (q := 10) (w := 37) (i := 0) d4_7 rfl rfl rfl (by decide) ?_
  intro T A
  exact A.retA d4_10 rfl rfl rfl (by decide) (by decide) ⟨b1, rfl, rfl⟩
theorem pd_2 : parseMethodDescriptor "()[Z" = some ⟨[], some (.array .boolean)⟩ := by decide +kernel
theorem d5_0 : decode method_2_code 0 = .ok (.aload_n 0, 1) := by decide +kernel
theorem d5_1 : decode method_2_code 1 = .ok (.arraylength, 1) := by decide +kernel
theorem d5_2 : decode method_2_code 2 = .ok (.iconst 3, 1) := by decide +kernel
theorem d5_3 : decode method_2_code 3 = .ok (.if_icmp .eq 5, 3) := by decide +kernel
theorem d5_6 : decode method_2_code 6 = .ok (.iconst 0, 1) := by decide +kernel
theorem d5_7 : decode method_2_code 7 = .ok (.ireturn, 1) := by decide +kernel
theorem d5_8 : decode method_2_code 8 = .ok (.iconst 0, 1) := by decide +kernel
theorem d5_9 : decode method_2_code 9 = .ok (.iload_n 1, 1) := by decide +kernel
theorem d5_10 : decode method_2_code 10 = .ok (.if_icmp .ne 7, 3) := by decide +kernel
theorem d5_13 : decode method_2_code 13 = .ok (.iload_n 2, 1) := by decide +kernel
theorem d5_14 : decode method_2_code 14 = .ok (.goto 13, 3) := by decide +kernel
theorem d5_17 : decode method_2_code 17 = .ok (.iconst 0, 1) := by decide +kernel
theorem d5_18 : decode method_2_code 18 = .ok (.iload_n 3, 1) := by decide +kernel
theorem d5_19 : decode method_2_code 19 = .ok (.if_icmp .ne 7, 3) := by decide +kernel
theorem d5_22 : decode method_2_code 22 = .ok (.iconst 1, 1) := by decide +kernel
theorem d5_23 : decode method_2_code 23 = .ok (.goto 4, 3) := by decide +kernel
theorem d5_26 : decode method_2_code 26 = .ok (.iconst 0, 1) := by decide +kernel
theorem d5_27 : decode method_2_code 27 = .ok (.istore 4, 2) := by decide +kernel
theorem d5_29 : decode method_2_code 29 = .ok (.iconst 1, 1) := by decide +kernel
theorem d5_30 : decode method_2_code 30 = .ok (.iload_n 1, 1) := by decide +kernel
theorem d5_31 : decode method_2_code 31 = .ok (.if_icmp .ne 7, 3) := by decide +kernel
theorem d5_34 : decode method_2_code 34 = .ok (.iload_n 2, 1) := by decide +kernel
theorem d5_35 : decode method_2_code 35 = .ok (.goto 13, 3) := by decide +kernel
theorem d5_38 : decode method_2_code 38 = .ok (.iconst 1, 1) := by decide +kernel
theorem d5_39 : decode method_2_code 39 = .ok (.iload_n 3, 1) := by decide +kernel
theorem d5_40 : decode method_2_code 40 = .ok (.if_icmp .ne 7, 3) := by decide +kernel
theorem d5_43 : decode method_2_code 43 = .ok (.iconst 1, 1) := by decide +kernel
theorem d5_44 : decode method_2_code 44 = .ok (.goto 4, 3) := by decide +kernel
theorem d5_47 : decode method_2_code 47 = .ok (.iconst 0, 1) := by decide +kernel
theorem d5_48 : decode method_2_code 48 = .ok (.istore 5, 2) := by decide +kernel
theorem d5_50 : decode method_2_code 50 = .ok (.iconst 2, 1) := by decide +kernel
theorem d5_51 : decode method_2_code 51 = .ok (.iload_n 1, 1) := by decide +kernel
theorem d5_52 : decode method_2_code 52 = .ok (.if_icmp .ne 7, 3) := by decide +kernel
theorem d5_55 : decode method_2_code 55 = .ok (.iload_n 2, 1) := by decide +kernel
theorem d5_56 : decode method_2_code 56 = .ok (.goto 13, 3) := by decide +kernel
theorem d5_59 : decode method_2_code 59 = .ok (.iconst 2, 1) := by decide +kernel
theorem d5_60 : decode method_2_code 60 = .ok (.iload_n 3, 1) := by decide +kernel
theorem d5_61 : decode method_2_code 61 = .ok (.if_icmp .ne 7, 3) := by decide +kernel
theorem d5_64 : decode method_2_code 64 = .ok (.iconst 1, 1) := by decide +kernel
theorem d5_65 : decode method_2_code 65 = .ok (.goto 4, 3) := by decide +kernel
theorem d5_68 : decode method_2_code 68 = .ok (.iconst 0, 1) := by decide +kernel
theorem d5_69 : decode method_2_code 69 = .ok (.istore 6, 2) := by decide +kernel
theorem d5_71 : decode method_2_code 71 = .ok (.aload_n 0, 1) := by decide +kernel
theorem d5_72 : decode method_2_code 72 = .ok (.iconst 0, 1) := by decide +kernel
theorem d5_73 : decode method_2_code 73 = .ok (.baload, 1) := by decide +kernel
theorem d5_74 : decode method_2_code 74 = .ok (.iload 4, 2) := by decide +kernel
theorem d5_76 : decode method_2_code 76 = .ok (.if_icmp .ne 23, 3) := by decide +kernel
theorem d5_79 : decode method_2_code 79 = .ok (.aload_n 0, 1) := by decide +kernel
theorem d5_80 : decode method_2_code 80 = .ok (.iconst 1, 1) := by decide +kernel
theorem d5_81 : decode method_2_code 81 = .ok (.baload, 1) := by decide +kernel
theorem d5_82 : decode method_2_code 82 = .ok (.iload 5, 2) := by decide +kernel
theorem d5_84 : decode method_2_code 84 = .ok (.if_icmp .ne 15, 3) := by decide +kernel
theorem d5_87 : decode method_2_code 87 = .ok (.aload_n 0, 1) := by decide +kernel
theorem d5_88 : decode method_2_code 88 = .ok (.iconst 2, 1) := by decide +kernel
theorem d5_89 : decode method_2_code 89 = .ok (.baload, 1) := by decide +kernel
theorem d5_90 : decode method_2_code 90 = .ok (.iload 6, 2) := by decide +kernel
theorem d5_92 : decode method_2_code 92 = .ok (.if_icmp .ne 7, 3) := by decide +kernel
theorem d5_95 : decode method_2_code 95 = .ok (.iconst 1, 1) := by decide +kernel
theorem d5_96 : decode method_2_code 96 = .ok (.goto 4, 3) := by decide +kernel
theorem d5_99 : decode method_2_code 99 = .ok (.iconst 0, 1) := by decide +kernel
theorem d5_100 : decode method_2_code 100 = .ok (.ireturn, 1) := by decide +kernel
theorem pn_5 : plainFor (⟨"com/example/proof_of_scan/proofofscan/ChoicesHoldPinLaw", "same", "([ZIZI)Z"⟩ : MethodName) = true := plainFor_of_name (by first | (simp [plainName, overriddenIn]; done) | decide +kernel)
set_option maxRecDepth 65536 in
set_option maxHeartbeats 8000000 in
theorem rm5_1 (l : Launch) (Z : State) (a0 : Array Value) (hw : ∀ d ∈ tables_1, d.before a0 Z = true) (n0 : Nat) (r0 : Addr) (p1 : Int32) (RR : Obs) (z_p1 : nar .boolean p1 = p1) :
    Triple l Z n0 (⟨"com/example/proof_of_scan/proofofscan/ChoicesHoldPinLaw", "same", "([ZIZI)Z"⟩ : MethodName) method_2_code 7 (some .boolean) ({ frames := 0, cells := 0, slots := 0, locals := 0 } : Room) 0 0 [(.ref r0), (.int (0 : Int32)), (.int p1), (.int (-1 : Int32))] ((r0, .inr (.boolean, [(.int p1), (.int (0 : Int32)), (.int (0 : Int32))])) :: RR) (fun v L' => v = some (.int (1 : Int32)) ∧ L' = ((r0, .inr (.boolean, [(.int p1), (.int (0 : Int32)), (.int (0 : Int32))])) :: RR)) := by
  refine Triple.of_body (tbl := tables_1) (a0 := a0) (Ls := #[.val (.ref r0), .val (.int (0 : Int32)), .val (.int p1), .val (.int (-1 : Int32)), .unset, .unset, .unset]) pn_5 hw rfl ?_
  intro p e s m below meth c T A
  refine A.aloadN (q := 1) d5_0 rfl rfl rfl ?_
  refine A.arraylength (q := 2) (i := 0) (v := (3 : Int32)) d5_1 rfl rfl (by show Nat.toInt32 3 = 3; decide) ?_
  refine A.iconst (q := 3) (v := (3 : Int32)) d5_2 rfl (by decide) ?_
  refine A.icmpT (r := 8) d5_3 (by decide) (by decide) ?_
  refine A.iconst (q := 9) (v := (0 : Int32)) d5_8 rfl (by decide) ?_
  refine A.iloadN (q := 10) d5_9 rfl rfl ?_
  refine A.icmpF (q := 13) d5_10 rfl (by decide) ?_
  refine A.iloadN (q := 14) d5_13 rfl rfl ?_
  refine A.goto (r := 27) d5_14 (by decide) ?_
  refine A.istore (q := 29) (l' := #[.val (.ref r0), .val (.int (0 : Int32)), .val (.int p1), .val (.int (-1 : Int32)), .val (.int p1), .unset, .unset]) d5_27 rfl rfl ?_
  refine A.iconst (q := 30) (v := (1 : Int32)) d5_29 rfl (by decide) ?_
  refine A.iloadN (q := 31) d5_30 rfl rfl ?_
  refine A.icmpT (r := 38) d5_31 (by decide) (by decide) ?_
  refine A.iconst (q := 39) (v := (1 : Int32)) d5_38 rfl (by decide) ?_
  refine A.iloadN (q := 40) d5_39 rfl rfl ?_
  refine A.icmpT (r := 47) d5_40 (by decide) (by decide) ?_
  refine A.iconst (q := 48) (v := (0 : Int32)) d5_47 rfl (by decide) ?_
  refine A.istore (q := 50) (l' := #[.val (.ref r0), .val (.int (0 : Int32)), .val (.int p1), .val (.int (-1 : Int32)), .val (.int p1), .val (.int (0 : Int32)), .unset]) d5_48 rfl rfl ?_
  refine A.iconst (q := 51) (v := (2 : Int32)) d5_50 rfl (by decide) ?_
  refine A.iloadN (q := 52) d5_51 rfl rfl ?_
  refine A.icmpT (r := 59) d5_52 (by decide) (by decide) ?_
  refine A.iconst (q := 60) (v := (2 : Int32)) d5_59 rfl (by decide) ?_
  refine A.iloadN (q := 61) d5_60 rfl rfl ?_
  refine A.icmpT (r := 68) d5_61 (by decide) (by decide) ?_
  refine A.iconst (q := 69) (v := (0 : Int32)) d5_68 rfl (by decide) ?_
  refine A.istore (q := 71) (l' := #[.val (.ref r0), .val (.int (0 : Int32)), .val (.int p1), .val (.int (-1 : Int32)), .val (.int p1), .val (.int (0 : Int32)), .val (.int (0 : Int32))]) d5_69 rfl rfl ?_
  refine A.aloadN (q := 72) d5_71 rfl rfl rfl ?_
  refine A.iconst (q := 73) (v := (0 : Int32)) d5_72 rfl (by decide) ?_
  refine A.baloadZ (q := 74) (i := 0) (v := (.int p1)) d5_73 rfl rfl (by decide) rfl ?_
  refine A.iload (q := 76) d5_74 rfl rfl ?_
  refine A.icmpF (q := 79) d5_76 rfl (teq rfl).2 ?_
  refine A.aloadN (q := 80) d5_79 rfl rfl rfl ?_
  refine A.iconst (q := 81) (v := (1 : Int32)) d5_80 rfl (by decide) ?_
  refine A.baloadZ (q := 82) (i := 0) (v := (.int (0 : Int32))) d5_81 rfl rfl (by decide) rfl ?_
  refine A.iload (q := 84) d5_82 rfl rfl ?_
  refine A.icmpF (q := 87) d5_84 rfl (by decide) ?_
  refine A.aloadN (q := 88) d5_87 rfl rfl rfl ?_
  refine A.iconst (q := 89) (v := (2 : Int32)) d5_88 rfl (by decide) ?_
  refine A.baloadZ (q := 90) (i := 0) (v := (.int (0 : Int32))) d5_89 rfl rfl (by decide) rfl ?_
  refine A.iload (q := 92) d5_90 rfl rfl ?_
  refine A.icmpF (q := 95) d5_92 rfl (by decide) ?_
  refine A.iconst (q := 96) (v := (1 : Int32)) d5_95 rfl (by decide) ?_
  refine A.goto (r := 100) d5_96 (by decide) ?_
  exact A.retZ (v := (1 : Int32)) d5_100 (by decide) (by decide) (by decide) ⟨rfl, rfl⟩
theorem pd_3 : parseMethodDescriptor "([ZIZI)Z" = some ⟨[(.array .boolean), .int, .boolean, .int], some .boolean⟩ := by decide +kernel
theorem d6_0 : decode prog_2_method_3_code 0 = .ok (.aload_n 0, 1) := by decide +kernel
theorem d6_1 : decode prog_2_method_3_code 1 = .ok (.getfield 17, 3) := by decide +kernel
theorem d6_4 : decode prog_2_method_3_code 4 = .ok (.iload_n 1, 1) := by decide +kernel
theorem d6_5 : decode prog_2_method_3_code 5 = .ok (.baload, 1) := by decide +kernel
theorem d6_6 : decode prog_2_method_3_code 6 = .ok (.ifCond .ne 36, 3) := by decide +kernel
theorem d6_9 : decode prog_2_method_3_code 9 = .ok (.aload_n 0, 1) := by decide +kernel
theorem d6_10 : decode prog_2_method_3_code 10 = .ok (.getfield 20, 3) := by decide +kernel
theorem d6_13 : decode prog_2_method_3_code 13 = .ok (.iload_n 1, 1) := by decide +kernel
theorem d6_14 : decode prog_2_method_3_code 14 = .ok (.baload, 1) := by decide +kernel
theorem d6_15 : decode prog_2_method_3_code 15 = .ok (.ifCond .ne 27, 3) := by decide +kernel
theorem d6_18 : decode prog_2_method_3_code 18 = .ok (.aload_n 0, 1) := by decide +kernel
theorem d6_19 : decode prog_2_method_3_code 19 = .ok (.getfield 17, 3) := by decide +kernel
theorem d6_22 : decode prog_2_method_3_code 22 = .ok (.iload_n 1, 1) := by decide +kernel
theorem d6_23 : decode prog_2_method_3_code 23 = .ok (.iconst 1, 1) := by decide +kernel
theorem d6_24 : decode prog_2_method_3_code 24 = .ok (.bastore, 1) := by decide +kernel
theorem d6_25 : decode prog_2_method_3_code 25 = .ok (.aload_n 0, 1) := by decide +kernel
theorem d6_26 : decode prog_2_method_3_code 26 = .ok (.getfield 13, 3) := by decide +kernel
theorem d6_29 : decode prog_2_method_3_code 29 = .ok (.aload_n 0, 1) := by decide +kernel
theorem d6_30 : decode prog_2_method_3_code 30 = .ok (.dup, 1) := by decide +kernel
theorem d6_31 : decode prog_2_method_3_code 31 = .ok (.getfield 23, 3) := by decide +kernel
theorem d6_34 : decode prog_2_method_3_code 34 = .ok (.dup_x1, 1) := by decide +kernel
theorem d6_35 : decode prog_2_method_3_code 35 = .ok (.iconst 1, 1) := by decide +kernel
theorem d6_36 : decode prog_2_method_3_code 36 = .ok (.iadd, 1) := by decide +kernel
theorem d6_37 : decode prog_2_method_3_code 37 = .ok (.putfield 23, 3) := by decide +kernel
theorem d6_40 : decode prog_2_method_3_code 40 = .ok (.iload_n 1, 1) := by decide +kernel
theorem d6_41 : decode prog_2_method_3_code 41 = .ok (.iastore, 1) := by decide +kernel
theorem d6_42 : decode prog_2_method_3_code 42 = .ok (.aload_n 0, 1) := by decide +kernel
theorem d6_43 : decode prog_2_method_3_code 43 = .ok (.getfield 7, 3) := by decide +kernel
theorem d6_46 : decode prog_2_method_3_code 46 = .ok (.iload_n 1, 1) := by decide +kernel
theorem d6_47 : decode prog_2_method_3_code 47 = .ok (.baload, 1) := by decide +kernel
theorem d6_48 : decode prog_2_method_3_code 48 = .ok (.ireturn, 1) := by decide +kernel
theorem pn_6 : plainFor (⟨"com/example/proof_of_scan/proofofscan/Choices", "take", "(I)Z"⟩ : MethodName) = true := plainFor_of_name (by first | (simp [plainName, overriddenIn]; done) | decide +kernel)
set_option maxRecDepth 65536 in
set_option maxHeartbeats 8000000 in
theorem rm6_1 (l : Launch) (Z : State) (a0 : Array Value) (hw : ∀ d ∈ tables_1, d.before a0 Z = true) (n0 : Nat) (r0 : Addr) (r1 : Addr) (r2 : Addr) (r3 : Addr) (r4 : Addr) (p5 : Int32) (RR : Obs) (z_p5 : nar .boolean p5 = p5) :
    Triple l Z n0 (⟨"com/example/proof_of_scan/proofofscan/Choices", "take", "(I)Z"⟩ : MethodName) prog_2_method_3_code 2 (some .boolean) ({ frames := 0, cells := 0, slots := 0, locals := 0 } : Room) 0 0 [(.ref r0), (.int (0 : Int32))] ((r0, ob0 (.ref r1) (.ref r2) (.ref r3) (.ref r4) (.int (0 : Int32))) :: (r1, .inr (.boolean, [(.int p5), (.int (0 : Int32)), (.int (0 : Int32))])) :: (r2, .inr (.int, [(.int (0 : Int32)), (.int (0 : Int32)), (.int (0 : Int32))])) :: (r3, .inr (.boolean, [(.int (0 : Int32)), (.int (0 : Int32)), (.int (0 : Int32))])) :: (r4, .inr (.boolean, [(.int (1 : Int32)), (.int (0 : Int32)), (.int (0 : Int32))])) :: RR) (fun v L' => v = some (.int p5) ∧ L' = ((r0, ob0 (.ref r1) (.ref r2) (.ref r3) (.ref r4) (.int (0 : Int32))) :: (r1, .inr (.boolean, [(.int p5), (.int (0 : Int32)), (.int (0 : Int32))])) :: (r2, .inr (.int, [(.int (0 : Int32)), (.int (0 : Int32)), (.int (0 : Int32))])) :: (r3, .inr (.boolean, [(.int (0 : Int32)), (.int (0 : Int32)), (.int (0 : Int32))])) :: (r4, .inr (.boolean, [(.int (1 : Int32)), (.int (0 : Int32)), (.int (0 : Int32))])) :: RR)) := by
  refine Triple.of_body (tbl := tables_1) (a0 := a0) (Ls := #[.val (.ref r0), .val (.int (0 : Int32))]) pn_6 hw rfl ?_
  intro p e s m below meth c T A
  refine A.aloadN (q := 1) d6_0 rfl rfl rfl ?_
  refine A.getF (q := 4) (w := 16) (i := 0) (j := 2) d6_1 rfl rfl rfl rfl ?_
  intro T A
  refine A.iloadN (q := 5) d6_4 rfl rfl ?_
  refine A.baloadZ (q := 6) (i := 3) (v := (.int (0 : Int32))) d6_5 rfl rfl (by decide) rfl ?_
  refine A.ifF (q := 9) d6_6 rfl (by decide) ?_
  refine A.aloadN (q := 10) d6_9 rfl rfl rfl ?_
  refine A.getF (q := 13) (w := 18) (i := 0) (j := 3) d6_10 rfl rfl rfl rfl ?_
  intro T A
  refine A.iloadN (q := 14) d6_13 rfl rfl ?_
  refine A.baloadZ (q := 15) (i := 4) (v := (.int (1 : Int32))) d6_14 rfl rfl (by decide) rfl ?_
  refine A.ifT (r := 42) d6_15 (by decide) (by decide) ?_
  refine A.aloadN (q := 43) d6_42 rfl rfl rfl ?_
  refine A.getF (q := 46) (w := 11) (i := 0) (j := 0) d6_43 rfl rfl rfl rfl ?_
  intro T A
  refine A.iloadN (q := 47) d6_46 rfl rfl ?_
  refine A.baloadZ (q := 48) (i := 1) (v := (.int p5)) d6_47 rfl rfl (by decide) rfl ?_
  exact A.retZ (v := p5) d6_48 z_p5 (by decide) (by decide) ⟨rfl, rfl⟩
theorem pd_4 : parseMethodDescriptor "(I)Z" = some ⟨[.int], some .boolean⟩ := by decide +kernel
theorem d7_0 : decode prog_2_method_9_code 0 = .ok (.aload_n 0, 1) := by decide +kernel
theorem d7_1 : decode prog_2_method_9_code 1 = .ok (.getfield 23, 3) := by decide +kernel
theorem d7_4 : decode prog_2_method_9_code 4 = .ok (.iconst 1, 1) := by decide +kernel
theorem d7_5 : decode prog_2_method_9_code 5 = .ok (.isub, 1) := by decide +kernel
theorem d7_6 : decode prog_2_method_9_code 6 = .ok (.istore_n 1, 1) := by decide +kernel
theorem d7_7 : decode prog_2_method_9_code 7 = .ok (.iload_n 1, 1) := by decide +kernel
theorem d7_8 : decode prog_2_method_9_code 8 = .ok (.ifCond .lt 23, 3) := by decide +kernel
theorem d7_11 : decode prog_2_method_9_code 11 = .ok (.aload_n 0, 1) := by decide +kernel
theorem d7_12 : decode prog_2_method_9_code 12 = .ok (.getfield 7, 3) := by decide +kernel
theorem d7_15 : decode prog_2_method_9_code 15 = .ok (.aload_n 0, 1) := by decide +kernel
theorem d7_16 : decode prog_2_method_9_code 16 = .ok (.getfield 13, 3) := by decide +kernel
theorem d7_19 : decode prog_2_method_9_code 19 = .ok (.iload_n 1, 1) := by decide +kernel
theorem d7_20 : decode prog_2_method_9_code 20 = .ok (.iaload, 1) := by decide +kernel
theorem d7_21 : decode prog_2_method_9_code 21 = .ok (.baload, 1) := by decide +kernel
theorem d7_22 : decode prog_2_method_9_code 22 = .ok (.ifCond .eq 9, 3) := by decide +kernel
theorem d7_25 : decode prog_2_method_9_code 25 = .ok (.iinc 1 (-1), 3) := by decide +kernel
theorem d7_28 : decode prog_2_method_9_code 28 = .ok (.goto (-21), 3) := by decide +kernel
theorem d7_31 : decode prog_2_method_9_code 31 = .ok (.iload_n 1, 1) := by decide +kernel
theorem d7_32 : decode prog_2_method_9_code 32 = .ok (.ifCond .ge 5, 3) := by decide +kernel
theorem d7_35 : decode prog_2_method_9_code 35 = .ok (.iconst 0, 1) := by decide +kernel
theorem d7_36 : decode prog_2_method_9_code 36 = .ok (.ireturn, 1) := by decide +kernel
theorem d7_37 : decode prog_2_method_9_code 37 = .ok (.aload_n 0, 1) := by decide +kernel
theorem d7_38 : decode prog_2_method_9_code 38 = .ok (.getfield 7, 3) := by decide +kernel
theorem d7_41 : decode prog_2_method_9_code 41 = .ok (.aload_n 0, 1) := by decide +kernel
theorem d7_42 : decode prog_2_method_9_code 42 = .ok (.getfield 13, 3) := by decide +kernel
theorem d7_45 : decode prog_2_method_9_code 45 = .ok (.iload_n 1, 1) := by decide +kernel
theorem d7_46 : decode prog_2_method_9_code 46 = .ok (.iaload, 1) := by decide +kernel
theorem d7_47 : decode prog_2_method_9_code 47 = .ok (.iconst 1, 1) := by decide +kernel
theorem d7_48 : decode prog_2_method_9_code 48 = .ok (.bastore, 1) := by decide +kernel
theorem d7_49 : decode prog_2_method_9_code 49 = .ok (.iload_n 1, 1) := by decide +kernel
theorem d7_50 : decode prog_2_method_9_code 50 = .ok (.iconst 1, 1) := by decide +kernel
theorem d7_51 : decode prog_2_method_9_code 51 = .ok (.iadd, 1) := by decide +kernel
theorem d7_52 : decode prog_2_method_9_code 52 = .ok (.istore_n 2, 1) := by decide +kernel
theorem d7_53 : decode prog_2_method_9_code 53 = .ok (.iload_n 2, 1) := by decide +kernel
theorem d7_54 : decode prog_2_method_9_code 54 = .ok (.aload_n 0, 1) := by decide +kernel
theorem d7_55 : decode prog_2_method_9_code 55 = .ok (.getfield 23, 3) := by decide +kernel
theorem d7_58 : decode prog_2_method_9_code 58 = .ok (.if_icmp .ge 21, 3) := by decide +kernel
theorem d7_61 : decode prog_2_method_9_code 61 = .ok (.aload_n 0, 1) := by decide +kernel
theorem d7_62 : decode prog_2_method_9_code 62 = .ok (.getfield 7, 3) := by decide +kernel
theorem d7_65 : decode prog_2_method_9_code 65 = .ok (.aload_n 0, 1) := by decide +kernel
theorem d7_66 : decode prog_2_method_9_code 66 = .ok (.getfield 13, 3) := by decide +kernel
theorem d7_69 : decode prog_2_method_9_code 69 = .ok (.iload_n 2, 1) := by decide +kernel
theorem d7_70 : decode prog_2_method_9_code 70 = .ok (.iaload, 1) := by decide +kernel
theorem d7_71 : decode prog_2_method_9_code 71 = .ok (.iconst 0, 1) := by decide +kernel
theorem d7_72 : decode prog_2_method_9_code 72 = .ok (.bastore, 1) := by decide +kernel
theorem d7_73 : decode prog_2_method_9_code 73 = .ok (.iinc 2 1, 3) := by decide +kernel
theorem d7_76 : decode prog_2_method_9_code 76 = .ok (.goto (-23), 3) := by decide +kernel
theorem d7_79 : decode prog_2_method_9_code 79 = .ok (.aload_n 0, 1) := by decide +kernel
theorem d7_80 : decode prog_2_method_9_code 80 = .ok (.invokevirtual 36, 3) := by decide +kernel
theorem d7_83 : decode prog_2_method_9_code 83 = .ok (.iconst 1, 1) := by decide +kernel
theorem d7_84 : decode prog_2_method_9_code 84 = .ok (.ireturn, 1) := by decide +kernel
theorem pn_7 : plainFor (⟨"com/example/proof_of_scan/proofofscan/Choices", "next", "()Z"⟩ : MethodName) = true := plainFor_of_name (by first | (simp [plainName, overriddenIn]; done) | decide +kernel)
set_option maxRecDepth 65536 in
set_option maxHeartbeats 8000000 in
theorem rm7_1 (l : Launch) (Z : State) (a0 : Array Value) (hw : ∀ d ∈ tables_1, d.before a0 Z = true) (n0 : Nat) (r0 : Addr) (r1 : Addr) (r2 : Addr) (r3 : Addr) (r4 : Addr) (p5 : Int32) (RR : Obs) (z_p5 : nar .boolean p5 = p5) :
    Triple l Z n0 (⟨"com/example/proof_of_scan/proofofscan/Choices", "next", "()Z"⟩ : MethodName) prog_2_method_9_code 3 (some .boolean) ({ frames := 0, cells := 0, slots := 0, locals := 0 } : Room) 0 0 [(.ref r0)] ((r0, ob0 (.ref r1) (.ref r2) (.ref r3) (.ref r4) (.int (0 : Int32))) :: (r1, .inr (.boolean, [(.int p5), (.int (0 : Int32)), (.int (0 : Int32))])) :: (r2, .inr (.int, [(.int (0 : Int32)), (.int (0 : Int32)), (.int (0 : Int32))])) :: (r3, .inr (.boolean, [(.int (0 : Int32)), (.int (0 : Int32)), (.int (0 : Int32))])) :: (r4, .inr (.boolean, [(.int (1 : Int32)), (.int (0 : Int32)), (.int (0 : Int32))])) :: RR) (fun v L' => v = some (.int (0 : Int32)) ∧ L' = ((r0, ob0 (.ref r1) (.ref r2) (.ref r3) (.ref r4) (.int (0 : Int32))) :: (r1, .inr (.boolean, [(.int p5), (.int (0 : Int32)), (.int (0 : Int32))])) :: (r2, .inr (.int, [(.int (0 : Int32)), (.int (0 : Int32)), (.int (0 : Int32))])) :: (r3, .inr (.boolean, [(.int (0 : Int32)), (.int (0 : Int32)), (.int (0 : Int32))])) :: (r4, .inr (.boolean, [(.int (1 : Int32)), (.int (0 : Int32)), (.int (0 : Int32))])) :: RR)) := by
  refine Triple.of_body (tbl := tables_1) (a0 := a0) (Ls := #[.val (.ref r0), .unset, .unset]) pn_7 hw rfl ?_
  intro p e s m below meth c T A
  refine A.aloadN (q := 1) d7_0 rfl rfl rfl ?_
  refine A.getF (q := 4) (w := 53) (i := 0) (j := 4) d7_1 rfl rfl rfl rfl ?_
  intro T A
  refine A.iconst (q := 5) (v := (1 : Int32)) d7_4 rfl (by decide) ?_
  refine A.isub (q := 6) (v := (-1 : Int32)) d7_5 rfl (by decide) ?_
  refine A.istoreN (q := 7) (l' := #[.val (.ref r0), .val (.int (-1 : Int32)), .unset]) d7_6 rfl rfl ?_
  refine A.iloadN (q := 8) d7_7 rfl rfl ?_
  refine A.ifT (r := 31) d7_8 (by decide) (by decide) ?_
  refine A.iloadN (q := 32) d7_31 rfl rfl ?_
  refine A.ifF (q := 35) d7_32 rfl (by decide) ?_
  refine A.iconst (q := 36) (v := (0 : Int32)) d7_35 rfl (by decide) ?_
  exact A.retZ (v := (0 : Int32)) d7_36 (by decide) (by decide) (by decide) ⟨rfl, rfl⟩
theorem pd_5 : parseMethodDescriptor "()Z" = some ⟨[], some .boolean⟩ := by decide +kernel
theorem d9_0 : decode prog_2_method_10_code 0 = .ok (.iconst 0, 1) := by decide +kernel
theorem d9_1 : decode prog_2_method_10_code 1 = .ok (.istore_n 1, 1) := by decide +kernel
theorem d9_2 : decode prog_2_method_10_code 2 = .ok (.iload_n 1, 1) := by decide +kernel
theorem d9_3 : decode prog_2_method_10_code 3 = .ok (.aload_n 0, 1) := by decide +kernel
theorem d9_4 : decode prog_2_method_10_code 4 = .ok (.getfield 23, 3) := by decide +kernel
theorem d9_7 : decode prog_2_method_10_code 7 = .ok (.if_icmp .ge 21, 3) := by decide +kernel
theorem d9_10 : decode prog_2_method_10_code 10 = .ok (.aload_n 0, 1) := by decide +kernel
theorem d9_11 : decode prog_2_method_10_code 11 = .ok (.getfield 17, 3) := by decide +kernel
theorem d9_14 : decode prog_2_method_10_code 14 = .ok (.aload_n 0, 1) := by decide +kernel
theorem d9_15 : decode prog_2_method_10_code 15 = .ok (.getfield 13, 3) := by decide +kernel
theorem d9_18 : decode prog_2_method_10_code 18 = .ok (.iload_n 1, 1) := by decide +kernel
theorem d9_19 : decode prog_2_method_10_code 19 = .ok (.iaload, 1) := by decide +kernel
theorem d9_20 : decode prog_2_method_10_code 20 = .ok (.iconst 0, 1) := by decide +kernel
theorem d9_21 : decode prog_2_method_10_code 21 = .ok (.bastore, 1) := by decide +kernel
theorem d9_22 : decode prog_2_method_10_code 22 = .ok (.iinc 1 1, 3) := by decide +kernel
theorem d9_25 : decode prog_2_method_10_code 25 = .ok (.goto (-23), 3) := by decide +kernel
theorem d9_28 : decode prog_2_method_10_code 28 = .ok (.aload_n 0, 1) := by decide +kernel
theorem d9_29 : decode prog_2_method_10_code 29 = .ok (.iconst 0, 1) := by decide +kernel
theorem d9_30 : decode prog_2_method_10_code 30 = .ok (.putfield 23, 3) := by decide +kernel
theorem d9_33 : decode prog_2_method_10_code 33 = .ok (.return_, 1) := by decide +kernel
theorem pn_9 : plainFor (⟨"com/example/proof_of_scan/proofofscan/Choices", "forgetTaken", "()V"⟩ : MethodName) = true := plainFor_of_name (by first | (simp [plainName, overriddenIn]; done) | decide +kernel)
set_option maxRecDepth 65536 in
set_option maxHeartbeats 8000000 in
theorem rm9_1 (l : Launch) (Z : State) (a0 : Array Value) (hw : ∀ d ∈ tables_1, d.before a0 Z = true) (n0 : Nat) (r0 : Addr) (r1 : Addr) (r2 : Addr) (r3 : Addr) (r4 : Addr) (p5 : Int32) (RR : Obs) (z_p5 : nar .boolean p5 = p5) :
    Triple l Z n0 (⟨"com/example/proof_of_scan/proofofscan/Choices", "forgetTaken", "()V"⟩ : MethodName) prog_2_method_10_code 2 none ({ frames := 0, cells := 0, slots := 0, locals := 0 } : Room) 0 0 [(.ref r0)] ((r0, ob0 (.ref r1) (.ref r2) (.ref r3) (.ref r4) (.int (0 : Int32))) :: (r1, .inr (.boolean, [(.int p5), (.int (0 : Int32)), (.int (0 : Int32))])) :: (r2, .inr (.int, [(.int (0 : Int32)), (.int (0 : Int32)), (.int (0 : Int32))])) :: (r3, .inr (.boolean, [(.int (0 : Int32)), (.int (0 : Int32)), (.int (0 : Int32))])) :: (r4, .inr (.boolean, [(.int (1 : Int32)), (.int (0 : Int32)), (.int (0 : Int32))])) :: RR) (fun v L' => v = none ∧ L' = ((r0, ob0 (.ref r1) (.ref r2) (.ref r3) (.ref r4) (.int (0 : Int32))) :: (r1, .inr (.boolean, [(.int p5), (.int (0 : Int32)), (.int (0 : Int32))])) :: (r2, .inr (.int, [(.int (0 : Int32)), (.int (0 : Int32)), (.int (0 : Int32))])) :: (r3, .inr (.boolean, [(.int (0 : Int32)), (.int (0 : Int32)), (.int (0 : Int32))])) :: (r4, .inr (.boolean, [(.int (1 : Int32)), (.int (0 : Int32)), (.int (0 : Int32))])) :: RR)) := by
  refine Triple.of_body (tbl := tables_1) (a0 := a0) (Ls := #[.val (.ref r0), .unset]) pn_9 hw rfl ?_
  intro p e s m below meth c T A
  refine A.iconst (q := 1) (v := (0 : Int32)) d9_0 rfl (by decide) ?_
  refine A.istoreN (q := 2) (l' := #[.val (.ref r0), .val (.int (0 : Int32))]) d9_1 rfl rfl ?_
  refine A.iloadN (q := 3) d9_2 rfl rfl ?_
  refine A.aloadN (q := 4) d9_3 rfl rfl rfl ?_
  refine A.getF (q := 7) (w := 53) (i := 0) (j := 4) d9_4 rfl rfl rfl rfl ?_
  intro T A
  refine A.icmpT (r := 28) d9_7 (by decide) (by decide) ?_
  refine A.aloadN (q := 29) d9_28 rfl rfl rfl ?_
  refine A.iconst (q := 30) (v := (0 : Int32)) d9_29 rfl (by decide) ?_
  refine A.putF (q := 33) (w := 53) (w2 := 54) (w3 := 2) (i := 0) (j := 4) (ty := .int) (v' := (.int (0 : Int32))) (L' := ((r0, ob0 (.ref r1) (.ref r2) (.ref r3) (.ref r4) (.int (0 : Int32))) :: (r1, .inr (.boolean, [(.int p5), (.int (0 : Int32)), (.int (0 : Int32))])) :: (r2, .inr (.int, [(.int (0 : Int32)), (.int (0 : Int32)), (.int (0 : Int32))])) :: (r3, .inr (.boolean, [(.int (0 : Int32)), (.int (0 : Int32)), (.int (0 : Int32))])) :: (r4, .inr (.boolean, [(.int (1 : Int32)), (.int (0 : Int32)), (.int (0 : Int32))])) :: RR)) d9_30 rfl rfl rfl rfl (lay_0 Z a0 hw) (Or.inl rfl) rfl (by decide) rfl rfl rfl ?_
  intro T A
  exact A.retV d9_33 (by decide) (by decide) ⟨rfl, rfl⟩
theorem pd_6 : parseMethodDescriptor "()V" = some ⟨[], none⟩ := by decide +kernel
theorem d8_0 : decode prog_2_method_8_code 0 = .ok (.iconst 0, 1) := by decide +kernel
theorem d8_1 : decode prog_2_method_8_code 1 = .ok (.istore_n 1, 1) := by decide +kernel
theorem d8_2 : decode prog_2_method_8_code 2 = .ok (.iload_n 1, 1) := by decide +kernel
theorem d8_3 : decode prog_2_method_8_code 3 = .ok (.aload_n 0, 1) := by decide +kernel
theorem d8_4 : decode prog_2_method_8_code 4 = .ok (.getfield 7, 3) := by decide +kernel
theorem d8_7 : decode prog_2_method_8_code 7 = .ok (.arraylength, 1) := by decide +kernel
theorem d8_8 : decode prog_2_method_8_code 8 = .ok (.if_icmp .ge 24, 3) := by decide +kernel
theorem d8_11 : decode prog_2_method_8_code 11 = .ok (.aload_n 0, 1) := by decide +kernel
theorem d8_12 : decode prog_2_method_8_code 12 = .ok (.getfield 7, 3) := by decide +kernel
theorem d8_15 : decode prog_2_method_8_code 15 = .ok (.iload_n 1, 1) := by decide +kernel
theorem d8_16 : decode prog_2_method_8_code 16 = .ok (.dup2, 1) := by decide +kernel
theorem d8_17 : decode prog_2_method_8_code 17 = .ok (.baload, 1) := by decide +kernel
theorem d8_18 : decode prog_2_method_8_code 18 = .ok (.aload_n 0, 1) := by decide +kernel
theorem d8_19 : decode prog_2_method_8_code 19 = .ok (.getfield 20, 3) := by decide +kernel
theorem d8_22 : decode prog_2_method_8_code 22 = .ok (.iload_n 1, 1) := by decide +kernel
theorem d8_23 : decode prog_2_method_8_code 23 = .ok (.baload, 1) := by decide +kernel
theorem d8_24 : decode prog_2_method_8_code 24 = .ok (.iand, 1) := by decide +kernel
theorem d8_25 : decode prog_2_method_8_code 25 = .ok (.bastore, 1) := by decide +kernel
theorem d8_26 : decode prog_2_method_8_code 26 = .ok (.iinc 1 1, 3) := by decide +kernel
theorem d8_29 : decode prog_2_method_8_code 29 = .ok (.goto (-27), 3) := by decide +kernel
theorem d8_32 : decode prog_2_method_8_code 32 = .ok (.aload_n 0, 1) := by decide +kernel
theorem d8_33 : decode prog_2_method_8_code 33 = .ok (.invokevirtual 36, 3) := by decide +kernel
theorem d8_36 : decode prog_2_method_8_code 36 = .ok (.return_, 1) := by decide +kernel
theorem pn_8 : plainFor (⟨"com/example/proof_of_scan/proofofscan/Choices", "reset", "()V"⟩ : MethodName) = true := plainFor_of_name (by first | (simp [plainName, overriddenIn]; done) | decide +kernel)
set_option maxRecDepth 65536 in
set_option maxHeartbeats 8000000 in
theorem rm8_1 (l : Launch) (Z : State) (a0 : Array Value) (hw : ∀ d ∈ tables_1, d.before a0 Z = true) (n0 : Nat) (r0 : Addr) (r1 : Addr) (r2 : Addr) (r3 : Addr) (r4 : Addr) (p5 : Int32) (RR : Obs) (z_p5 : nar .boolean p5 = p5) :
    Triple l Z n0 (⟨"com/example/proof_of_scan/proofofscan/Choices", "reset", "()V"⟩ : MethodName) prog_2_method_8_code 2 none ({ frames := 1, cells := 0, slots := 0, locals := 13 } : Room) 0 0 [(.ref r0)] ((r0, ob0 (.ref r1) (.ref r2) (.ref r3) (.ref r4) (.int (0 : Int32))) :: (r1, .inr (.boolean, [(.int p5), (.int (0 : Int32)), (.int (0 : Int32))])) :: (r2, .inr (.int, [(.int (0 : Int32)), (.int (0 : Int32)), (.int (0 : Int32))])) :: (r3, .inr (.boolean, [(.int (0 : Int32)), (.int (0 : Int32)), (.int (0 : Int32))])) :: (r4, .inr (.boolean, [(.int (1 : Int32)), (.int (0 : Int32)), (.int (0 : Int32))])) :: RR) (fun v L' => v = none ∧ L' = ((r0, ob0 (.ref r1) (.ref r2) (.ref r3) (.ref r4) (.int (0 : Int32))) :: (r1, .inr (.boolean, [(.int p5), (.int (0 : Int32)), (.int (0 : Int32))])) :: (r2, .inr (.int, [(.int (0 : Int32)), (.int (0 : Int32)), (.int (0 : Int32))])) :: (r3, .inr (.boolean, [(.int (0 : Int32)), (.int (0 : Int32)), (.int (0 : Int32))])) :: (r4, .inr (.boolean, [(.int (1 : Int32)), (.int (0 : Int32)), (.int (0 : Int32))])) :: RR)) := by
  refine Triple.of_body (tbl := tables_1) (a0 := a0) (Ls := #[.val (.ref r0), .unset]) pn_8 hw rfl ?_
  intro p e s m below meth c T A
  refine A.iconst (q := 1) (v := (0 : Int32)) d8_0 rfl (by decide) ?_
  refine A.istoreN (q := 2) (l' := #[.val (.ref r0), .val (.int (0 : Int32))]) d8_1 rfl rfl ?_
  refine A.iloadN (q := 3) d8_2 rfl rfl ?_
  refine A.aloadN (q := 4) d8_3 rfl rfl rfl ?_
  refine A.getF (q := 7) (w := 11) (i := 0) (j := 0) d8_4 rfl rfl rfl rfl ?_
  intro T A
  refine A.arraylength (q := 8) (i := 1) (v := (3 : Int32)) d8_7 rfl rfl (by show Nat.toInt32 3 = 3; decide) ?_
  refine A.icmpF (q := 11) d8_8 rfl (by decide) ?_
  refine A.aloadN (q := 12) d8_11 rfl rfl rfl ?_
  refine A.getF (q := 15) (w := 11) (i := 0) (j := 0) d8_12 rfl rfl rfl rfl ?_
  intro T A
  refine A.iloadN (q := 16) d8_15 rfl rfl ?_
  refine A.dup2 (q := 17) d8_16 rfl rfl rfl ?_
  refine A.baloadZ (q := 18) (i := 1) (v := (.int p5)) d8_17 rfl rfl (by decide) rfl ?_
  refine A.aloadN (q := 19) d8_18 rfl rfl rfl ?_
  refine A.getF (q := 22) (w := 18) (i := 0) (j := 3) d8_19 rfl rfl rfl rfl ?_
  intro T A
  refine A.iloadN (q := 23) d8_22 rfl rfl ?_
  refine A.baloadZ (q := 24) (i := 4) (v := (.int (1 : Int32))) d8_23 rfl rfl (by decide) rfl ?_
  refine A.iand (q := 25) (v := p5) d8_24 rfl z_p5 ?_
  refine A.bastoreZ (q := 26) (i := 1) (x' := p5) (L' := ((r0, ob0 (.ref r1) (.ref r2) (.ref r3) (.ref r4) (.int (0 : Int32))) :: (r1, .inr (.boolean, [(.int p5), (.int (0 : Int32)), (.int (0 : Int32))])) :: (r2, .inr (.int, [(.int (0 : Int32)), (.int (0 : Int32)), (.int (0 : Int32))])) :: (r3, .inr (.boolean, [(.int (0 : Int32)), (.int (0 : Int32)), (.int (0 : Int32))])) :: (r4, .inr (.boolean, [(.int (1 : Int32)), (.int (0 : Int32)), (.int (0 : Int32))])) :: RR)) d8_25 rfl rfl (by decide) (by show Int32.toNatClampNeg (0 : Int32) < 3; decide) z_p5 rfl ?_
  intro T A
  refine A.iinc (q := 29) (v := (1 : Int32)) (l' := #[.val (.ref r0), .val (.int (1 : Int32))]) d8_26 rfl rfl (by decide) rfl ?_
  refine A.goto (r := 2) d8_29 (by decide) ?_
  refine A.iloadN (q := 3) d8_2 rfl rfl ?_
  refine A.aloadN (q := 4) d8_3 rfl rfl rfl ?_
  refine A.getF (q := 7) (w := 11) (i := 0) (j := 0) d8_4 rfl rfl rfl rfl ?_
  intro T A
  refine A.arraylength (q := 8) (i := 1) (v := (3 : Int32)) d8_7 rfl rfl (by show Nat.toInt32 3 = 3; decide) ?_
  refine A.icmpF (q := 11) d8_8 rfl (by decide) ?_
  refine A.aloadN (q := 12) d8_11 rfl rfl rfl ?_
  refine A.getF (q := 15) (w := 11) (i := 0) (j := 0) d8_12 rfl rfl rfl rfl ?_
  intro T A
  refine A.iloadN (q := 16) d8_15 rfl rfl ?_
  refine A.dup2 (q := 17) d8_16 rfl rfl rfl ?_
  refine A.baloadZ (q := 18) (i := 1) (v := (.int (0 : Int32))) d8_17 rfl rfl (by decide) rfl ?_
  refine A.aloadN (q := 19) d8_18 rfl rfl rfl ?_
  refine A.getF (q := 22) (w := 18) (i := 0) (j := 3) d8_19 rfl rfl rfl rfl ?_
  intro T A
  refine A.iloadN (q := 23) d8_22 rfl rfl ?_
  refine A.baloadZ (q := 24) (i := 4) (v := (.int (0 : Int32))) d8_23 rfl rfl (by decide) rfl ?_
  refine A.iand (q := 25) (v := (0 : Int32)) d8_24 rfl (by decide) ?_
  refine A.bastoreZ (q := 26) (i := 1) (x' := (0 : Int32)) (L' := ((r0, ob0 (.ref r1) (.ref r2) (.ref r3) (.ref r4) (.int (0 : Int32))) :: (r1, .inr (.boolean, [(.int p5), (.int (0 : Int32)), (.int (0 : Int32))])) :: (r2, .inr (.int, [(.int (0 : Int32)), (.int (0 : Int32)), (.int (0 : Int32))])) :: (r3, .inr (.boolean, [(.int (0 : Int32)), (.int (0 : Int32)), (.int (0 : Int32))])) :: (r4, .inr (.boolean, [(.int (1 : Int32)), (.int (0 : Int32)), (.int (0 : Int32))])) :: RR)) d8_25 rfl rfl (by decide) (by show Int32.toNatClampNeg (1 : Int32) < 3; decide) (by decide) rfl ?_
  intro T A
  refine A.iinc (q := 29) (v := (2 : Int32)) (l' := #[.val (.ref r0), .val (.int (2 : Int32))]) d8_26 rfl rfl (by decide) rfl ?_
  refine A.goto (r := 2) d8_29 (by decide) ?_
  refine A.iloadN (q := 3) d8_2 rfl rfl ?_
  refine A.aloadN (q := 4) d8_3 rfl rfl rfl ?_
  refine A.getF (q := 7) (w := 11) (i := 0) (j := 0) d8_4 rfl rfl rfl rfl ?_
  intro T A
  refine A.arraylength (q := 8) (i := 1) (v := (3 : Int32)) d8_7 rfl rfl (by show Nat.toInt32 3 = 3; decide) ?_
  refine A.icmpF (q := 11) d8_8 rfl (by decide) ?_
  refine A.aloadN (q := 12) d8_11 rfl rfl rfl ?_
  refine A.getF (q := 15) (w := 11) (i := 0) (j := 0) d8_12 rfl rfl rfl rfl ?_
  intro T A
  refine A.iloadN (q := 16) d8_15 rfl rfl ?_
  refine A.dup2 (q := 17) d8_16 rfl rfl rfl ?_
  refine A.baloadZ (q := 18) (i := 1) (v := (.int (0 : Int32))) d8_17 rfl rfl (by decide) rfl ?_
  refine A.aloadN (q := 19) d8_18 rfl rfl rfl ?_
  refine A.getF (q := 22) (w := 18) (i := 0) (j := 3) d8_19 rfl rfl rfl rfl ?_
  intro T A
  refine A.iloadN (q := 23) d8_22 rfl rfl ?_
  refine A.baloadZ (q := 24) (i := 4) (v := (.int (0 : Int32))) d8_23 rfl rfl (by decide) rfl ?_
  refine A.iand (q := 25) (v := (0 : Int32)) d8_24 rfl (by decide) ?_
  refine A.bastoreZ (q := 26) (i := 1) (x' := (0 : Int32)) (L' := ((r0, ob0 (.ref r1) (.ref r2) (.ref r3) (.ref r4) (.int (0 : Int32))) :: (r1, .inr (.boolean, [(.int p5), (.int (0 : Int32)), (.int (0 : Int32))])) :: (r2, .inr (.int, [(.int (0 : Int32)), (.int (0 : Int32)), (.int (0 : Int32))])) :: (r3, .inr (.boolean, [(.int (0 : Int32)), (.int (0 : Int32)), (.int (0 : Int32))])) :: (r4, .inr (.boolean, [(.int (1 : Int32)), (.int (0 : Int32)), (.int (0 : Int32))])) :: RR)) d8_25 rfl rfl (by decide) (by show Int32.toNatClampNeg (2 : Int32) < 3; decide) (by decide) rfl ?_
  intro T A
  refine A.iinc (q := 29) (v := (3 : Int32)) (l' := #[.val (.ref r0), .val (.int (3 : Int32))]) d8_26 rfl rfl (by decide) rfl ?_
  refine A.goto (r := 2) d8_29 (by decide) ?_
  refine A.iloadN (q := 3) d8_2 rfl rfl ?_
  refine A.aloadN (q := 4) d8_3 rfl rfl rfl ?_
  refine A.getF (q := 7) (w := 11) (i := 0) (j := 0) d8_4 rfl rfl rfl rfl ?_
  intro T A
  refine A.arraylength (q := 8) (i := 1) (v := (3 : Int32)) d8_7 rfl rfl (by show Nat.toInt32 3 = 3; decide) ?_
  refine A.icmpT (r := 32) d8_8 (by decide) (by decide) ?_
  refine A.aloadN (q := 33) d8_32 rfl rfl rfl ?_
  refine A.callP (q := 36) (i := 0) (w1 := 60) (w2 := 62) (w3 := 3) (w4 := 63) (w5 := 2) (w6 := 61) (a := r0) (as := []) (st := []) (W := 0) d8_33 rfl rfl rfl rfl rfl rfl rfl rfl (rm9_1 l Z a0 hw n0 r0 r1 r2 r3 r4 p5 _ z_p5) (by decide) ⟨_, _, pd_6, rfl⟩ rfl rfl rfl (by decide) (by decide) (by decide) (by decide) ?_
  rintro _ T _ ⟨rfl, rfl⟩ A
  show Go p e below _ (T.setTop (mkF m 36 #[.val (.ref r0), .val (.int (3 : Int32))] []))
  exact A.retV d8_36 (by decide) (by decide) ⟨rfl, rfl⟩
set_option maxRecDepth 65536 in
set_option maxHeartbeats 8000000 in
theorem rm6_2 (l : Launch) (Z : State) (a0 : Array Value) (hw : ∀ d ∈ tables_1, d.before a0 Z = true) (n0 : Nat) (r0 : Addr) (r1 : Addr) (r2 : Addr) (r3 : Addr) (r4 : Addr) (p5 : Int32) (RR : Obs) (z_p5 : nar .boolean p5 = p5) :
    Triple l Z n0 (⟨"com/example/proof_of_scan/proofofscan/Choices", "take", "(I)Z"⟩ : MethodName) prog_2_method_3_code 2 (some .boolean) ({ frames := 0, cells := 0, slots := 0, locals := 0 } : Room) 0 0 [(.ref r0), (.int (1 : Int32))] ((r0, ob0 (.ref r1) (.ref r2) (.ref r3) (.ref r4) (.int (0 : Int32))) :: (r1, .inr (.boolean, [(.int p5), (.int (0 : Int32)), (.int (0 : Int32))])) :: (r2, .inr (.int, [(.int (0 : Int32)), (.int (0 : Int32)), (.int (0 : Int32))])) :: (r3, .inr (.boolean, [(.int (0 : Int32)), (.int (0 : Int32)), (.int (0 : Int32))])) :: (r4, .inr (.boolean, [(.int (1 : Int32)), (.int (0 : Int32)), (.int (0 : Int32))])) :: RR) (fun v L' => v = some (.int (0 : Int32)) ∧ L' = ((r0, ob0 (.ref r1) (.ref r2) (.ref r3) (.ref r4) (.int (1 : Int32))) :: (r1, .inr (.boolean, [(.int p5), (.int (0 : Int32)), (.int (0 : Int32))])) :: (r2, .inr (.int, [(.int (1 : Int32)), (.int (0 : Int32)), (.int (0 : Int32))])) :: (r3, .inr (.boolean, [(.int (0 : Int32)), (.int (1 : Int32)), (.int (0 : Int32))])) :: (r4, .inr (.boolean, [(.int (1 : Int32)), (.int (0 : Int32)), (.int (0 : Int32))])) :: RR)) := by
  refine Triple.of_body (tbl := tables_1) (a0 := a0) (Ls := #[.val (.ref r0), .val (.int (1 : Int32))]) pn_6 hw rfl ?_
  intro p e s m below meth c T A
  refine A.aloadN (q := 1) d6_0 rfl rfl rfl ?_
  refine A.getF (q := 4) (w := 16) (i := 0) (j := 2) d6_1 rfl rfl rfl rfl ?_
  intro T A
  refine A.iloadN (q := 5) d6_4 rfl rfl ?_
  refine A.baloadZ (q := 6) (i := 3) (v := (.int (0 : Int32))) d6_5 rfl rfl (by decide) rfl ?_
  refine A.ifF (q := 9) d6_6 rfl (by decide) ?_
  refine A.aloadN (q := 10) d6_9 rfl rfl rfl ?_
  refine A.getF (q := 13) (w := 18) (i := 0) (j := 3) d6_10 rfl rfl rfl rfl ?_
  intro T A
  refine A.iloadN (q := 14) d6_13 rfl rfl ?_
  refine A.baloadZ (q := 15) (i := 4) (v := (.int (0 : Int32))) d6_14 rfl rfl (by decide) rfl ?_
  refine A.ifF (q := 18) d6_15 rfl (by decide) ?_
  refine A.aloadN (q := 19) d6_18 rfl rfl rfl ?_
  refine A.getF (q := 22) (w := 16) (i := 0) (j := 2) d6_19 rfl rfl rfl rfl ?_
  intro T A
  refine A.iloadN (q := 23) d6_22 rfl rfl ?_
  refine A.iconst (q := 24) (v := (1 : Int32)) d6_23 rfl (by decide) ?_
  refine A.bastoreZ (q := 25) (i := 3) (x' := (1 : Int32)) (L' := ((r0, ob0 (.ref r1) (.ref r2) (.ref r3) (.ref r4) (.int (0 : Int32))) :: (r1, .inr (.boolean, [(.int p5), (.int (0 : Int32)), (.int (0 : Int32))])) :: (r2, .inr (.int, [(.int (0 : Int32)), (.int (0 : Int32)), (.int (0 : Int32))])) :: (r3, .inr (.boolean, [(.int (0 : Int32)), (.int (1 : Int32)), (.int (0 : Int32))])) :: (r4, .inr (.boolean, [(.int (1 : Int32)), (.int (0 : Int32)), (.int (0 : Int32))])) :: RR)) d6_24 rfl rfl (by decide) (by show Int32.toNatClampNeg (1 : Int32) < 3; decide) (by decide) rfl ?_
  intro T A
  refine A.aloadN (q := 26) d6_25 rfl rfl rfl ?_
  refine A.getF (q := 29) (w := 14) (i := 0) (j := 1) d6_26 rfl rfl rfl rfl ?_
  intro T A
  refine A.aloadN (q := 30) d6_29 rfl rfl rfl ?_
  refine A.dup (q := 31) d6_30 rfl rfl ?_
  refine A.getF (q := 34) (w := 53) (i := 0) (j := 4) d6_31 rfl rfl rfl rfl ?_
  intro T A
  refine A.dup_x1 (q := 35) d6_34 rfl rfl rfl ?_
  refine A.iconst (q := 36) (v := (1 : Int32)) d6_35 rfl (by decide) ?_
  refine A.iadd (q := 37) (v := (1 : Int32)) d6_36 rfl (by decide) ?_
  refine A.putF (q := 40) (w := 53) (w2 := 54) (w3 := 2) (i := 0) (j := 4) (ty := .int) (v' := (.int (1 : Int32))) (L' := ((r0, ob0 (.ref r1) (.ref r2) (.ref r3) (.ref r4) (.int (1 : Int32))) :: (r1, .inr (.boolean, [(.int p5), (.int (0 : Int32)), (.int (0 : Int32))])) :: (r2, .inr (.int, [(.int (0 : Int32)), (.int (0 : Int32)), (.int (0 : Int32))])) :: (r3, .inr (.boolean, [(.int (0 : Int32)), (.int (1 : Int32)), (.int (0 : Int32))])) :: (r4, .inr (.boolean, [(.int (1 : Int32)), (.int (0 : Int32)), (.int (0 : Int32))])) :: RR)) d6_37 rfl rfl rfl rfl (lay_0 Z a0 hw) (Or.inl rfl) rfl (by decide) rfl rfl rfl ?_
  intro T A
  refine A.iloadN (q := 41) d6_40 rfl rfl ?_
  refine A.iastore (q := 42) (i := 2) (x' := (1 : Int32)) (L' := ((r0, ob0 (.ref r1) (.ref r2) (.ref r3) (.ref r4) (.int (1 : Int32))) :: (r1, .inr (.boolean, [(.int p5), (.int (0 : Int32)), (.int (0 : Int32))])) :: (r2, .inr (.int, [(.int (1 : Int32)), (.int (0 : Int32)), (.int (0 : Int32))])) :: (r3, .inr (.boolean, [(.int (0 : Int32)), (.int (1 : Int32)), (.int (0 : Int32))])) :: (r4, .inr (.boolean, [(.int (1 : Int32)), (.int (0 : Int32)), (.int (0 : Int32))])) :: RR)) d6_41 rfl rfl (by decide) (by show Int32.toNatClampNeg (0 : Int32) < 3; decide) rfl rfl ?_
  intro T A
  refine A.aloadN (q := 43) d6_42 rfl rfl rfl ?_
  refine A.getF (q := 46) (w := 11) (i := 0) (j := 0) d6_43 rfl rfl rfl rfl ?_
  intro T A
  refine A.iloadN (q := 47) d6_46 rfl rfl ?_
  refine A.baloadZ (q := 48) (i := 1) (v := (.int (0 : Int32))) d6_47 rfl rfl (by decide) rfl ?_
  exact A.retZ (v := (0 : Int32)) d6_48 (by decide) (by decide) (by decide) ⟨rfl, rfl⟩
set_option maxRecDepth 65536 in
set_option maxHeartbeats 8000000 in
theorem rm6_3 (l : Launch) (Z : State) (a0 : Array Value) (hw : ∀ d ∈ tables_1, d.before a0 Z = true) (n0 : Nat) (r0 : Addr) (r1 : Addr) (r2 : Addr) (r3 : Addr) (r4 : Addr) (p5 : Int32) (RR : Obs) (z_p5 : nar .boolean p5 = p5) :
    Triple l Z n0 (⟨"com/example/proof_of_scan/proofofscan/Choices", "take", "(I)Z"⟩ : MethodName) prog_2_method_3_code 2 (some .boolean) ({ frames := 0, cells := 0, slots := 0, locals := 0 } : Room) 0 0 [(.ref r0), (.int (0 : Int32))] ((r0, ob0 (.ref r1) (.ref r2) (.ref r3) (.ref r4) (.int (1 : Int32))) :: (r1, .inr (.boolean, [(.int p5), (.int (0 : Int32)), (.int (0 : Int32))])) :: (r2, .inr (.int, [(.int (1 : Int32)), (.int (0 : Int32)), (.int (0 : Int32))])) :: (r3, .inr (.boolean, [(.int (0 : Int32)), (.int (1 : Int32)), (.int (0 : Int32))])) :: (r4, .inr (.boolean, [(.int (1 : Int32)), (.int (0 : Int32)), (.int (0 : Int32))])) :: RR) (fun v L' => v = some (.int p5) ∧ L' = ((r0, ob0 (.ref r1) (.ref r2) (.ref r3) (.ref r4) (.int (1 : Int32))) :: (r1, .inr (.boolean, [(.int p5), (.int (0 : Int32)), (.int (0 : Int32))])) :: (r2, .inr (.int, [(.int (1 : Int32)), (.int (0 : Int32)), (.int (0 : Int32))])) :: (r3, .inr (.boolean, [(.int (0 : Int32)), (.int (1 : Int32)), (.int (0 : Int32))])) :: (r4, .inr (.boolean, [(.int (1 : Int32)), (.int (0 : Int32)), (.int (0 : Int32))])) :: RR)) := by
  refine Triple.of_body (tbl := tables_1) (a0 := a0) (Ls := #[.val (.ref r0), .val (.int (0 : Int32))]) pn_6 hw rfl ?_
  intro p e s m below meth c T A
  refine A.aloadN (q := 1) d6_0 rfl rfl rfl ?_
  refine A.getF (q := 4) (w := 16) (i := 0) (j := 2) d6_1 rfl rfl rfl rfl ?_
  intro T A
  refine A.iloadN (q := 5) d6_4 rfl rfl ?_
  refine A.baloadZ (q := 6) (i := 3) (v := (.int (0 : Int32))) d6_5 rfl rfl (by decide) rfl ?_
  refine A.ifF (q := 9) d6_6 rfl (by decide) ?_
  refine A.aloadN (q := 10) d6_9 rfl rfl rfl ?_
  refine A.getF (q := 13) (w := 18) (i := 0) (j := 3) d6_10 rfl rfl rfl rfl ?_
  intro T A
  refine A.iloadN (q := 14) d6_13 rfl rfl ?_
  refine A.baloadZ (q := 15) (i := 4) (v := (.int (1 : Int32))) d6_14 rfl rfl (by decide) rfl ?_
  refine A.ifT (r := 42) d6_15 (by decide) (by decide) ?_
  refine A.aloadN (q := 43) d6_42 rfl rfl rfl ?_
  refine A.getF (q := 46) (w := 11) (i := 0) (j := 0) d6_43 rfl rfl rfl rfl ?_
  intro T A
  refine A.iloadN (q := 47) d6_46 rfl rfl ?_
  refine A.baloadZ (q := 48) (i := 1) (v := (.int p5)) d6_47 rfl rfl (by decide) rfl ?_
  exact A.retZ (v := p5) d6_48 z_p5 (by decide) (by decide) ⟨rfl, rfl⟩
set_option maxRecDepth 65536 in
set_option maxHeartbeats 8000000 in
theorem rm9_2 (l : Launch) (Z : State) (a0 : Array Value) (hw : ∀ d ∈ tables_1, d.before a0 Z = true) (n0 : Nat) (r0 : Addr) (r1 : Addr) (r2 : Addr) (r3 : Addr) (r4 : Addr) (p5 : Int32) (RR : Obs) (z_p5 : nar .boolean p5 = p5) :
    Triple l Z n0 (⟨"com/example/proof_of_scan/proofofscan/Choices", "forgetTaken", "()V"⟩ : MethodName) prog_2_method_10_code 2 none ({ frames := 0, cells := 0, slots := 0, locals := 0 } : Room) 0 0 [(.ref r0)] ((r0, ob0 (.ref r1) (.ref r2) (.ref r3) (.ref r4) (.int (1 : Int32))) :: (r1, .inr (.boolean, [(.int p5), (.int (1 : Int32)), (.int (0 : Int32))])) :: (r2, .inr (.int, [(.int (1 : Int32)), (.int (0 : Int32)), (.int (0 : Int32))])) :: (r3, .inr (.boolean, [(.int (0 : Int32)), (.int (1 : Int32)), (.int (0 : Int32))])) :: (r4, .inr (.boolean, [(.int (1 : Int32)), (.int (0 : Int32)), (.int (0 : Int32))])) :: RR) (fun v L' => v = none ∧ L' = ((r0, ob0 (.ref r1) (.ref r2) (.ref r3) (.ref r4) (.int (0 : Int32))) :: (r1, .inr (.boolean, [(.int p5), (.int (1 : Int32)), (.int (0 : Int32))])) :: (r2, .inr (.int, [(.int (1 : Int32)), (.int (0 : Int32)), (.int (0 : Int32))])) :: (r3, .inr (.boolean, [(.int (0 : Int32)), (.int (0 : Int32)), (.int (0 : Int32))])) :: (r4, .inr (.boolean, [(.int (1 : Int32)), (.int (0 : Int32)), (.int (0 : Int32))])) :: RR)) := by
  refine Triple.of_body (tbl := tables_1) (a0 := a0) (Ls := #[.val (.ref r0), .unset]) pn_9 hw rfl ?_
  intro p e s m below meth c T A
  refine A.iconst (q := 1) (v := (0 : Int32)) d9_0 rfl (by decide) ?_
  refine A.istoreN (q := 2) (l' := #[.val (.ref r0), .val (.int (0 : Int32))]) d9_1 rfl rfl ?_
  refine A.iloadN (q := 3) d9_2 rfl rfl ?_
  refine A.aloadN (q := 4) d9_3 rfl rfl rfl ?_
  refine A.getF (q := 7) (w := 53) (i := 0) (j := 4) d9_4 rfl rfl rfl rfl ?_
  intro T A
  refine A.icmpF (q := 10) d9_7 rfl (by decide) ?_
  refine A.aloadN (q := 11) d9_10 rfl rfl rfl ?_
  refine A.getF (q := 14) (w := 16) (i := 0) (j := 2) d9_11 rfl rfl rfl rfl ?_
  intro T A
  refine A.aloadN (q := 15) d9_14 rfl rfl rfl ?_
  refine A.getF (q := 18) (w := 14) (i := 0) (j := 1) d9_15 rfl rfl rfl rfl ?_
  intro T A
  refine A.iloadN (q := 19) d9_18 rfl rfl ?_
  refine A.iaload (q := 20) (i := 2) (v := (.int (1 : Int32))) d9_19 rfl rfl (by decide) rfl ?_
  refine A.iconst (q := 21) (v := (0 : Int32)) d9_20 rfl (by decide) ?_
  refine A.bastoreZ (q := 22) (i := 3) (x' := (0 : Int32)) (L' := ((r0, ob0 (.ref r1) (.ref r2) (.ref r3) (.ref r4) (.int (1 : Int32))) :: (r1, .inr (.boolean, [(.int p5), (.int (1 : Int32)), (.int (0 : Int32))])) :: (r2, .inr (.int, [(.int (1 : Int32)), (.int (0 : Int32)), (.int (0 : Int32))])) :: (r3, .inr (.boolean, [(.int (0 : Int32)), (.int (0 : Int32)), (.int (0 : Int32))])) :: (r4, .inr (.boolean, [(.int (1 : Int32)), (.int (0 : Int32)), (.int (0 : Int32))])) :: RR)) d9_21 rfl rfl (by decide) (by show Int32.toNatClampNeg (1 : Int32) < 3; decide) (by decide) rfl ?_
  intro T A
  refine A.iinc (q := 25) (v := (1 : Int32)) (l' := #[.val (.ref r0), .val (.int (1 : Int32))]) d9_22 rfl rfl (by decide) rfl ?_
  refine A.goto (r := 2) d9_25 (by decide) ?_
  refine A.iloadN (q := 3) d9_2 rfl rfl ?_
  refine A.aloadN (q := 4) d9_3 rfl rfl rfl ?_
  refine A.getF (q := 7) (w := 53) (i := 0) (j := 4) d9_4 rfl rfl rfl rfl ?_
  intro T A
  refine A.icmpT (r := 28) d9_7 (by decide) (by decide) ?_
  refine A.aloadN (q := 29) d9_28 rfl rfl rfl ?_
  refine A.iconst (q := 30) (v := (0 : Int32)) d9_29 rfl (by decide) ?_
  refine A.putF (q := 33) (w := 53) (w2 := 54) (w3 := 2) (i := 0) (j := 4) (ty := .int) (v' := (.int (0 : Int32))) (L' := ((r0, ob0 (.ref r1) (.ref r2) (.ref r3) (.ref r4) (.int (0 : Int32))) :: (r1, .inr (.boolean, [(.int p5), (.int (1 : Int32)), (.int (0 : Int32))])) :: (r2, .inr (.int, [(.int (1 : Int32)), (.int (0 : Int32)), (.int (0 : Int32))])) :: (r3, .inr (.boolean, [(.int (0 : Int32)), (.int (0 : Int32)), (.int (0 : Int32))])) :: (r4, .inr (.boolean, [(.int (1 : Int32)), (.int (0 : Int32)), (.int (0 : Int32))])) :: RR)) d9_30 rfl rfl rfl rfl (lay_0 Z a0 hw) (Or.inl rfl) rfl (by decide) rfl rfl rfl ?_
  intro T A
  exact A.retV d9_33 (by decide) (by decide) ⟨rfl, rfl⟩
set_option maxRecDepth 65536 in
set_option maxHeartbeats 8000000 in
theorem rm7_2 (l : Launch) (Z : State) (a0 : Array Value) (hw : ∀ d ∈ tables_1, d.before a0 Z = true) (n0 : Nat) (r0 : Addr) (r1 : Addr) (r2 : Addr) (r3 : Addr) (r4 : Addr) (p5 : Int32) (RR : Obs) (z_p5 : nar .boolean p5 = p5) :
    Triple l Z n0 (⟨"com/example/proof_of_scan/proofofscan/Choices", "next", "()Z"⟩ : MethodName) prog_2_method_9_code 3 (some .boolean) ({ frames := 1, cells := 0, slots := 0, locals := 13 } : Room) 0 0 [(.ref r0)] ((r0, ob0 (.ref r1) (.ref r2) (.ref r3) (.ref r4) (.int (1 : Int32))) :: (r1, .inr (.boolean, [(.int p5), (.int (0 : Int32)), (.int (0 : Int32))])) :: (r2, .inr (.int, [(.int (1 : Int32)), (.int (0 : Int32)), (.int (0 : Int32))])) :: (r3, .inr (.boolean, [(.int (0 : Int32)), (.int (1 : Int32)), (.int (0 : Int32))])) :: (r4, .inr (.boolean, [(.int (1 : Int32)), (.int (0 : Int32)), (.int (0 : Int32))])) :: RR) (fun v L' => v = some (.int (1 : Int32)) ∧ L' = ((r0, ob0 (.ref r1) (.ref r2) (.ref r3) (.ref r4) (.int (0 : Int32))) :: (r1, .inr (.boolean, [(.int p5), (.int (1 : Int32)), (.int (0 : Int32))])) :: (r2, .inr (.int, [(.int (1 : Int32)), (.int (0 : Int32)), (.int (0 : Int32))])) :: (r3, .inr (.boolean, [(.int (0 : Int32)), (.int (0 : Int32)), (.int (0 : Int32))])) :: (r4, .inr (.boolean, [(.int (1 : Int32)), (.int (0 : Int32)), (.int (0 : Int32))])) :: RR)) := by
  refine Triple.of_body (tbl := tables_1) (a0 := a0) (Ls := #[.val (.ref r0), .unset, .unset]) pn_7 hw rfl ?_
  intro p e s m below meth c T A
  refine A.aloadN (q := 1) d7_0 rfl rfl rfl ?_
  refine A.getF (q := 4) (w := 53) (i := 0) (j := 4) d7_1 rfl rfl rfl rfl ?_
  intro T A
  refine A.iconst (q := 5) (v := (1 : Int32)) d7_4 rfl (by decide) ?_
  refine A.isub (q := 6) (v := (0 : Int32)) d7_5 rfl (by decide) ?_
  refine A.istoreN (q := 7) (l' := #[.val (.ref r0), .val (.int (0 : Int32)), .unset]) d7_6 rfl rfl ?_
  refine A.iloadN (q := 8) d7_7 rfl rfl ?_
  refine A.ifF (q := 11) d7_8 rfl (by decide) ?_
  refine A.aloadN (q := 12) d7_11 rfl rfl rfl ?_
  refine A.getF (q := 15) (w := 11) (i := 0) (j := 0) d7_12 rfl rfl rfl rfl ?_
  intro T A
  refine A.aloadN (q := 16) d7_15 rfl rfl rfl ?_
  refine A.getF (q := 19) (w := 14) (i := 0) (j := 1) d7_16 rfl rfl rfl rfl ?_
  intro T A
  refine A.iloadN (q := 20) d7_19 rfl rfl ?_
  refine A.iaload (q := 21) (i := 2) (v := (.int (1 : Int32))) d7_20 rfl rfl (by decide) rfl ?_
  refine A.baloadZ (q := 22) (i := 1) (v := (.int (0 : Int32))) d7_21 rfl rfl (by decide) rfl ?_
  refine A.ifT (r := 31) d7_22 (by decide) (by decide) ?_
  refine A.iloadN (q := 32) d7_31 rfl rfl ?_
  refine A.ifT (r := 37) d7_32 (by decide) (by decide) ?_
  refine A.aloadN (q := 38) d7_37 rfl rfl rfl ?_
  refine A.getF (q := 41) (w := 11) (i := 0) (j := 0) d7_38 rfl rfl rfl rfl ?_
  intro T A
  refine A.aloadN (q := 42) d7_41 rfl rfl rfl ?_
  refine A.getF (q := 45) (w := 14) (i := 0) (j := 1) d7_42 rfl rfl rfl rfl ?_
  intro T A
  refine A.iloadN (q := 46) d7_45 rfl rfl ?_
  refine A.iaload (q := 47) (i := 2) (v := (.int (1 : Int32))) d7_46 rfl rfl (by decide) rfl ?_
  refine A.iconst (q := 48) (v := (1 : Int32)) d7_47 rfl (by decide) ?_
  refine A.bastoreZ (q := 49) (i := 1) (x' := (1 : Int32)) (L' := ((r0, ob0 (.ref r1) (.ref r2) (.ref r3) (.ref r4) (.int (1 : Int32))) :: (r1, .inr (.boolean, [(.int p5), (.int (1 : Int32)), (.int (0 : Int32))])) :: (r2, .inr (.int, [(.int (1 : Int32)), (.int (0 : Int32)), (.int (0 : Int32))])) :: (r3, .inr (.boolean, [(.int (0 : Int32)), (.int (1 : Int32)), (.int (0 : Int32))])) :: (r4, .inr (.boolean, [(.int (1 : Int32)), (.int (0 : Int32)), (.int (0 : Int32))])) :: RR)) d7_48 rfl rfl (by decide) (by show Int32.toNatClampNeg (1 : Int32) < 3; decide) (by decide) rfl ?_
  intro T A
  refine A.iloadN (q := 50) d7_49 rfl rfl ?_
  refine A.iconst (q := 51) (v := (1 : Int32)) d7_50 rfl (by decide) ?_
  refine A.iadd (q := 52) (v := (1 : Int32)) d7_51 rfl (by decide) ?_
  refine A.istoreN (q := 53) (l' := #[.val (.ref r0), .val (.int (0 : Int32)), .val (.int (1 : Int32))]) d7_52 rfl rfl ?_
  refine A.iloadN (q := 54) d7_53 rfl rfl ?_
  refine A.aloadN (q := 55) d7_54 rfl rfl rfl ?_
  refine A.getF (q := 58) (w := 53) (i := 0) (j := 4) d7_55 rfl rfl rfl rfl ?_
  intro T A
  refine A.icmpT (r := 79) d7_58 (by decide) (by decide) ?_
  refine A.aloadN (q := 80) d7_79 rfl rfl rfl ?_
  refine A.callP (q := 83) (i := 0) (w1 := 60) (w2 := 62) (w3 := 3) (w4 := 63) (w5 := 2) (w6 := 61) (a := r0) (as := []) (st := []) (W := 0) d7_80 rfl rfl rfl rfl rfl rfl rfl rfl (rm9_2 l Z a0 hw n0 r0 r1 r2 r3 r4 p5 _ z_p5) (by decide) ⟨_, _, pd_6, rfl⟩ rfl rfl rfl (by decide) (by decide) (by decide) (by decide) ?_
  rintro _ T _ ⟨rfl, rfl⟩ A
  show Go p e below _ (T.setTop (mkF m 83 #[.val (.ref r0), .val (.int (0 : Int32)), .val (.int (1 : Int32))] []))
  refine A.iconst (q := 84) (v := (1 : Int32)) d7_83 rfl (by decide) ?_
  exact A.retZ (v := (1 : Int32)) d7_84 (by decide) (by decide) (by decide) ⟨rfl, rfl⟩
set_option maxRecDepth 65536 in
set_option maxHeartbeats 8000000 in
theorem rm4_2 (l : Launch) (Z : State) (a0 : Array Value) (hw : ∀ d ∈ tables_1, d.before a0 Z = true) (n0 : Nat) (r0 : Addr) (r1 : Addr) (r2 : Addr) (r3 : Addr) (r4 : Addr) (p5 : Int32) (RR : Obs) (z_p5 : nar .boolean p5 = p5) :
    Triple l Z n0 (⟨"com/example/proof_of_scan/proofofscan/Choices", "values", "()[Z"⟩ : MethodName) prog_2_method_7_code 1 (some (.array .boolean)) ({ frames := 1, cells := 1, slots := 3, locals := 14 } : Room) 1 3 [(.ref r0)] ((r0, ob0 (.ref r1) (.ref r2) (.ref r3) (.ref r4) (.int (0 : Int32))) :: (r1, .inr (.boolean, [(.int p5), (.int (1 : Int32)), (.int (0 : Int32))])) :: (r2, .inr (.int, [(.int (1 : Int32)), (.int (0 : Int32)), (.int (0 : Int32))])) :: (r3, .inr (.boolean, [(.int (0 : Int32)), (.int (0 : Int32)), (.int (0 : Int32))])) :: (r4, .inr (.boolean, [(.int (1 : Int32)), (.int (0 : Int32)), (.int (0 : Int32))])) :: RR) (fun v L' => ∃ b1 : Addr, v = some (.ref b1) ∧ L' = ((b1, .inr (.boolean, [(.int p5), (.int (1 : Int32)), (.int (0 : Int32))])) :: (r0, ob0 (.ref r1) (.ref r2) (.ref r3) (.ref r4) (.int (0 : Int32))) :: (r1, .inr (.boolean, [(.int p5), (.int (1 : Int32)), (.int (0 : Int32))])) :: (r2, .inr (.int, [(.int (1 : Int32)), (.int (0 : Int32)), (.int (0 : Int32))])) :: (r3, .inr (.boolean, [(.int (0 : Int32)), (.int (0 : Int32)), (.int (0 : Int32))])) :: (r4, .inr (.boolean, [(.int (1 : Int32)), (.int (0 : Int32)), (.int (0 : Int32))])) :: RR)) := by
  refine Triple.of_body (tbl := tables_1) (a0 := a0) (Ls := #[.val (.ref r0)]) pn_4 hw rfl ?_
  intro p e s m below meth c T A
  refine A.aloadN (q := 1) d4_0 rfl rfl rfl ?_
  refine A.getF (q := 4) (w := 11) (i := 0) (j := 0) d4_1 rfl rfl rfl rfl ?_
  intro T A
  refine A.clone (q := 7) (i := 1) (w1 := 30) (w2 := 31) (w3 := 35) (w4 := 33) (w5 := 34) (w6 := 36) (W := 0) (cap := 3) (ad := "[Z") d4_4 rfl rfl (by decide) rfl rfl rfl rfl rfl rfl rfl rfl (by decide) (by decide) (Nat.le_refl _) (by decide) (by decide) ?_
  intro T b1 A
  refine A.castArr (q := 10) (w := 37) (i := 0) d4_7 rfl rfl rfl (by decide) ?_
  intro T A
  exact A.retA d4_10 rfl rfl rfl (by decide) (by decide) ⟨b1, rfl, rfl⟩
set_option maxRecDepth 65536 in
set_option maxHeartbeats 8000000 in
theorem rm5_2 (l : Launch) (Z : State) (a0 : Array Value) (hw : ∀ d ∈ tables_1, d.before a0 Z = true) (n0 : Nat) (r0 : Addr) (p1 : Int32) (RR : Obs) (z_p1 : nar .boolean p1 = p1) :
    Triple l Z n0 (⟨"com/example/proof_of_scan/proofofscan/ChoicesHoldPinLaw", "same", "([ZIZI)Z"⟩ : MethodName) method_2_code 7 (some .boolean) ({ frames := 0, cells := 0, slots := 0, locals := 0 } : Room) 0 0 [(.ref r0), (.int (0 : Int32)), (.int p1), (.int (1 : Int32))] ((r0, .inr (.boolean, [(.int p1), (.int (1 : Int32)), (.int (0 : Int32))])) :: RR) (fun v L' => v = some (.int (1 : Int32)) ∧ L' = ((r0, .inr (.boolean, [(.int p1), (.int (1 : Int32)), (.int (0 : Int32))])) :: RR)) := by
  refine Triple.of_body (tbl := tables_1) (a0 := a0) (Ls := #[.val (.ref r0), .val (.int (0 : Int32)), .val (.int p1), .val (.int (1 : Int32)), .unset, .unset, .unset]) pn_5 hw rfl ?_
  intro p e s m below meth c T A
  refine A.aloadN (q := 1) d5_0 rfl rfl rfl ?_
  refine A.arraylength (q := 2) (i := 0) (v := (3 : Int32)) d5_1 rfl rfl (by show Nat.toInt32 3 = 3; decide) ?_
  refine A.iconst (q := 3) (v := (3 : Int32)) d5_2 rfl (by decide) ?_
  refine A.icmpT (r := 8) d5_3 (by decide) (by decide) ?_
  refine A.iconst (q := 9) (v := (0 : Int32)) d5_8 rfl (by decide) ?_
  refine A.iloadN (q := 10) d5_9 rfl rfl ?_
  refine A.icmpF (q := 13) d5_10 rfl (by decide) ?_
  refine A.iloadN (q := 14) d5_13 rfl rfl ?_
  refine A.goto (r := 27) d5_14 (by decide) ?_
  refine A.istore (q := 29) (l' := #[.val (.ref r0), .val (.int (0 : Int32)), .val (.int p1), .val (.int (1 : Int32)), .val (.int p1), .unset, .unset]) d5_27 rfl rfl ?_
  refine A.iconst (q := 30) (v := (1 : Int32)) d5_29 rfl (by decide) ?_
  refine A.iloadN (q := 31) d5_30 rfl rfl ?_
  refine A.icmpT (r := 38) d5_31 (by decide) (by decide) ?_
  refine A.iconst (q := 39) (v := (1 : Int32)) d5_38 rfl (by decide) ?_
  refine A.iloadN (q := 40) d5_39 rfl rfl ?_
  refine A.icmpF (q := 43) d5_40 rfl (by decide) ?_
  refine A.iconst (q := 44) (v := (1 : Int32)) d5_43 rfl (by decide) ?_
  refine A.goto (r := 48) d5_44 (by decide) ?_
  refine A.istore (q := 50) (l' := #[.val (.ref r0), .val (.int (0 : Int32)), .val (.int p1), .val (.int (1 : Int32)), .val (.int p1), .val (.int (1 : Int32)), .unset]) d5_48 rfl rfl ?_
  refine A.iconst (q := 51) (v := (2 : Int32)) d5_50 rfl (by decide) ?_
  refine A.iloadN (q := 52) d5_51 rfl rfl ?_
  refine A.icmpT (r := 59) d5_52 (by decide) (by decide) ?_
  refine A.iconst (q := 60) (v := (2 : Int32)) d5_59 rfl (by decide) ?_
  refine A.iloadN (q := 61) d5_60 rfl rfl ?_
  refine A.icmpT (r := 68) d5_61 (by decide) (by decide) ?_
  refine A.iconst (q := 69) (v := (0 : Int32)) d5_68 rfl (by decide) ?_
  refine A.istore (q := 71) (l' := #[.val (.ref r0), .val (.int (0 : Int32)), .val (.int p1), .val (.int (1 : Int32)), .val (.int p1), .val (.int (1 : Int32)), .val (.int (0 : Int32))]) d5_69 rfl rfl ?_
  refine A.aloadN (q := 72) d5_71 rfl rfl rfl ?_
  refine A.iconst (q := 73) (v := (0 : Int32)) d5_72 rfl (by decide) ?_
  refine A.baloadZ (q := 74) (i := 0) (v := (.int p1)) d5_73 rfl rfl (by decide) rfl ?_
  refine A.iload (q := 76) d5_74 rfl rfl ?_
  refine A.icmpF (q := 79) d5_76 rfl (teq rfl).2 ?_
  refine A.aloadN (q := 80) d5_79 rfl rfl rfl ?_
  refine A.iconst (q := 81) (v := (1 : Int32)) d5_80 rfl (by decide) ?_
  refine A.baloadZ (q := 82) (i := 0) (v := (.int (1 : Int32))) d5_81 rfl rfl (by decide) rfl ?_
  refine A.iload (q := 84) d5_82 rfl rfl ?_
  refine A.icmpF (q := 87) d5_84 rfl (by decide) ?_
  refine A.aloadN (q := 88) d5_87 rfl rfl rfl ?_
  refine A.iconst (q := 89) (v := (2 : Int32)) d5_88 rfl (by decide) ?_
  refine A.baloadZ (q := 90) (i := 0) (v := (.int (0 : Int32))) d5_89 rfl rfl (by decide) rfl ?_
  refine A.iload (q := 92) d5_90 rfl rfl ?_
  refine A.icmpF (q := 95) d5_92 rfl (by decide) ?_
  refine A.iconst (q := 96) (v := (1 : Int32)) d5_95 rfl (by decide) ?_
  refine A.goto (r := 100) d5_96 (by decide) ?_
  exact A.retZ (v := (1 : Int32)) d5_100 (by decide) (by decide) (by decide) ⟨rfl, rfl⟩
set_option maxRecDepth 65536 in
set_option maxHeartbeats 8000000 in
theorem rm9_3 (l : Launch) (Z : State) (a0 : Array Value) (hw : ∀ d ∈ tables_1, d.before a0 Z = true) (n0 : Nat) (r0 : Addr) (r1 : Addr) (r2 : Addr) (r3 : Addr) (r4 : Addr) (p5 : Int32) (RR : Obs) (z_p5 : nar .boolean p5 = p5) :
    Triple l Z n0 (⟨"com/example/proof_of_scan/proofofscan/Choices", "forgetTaken", "()V"⟩ : MethodName) prog_2_method_10_code 2 none ({ frames := 0, cells := 0, slots := 0, locals := 0 } : Room) 0 0 [(.ref r0)] ((r0, ob0 (.ref r1) (.ref r2) (.ref r3) (.ref r4) (.int (0 : Int32))) :: (r1, .inr (.boolean, [(.int p5), (.int (0 : Int32)), (.int (0 : Int32))])) :: (r2, .inr (.int, [(.int (1 : Int32)), (.int (0 : Int32)), (.int (0 : Int32))])) :: (r3, .inr (.boolean, [(.int (0 : Int32)), (.int (0 : Int32)), (.int (0 : Int32))])) :: (r4, .inr (.boolean, [(.int (1 : Int32)), (.int (0 : Int32)), (.int (0 : Int32))])) :: RR) (fun v L' => v = none ∧ L' = ((r0, ob0 (.ref r1) (.ref r2) (.ref r3) (.ref r4) (.int (0 : Int32))) :: (r1, .inr (.boolean, [(.int p5), (.int (0 : Int32)), (.int (0 : Int32))])) :: (r2, .inr (.int, [(.int (1 : Int32)), (.int (0 : Int32)), (.int (0 : Int32))])) :: (r3, .inr (.boolean, [(.int (0 : Int32)), (.int (0 : Int32)), (.int (0 : Int32))])) :: (r4, .inr (.boolean, [(.int (1 : Int32)), (.int (0 : Int32)), (.int (0 : Int32))])) :: RR)) := by
  refine Triple.of_body (tbl := tables_1) (a0 := a0) (Ls := #[.val (.ref r0), .unset]) pn_9 hw rfl ?_
  intro p e s m below meth c T A
  refine A.iconst (q := 1) (v := (0 : Int32)) d9_0 rfl (by decide) ?_
  refine A.istoreN (q := 2) (l' := #[.val (.ref r0), .val (.int (0 : Int32))]) d9_1 rfl rfl ?_
  refine A.iloadN (q := 3) d9_2 rfl rfl ?_
  refine A.aloadN (q := 4) d9_3 rfl rfl rfl ?_
  refine A.getF (q := 7) (w := 53) (i := 0) (j := 4) d9_4 rfl rfl rfl rfl ?_
  intro T A
  refine A.icmpT (r := 28) d9_7 (by decide) (by decide) ?_
  refine A.aloadN (q := 29) d9_28 rfl rfl rfl ?_
  refine A.iconst (q := 30) (v := (0 : Int32)) d9_29 rfl (by decide) ?_
  refine A.putF (q := 33) (w := 53) (w2 := 54) (w3 := 2) (i := 0) (j := 4) (ty := .int) (v' := (.int (0 : Int32))) (L' := ((r0, ob0 (.ref r1) (.ref r2) (.ref r3) (.ref r4) (.int (0 : Int32))) :: (r1, .inr (.boolean, [(.int p5), (.int (0 : Int32)), (.int (0 : Int32))])) :: (r2, .inr (.int, [(.int (1 : Int32)), (.int (0 : Int32)), (.int (0 : Int32))])) :: (r3, .inr (.boolean, [(.int (0 : Int32)), (.int (0 : Int32)), (.int (0 : Int32))])) :: (r4, .inr (.boolean, [(.int (1 : Int32)), (.int (0 : Int32)), (.int (0 : Int32))])) :: RR)) d9_30 rfl rfl rfl rfl (lay_0 Z a0 hw) (Or.inl rfl) rfl (by decide) rfl rfl rfl ?_
  intro T A
  exact A.retV d9_33 (by decide) (by decide) ⟨rfl, rfl⟩
set_option maxRecDepth 65536 in
set_option maxHeartbeats 8000000 in
theorem rm8_2 (l : Launch) (Z : State) (a0 : Array Value) (hw : ∀ d ∈ tables_1, d.before a0 Z = true) (n0 : Nat) (r0 : Addr) (r1 : Addr) (r2 : Addr) (r3 : Addr) (r4 : Addr) (p5 : Int32) (RR : Obs) (z_p5 : nar .boolean p5 = p5) :
    Triple l Z n0 (⟨"com/example/proof_of_scan/proofofscan/Choices", "reset", "()V"⟩ : MethodName) prog_2_method_8_code 2 none ({ frames := 1, cells := 0, slots := 0, locals := 13 } : Room) 0 0 [(.ref r0)] ((r0, ob0 (.ref r1) (.ref r2) (.ref r3) (.ref r4) (.int (0 : Int32))) :: (r1, .inr (.boolean, [(.int p5), (.int (1 : Int32)), (.int (0 : Int32))])) :: (r2, .inr (.int, [(.int (1 : Int32)), (.int (0 : Int32)), (.int (0 : Int32))])) :: (r3, .inr (.boolean, [(.int (0 : Int32)), (.int (0 : Int32)), (.int (0 : Int32))])) :: (r4, .inr (.boolean, [(.int (1 : Int32)), (.int (0 : Int32)), (.int (0 : Int32))])) :: RR) (fun v L' => v = none ∧ L' = ((r0, ob0 (.ref r1) (.ref r2) (.ref r3) (.ref r4) (.int (0 : Int32))) :: (r1, .inr (.boolean, [(.int p5), (.int (0 : Int32)), (.int (0 : Int32))])) :: (r2, .inr (.int, [(.int (1 : Int32)), (.int (0 : Int32)), (.int (0 : Int32))])) :: (r3, .inr (.boolean, [(.int (0 : Int32)), (.int (0 : Int32)), (.int (0 : Int32))])) :: (r4, .inr (.boolean, [(.int (1 : Int32)), (.int (0 : Int32)), (.int (0 : Int32))])) :: RR)) := by
  refine Triple.of_body (tbl := tables_1) (a0 := a0) (Ls := #[.val (.ref r0), .unset]) pn_8 hw rfl ?_
  intro p e s m below meth c T A
  refine A.iconst (q := 1) (v := (0 : Int32)) d8_0 rfl (by decide) ?_
  refine A.istoreN (q := 2) (l' := #[.val (.ref r0), .val (.int (0 : Int32))]) d8_1 rfl rfl ?_
  refine A.iloadN (q := 3) d8_2 rfl rfl ?_
  refine A.aloadN (q := 4) d8_3 rfl rfl rfl ?_
  refine A.getF (q := 7) (w := 11) (i := 0) (j := 0) d8_4 rfl rfl rfl rfl ?_
  intro T A
  refine A.arraylength (q := 8) (i := 1) (v := (3 : Int32)) d8_7 rfl rfl (by show Nat.toInt32 3 = 3; decide) ?_
  refine A.icmpF (q := 11) d8_8 rfl (by decide) ?_
  refine A.aloadN (q := 12) d8_11 rfl rfl rfl ?_
  refine A.getF (q := 15) (w := 11) (i := 0) (j := 0) d8_12 rfl rfl rfl rfl ?_
  intro T A
  refine A.iloadN (q := 16) d8_15 rfl rfl ?_
  refine A.dup2 (q := 17) d8_16 rfl rfl rfl ?_
  refine A.baloadZ (q := 18) (i := 1) (v := (.int p5)) d8_17 rfl rfl (by decide) rfl ?_
  refine A.aloadN (q := 19) d8_18 rfl rfl rfl ?_
  refine A.getF (q := 22) (w := 18) (i := 0) (j := 3) d8_19 rfl rfl rfl rfl ?_
  intro T A
  refine A.iloadN (q := 23) d8_22 rfl rfl ?_
  refine A.baloadZ (q := 24) (i := 4) (v := (.int (1 : Int32))) d8_23 rfl rfl (by decide) rfl ?_
  refine A.iand (q := 25) (v := p5) d8_24 rfl z_p5 ?_
  refine A.bastoreZ (q := 26) (i := 1) (x' := p5) (L' := ((r0, ob0 (.ref r1) (.ref r2) (.ref r3) (.ref r4) (.int (0 : Int32))) :: (r1, .inr (.boolean, [(.int p5), (.int (1 : Int32)), (.int (0 : Int32))])) :: (r2, .inr (.int, [(.int (1 : Int32)), (.int (0 : Int32)), (.int (0 : Int32))])) :: (r3, .inr (.boolean, [(.int (0 : Int32)), (.int (0 : Int32)), (.int (0 : Int32))])) :: (r4, .inr (.boolean, [(.int (1 : Int32)), (.int (0 : Int32)), (.int (0 : Int32))])) :: RR)) d8_25 rfl rfl (by decide) (by show Int32.toNatClampNeg (0 : Int32) < 3; decide) z_p5 rfl ?_
  intro T A
  refine A.iinc (q := 29) (v := (1 : Int32)) (l' := #[.val (.ref r0), .val (.int (1 : Int32))]) d8_26 rfl rfl (by decide) rfl ?_
  refine A.goto (r := 2) d8_29 (by decide) ?_
  refine A.iloadN (q := 3) d8_2 rfl rfl ?_
  refine A.aloadN (q := 4) d8_3 rfl rfl rfl ?_
  refine A.getF (q := 7) (w := 11) (i := 0) (j := 0) d8_4 rfl rfl rfl rfl ?_
  intro T A
  refine A.arraylength (q := 8) (i := 1) (v := (3 : Int32)) d8_7 rfl rfl (by show Nat.toInt32 3 = 3; decide) ?_
  refine A.icmpF (q := 11) d8_8 rfl (by decide) ?_
  refine A.aloadN (q := 12) d8_11 rfl rfl rfl ?_
  refine A.getF (q := 15) (w := 11) (i := 0) (j := 0) d8_12 rfl rfl rfl rfl ?_
  intro T A
  refine A.iloadN (q := 16) d8_15 rfl rfl ?_
  refine A.dup2 (q := 17) d8_16 rfl rfl rfl ?_
  refine A.baloadZ (q := 18) (i := 1) (v := (.int (1 : Int32))) d8_17 rfl rfl (by decide) rfl ?_
  refine A.aloadN (q := 19) d8_18 rfl rfl rfl ?_
  refine A.getF (q := 22) (w := 18) (i := 0) (j := 3) d8_19 rfl rfl rfl rfl ?_
  intro T A
  refine A.iloadN (q := 23) d8_22 rfl rfl ?_
  refine A.baloadZ (q := 24) (i := 4) (v := (.int (0 : Int32))) d8_23 rfl rfl (by decide) rfl ?_
  refine A.iand (q := 25) (v := (0 : Int32)) d8_24 rfl (by decide) ?_
  refine A.bastoreZ (q := 26) (i := 1) (x' := (0 : Int32)) (L' := ((r0, ob0 (.ref r1) (.ref r2) (.ref r3) (.ref r4) (.int (0 : Int32))) :: (r1, .inr (.boolean, [(.int p5), (.int (0 : Int32)), (.int (0 : Int32))])) :: (r2, .inr (.int, [(.int (1 : Int32)), (.int (0 : Int32)), (.int (0 : Int32))])) :: (r3, .inr (.boolean, [(.int (0 : Int32)), (.int (0 : Int32)), (.int (0 : Int32))])) :: (r4, .inr (.boolean, [(.int (1 : Int32)), (.int (0 : Int32)), (.int (0 : Int32))])) :: RR)) d8_25 rfl rfl (by decide) (by show Int32.toNatClampNeg (1 : Int32) < 3; decide) (by decide) rfl ?_
  intro T A
  refine A.iinc (q := 29) (v := (2 : Int32)) (l' := #[.val (.ref r0), .val (.int (2 : Int32))]) d8_26 rfl rfl (by decide) rfl ?_
  refine A.goto (r := 2) d8_29 (by decide) ?_
  refine A.iloadN (q := 3) d8_2 rfl rfl ?_
  refine A.aloadN (q := 4) d8_3 rfl rfl rfl ?_
  refine A.getF (q := 7) (w := 11) (i := 0) (j := 0) d8_4 rfl rfl rfl rfl ?_
  intro T A
  refine A.arraylength (q := 8) (i := 1) (v := (3 : Int32)) d8_7 rfl rfl (by show Nat.toInt32 3 = 3; decide) ?_
  refine A.icmpF (q := 11) d8_8 rfl (by decide) ?_
  refine A.aloadN (q := 12) d8_11 rfl rfl rfl ?_
  refine A.getF (q := 15) (w := 11) (i := 0) (j := 0) d8_12 rfl rfl rfl rfl ?_
  intro T A
  refine A.iloadN (q := 16) d8_15 rfl rfl ?_
  refine A.dup2 (q := 17) d8_16 rfl rfl rfl ?_
  refine A.baloadZ (q := 18) (i := 1) (v := (.int (0 : Int32))) d8_17 rfl rfl (by decide) rfl ?_
  refine A.aloadN (q := 19) d8_18 rfl rfl rfl ?_
  refine A.getF (q := 22) (w := 18) (i := 0) (j := 3) d8_19 rfl rfl rfl rfl ?_
  intro T A
  refine A.iloadN (q := 23) d8_22 rfl rfl ?_
  refine A.baloadZ (q := 24) (i := 4) (v := (.int (0 : Int32))) d8_23 rfl rfl (by decide) rfl ?_
  refine A.iand (q := 25) (v := (0 : Int32)) d8_24 rfl (by decide) ?_
  refine A.bastoreZ (q := 26) (i := 1) (x' := (0 : Int32)) (L' := ((r0, ob0 (.ref r1) (.ref r2) (.ref r3) (.ref r4) (.int (0 : Int32))) :: (r1, .inr (.boolean, [(.int p5), (.int (0 : Int32)), (.int (0 : Int32))])) :: (r2, .inr (.int, [(.int (1 : Int32)), (.int (0 : Int32)), (.int (0 : Int32))])) :: (r3, .inr (.boolean, [(.int (0 : Int32)), (.int (0 : Int32)), (.int (0 : Int32))])) :: (r4, .inr (.boolean, [(.int (1 : Int32)), (.int (0 : Int32)), (.int (0 : Int32))])) :: RR)) d8_25 rfl rfl (by decide) (by show Int32.toNatClampNeg (2 : Int32) < 3; decide) (by decide) rfl ?_
  intro T A
  refine A.iinc (q := 29) (v := (3 : Int32)) (l' := #[.val (.ref r0), .val (.int (3 : Int32))]) d8_26 rfl rfl (by decide) rfl ?_
  refine A.goto (r := 2) d8_29 (by decide) ?_
  refine A.iloadN (q := 3) d8_2 rfl rfl ?_
  refine A.aloadN (q := 4) d8_3 rfl rfl rfl ?_
  refine A.getF (q := 7) (w := 11) (i := 0) (j := 0) d8_4 rfl rfl rfl rfl ?_
  intro T A
  refine A.arraylength (q := 8) (i := 1) (v := (3 : Int32)) d8_7 rfl rfl (by show Nat.toInt32 3 = 3; decide) ?_
  refine A.icmpT (r := 32) d8_8 (by decide) (by decide) ?_
  refine A.aloadN (q := 33) d8_32 rfl rfl rfl ?_
  refine A.callP (q := 36) (i := 0) (w1 := 60) (w2 := 62) (w3 := 3) (w4 := 63) (w5 := 2) (w6 := 61) (a := r0) (as := []) (st := []) (W := 0) d8_33 rfl rfl rfl rfl rfl rfl rfl rfl (rm9_3 l Z a0 hw n0 r0 r1 r2 r3 r4 p5 _ z_p5) (by decide) ⟨_, _, pd_6, rfl⟩ rfl rfl rfl (by decide) (by decide) (by decide) (by decide) ?_
  rintro _ T _ ⟨rfl, rfl⟩ A
  show Go p e below _ (T.setTop (mkF m 36 #[.val (.ref r0), .val (.int (3 : Int32))] []))
  exact A.retV d8_36 (by decide) (by decide) ⟨rfl, rfl⟩
set_option maxRecDepth 65536 in
set_option maxHeartbeats 8000000 in
theorem rm4_3 (l : Launch) (Z : State) (a0 : Array Value) (hw : ∀ d ∈ tables_1, d.before a0 Z = true) (n0 : Nat) (r0 : Addr) (r1 : Addr) (r2 : Addr) (r3 : Addr) (r4 : Addr) (p5 : Int32) (RR : Obs) (z_p5 : nar .boolean p5 = p5) :
    Triple l Z n0 (⟨"com/example/proof_of_scan/proofofscan/Choices", "values", "()[Z"⟩ : MethodName) prog_2_method_7_code 1 (some (.array .boolean)) ({ frames := 1, cells := 1, slots := 3, locals := 14 } : Room) 1 3 [(.ref r0)] ((r0, ob0 (.ref r1) (.ref r2) (.ref r3) (.ref r4) (.int (0 : Int32))) :: (r1, .inr (.boolean, [(.int p5), (.int (0 : Int32)), (.int (0 : Int32))])) :: (r2, .inr (.int, [(.int (1 : Int32)), (.int (0 : Int32)), (.int (0 : Int32))])) :: (r3, .inr (.boolean, [(.int (0 : Int32)), (.int (0 : Int32)), (.int (0 : Int32))])) :: (r4, .inr (.boolean, [(.int (1 : Int32)), (.int (0 : Int32)), (.int (0 : Int32))])) :: RR) (fun v L' => ∃ b1 : Addr, v = some (.ref b1) ∧ L' = ((b1, .inr (.boolean, [(.int p5), (.int (0 : Int32)), (.int (0 : Int32))])) :: (r0, ob0 (.ref r1) (.ref r2) (.ref r3) (.ref r4) (.int (0 : Int32))) :: (r1, .inr (.boolean, [(.int p5), (.int (0 : Int32)), (.int (0 : Int32))])) :: (r2, .inr (.int, [(.int (1 : Int32)), (.int (0 : Int32)), (.int (0 : Int32))])) :: (r3, .inr (.boolean, [(.int (0 : Int32)), (.int (0 : Int32)), (.int (0 : Int32))])) :: (r4, .inr (.boolean, [(.int (1 : Int32)), (.int (0 : Int32)), (.int (0 : Int32))])) :: RR)) := by
  refine Triple.of_body (tbl := tables_1) (a0 := a0) (Ls := #[.val (.ref r0)]) pn_4 hw rfl ?_
  intro p e s m below meth c T A
  refine A.aloadN (q := 1) d4_0 rfl rfl rfl ?_
  refine A.getF (q := 4) (w := 11) (i := 0) (j := 0) d4_1 rfl rfl rfl rfl ?_
  intro T A
  refine A.clone (q := 7) (i := 1) (w1 := 30) (w2 := 31) (w3 := 35) (w4 := 33) (w5 := 34) (w6 := 36) (W := 0) (cap := 3) (ad := "[Z") d4_4 rfl rfl (by decide) rfl rfl rfl rfl rfl rfl rfl rfl (by decide) (by decide) (Nat.le_refl _) (by decide) (by decide) ?_
  intro T b1 A
  refine A.castArr (q := 10) (w := 37) (i := 0) d4_7 rfl rfl rfl (by decide) ?_
  intro T A
  exact A.retA d4_10 rfl rfl rfl (by decide) (by decide) ⟨b1, rfl, rfl⟩
set_option maxRecDepth 65536 in
set_option maxHeartbeats 8000000 in
theorem rm6_4 (l : Launch) (Z : State) (a0 : Array Value) (hw : ∀ d ∈ tables_1, d.before a0 Z = true) (n0 : Nat) (r0 : Addr) (r1 : Addr) (r2 : Addr) (r3 : Addr) (r4 : Addr) (p5 : Int32) (RR : Obs) (z_p5 : nar .boolean p5 = p5) :
    Triple l Z n0 (⟨"com/example/proof_of_scan/proofofscan/Choices", "take", "(I)Z"⟩ : MethodName) prog_2_method_3_code 2 (some .boolean) ({ frames := 0, cells := 0, slots := 0, locals := 0 } : Room) 0 0 [(.ref r0), (.int (2 : Int32))] ((r0, ob0 (.ref r1) (.ref r2) (.ref r3) (.ref r4) (.int (0 : Int32))) :: (r1, .inr (.boolean, [(.int p5), (.int (0 : Int32)), (.int (0 : Int32))])) :: (r2, .inr (.int, [(.int (0 : Int32)), (.int (0 : Int32)), (.int (0 : Int32))])) :: (r3, .inr (.boolean, [(.int (0 : Int32)), (.int (0 : Int32)), (.int (0 : Int32))])) :: (r4, .inr (.boolean, [(.int (1 : Int32)), (.int (0 : Int32)), (.int (0 : Int32))])) :: RR) (fun v L' => v = some (.int (0 : Int32)) ∧ L' = ((r0, ob0 (.ref r1) (.ref r2) (.ref r3) (.ref r4) (.int (1 : Int32))) :: (r1, .inr (.boolean, [(.int p5), (.int (0 : Int32)), (.int (0 : Int32))])) :: (r2, .inr (.int, [(.int (2 : Int32)), (.int (0 : Int32)), (.int (0 : Int32))])) :: (r3, .inr (.boolean, [(.int (0 : Int32)), (.int (0 : Int32)), (.int (1 : Int32))])) :: (r4, .inr (.boolean, [(.int (1 : Int32)), (.int (0 : Int32)), (.int (0 : Int32))])) :: RR)) := by
  refine Triple.of_body (tbl := tables_1) (a0 := a0) (Ls := #[.val (.ref r0), .val (.int (2 : Int32))]) pn_6 hw rfl ?_
  intro p e s m below meth c T A
  refine A.aloadN (q := 1) d6_0 rfl rfl rfl ?_
  refine A.getF (q := 4) (w := 16) (i := 0) (j := 2) d6_1 rfl rfl rfl rfl ?_
  intro T A
  refine A.iloadN (q := 5) d6_4 rfl rfl ?_
  refine A.baloadZ (q := 6) (i := 3) (v := (.int (0 : Int32))) d6_5 rfl rfl (by decide) rfl ?_
  refine A.ifF (q := 9) d6_6 rfl (by decide) ?_
  refine A.aloadN (q := 10) d6_9 rfl rfl rfl ?_
  refine A.getF (q := 13) (w := 18) (i := 0) (j := 3) d6_10 rfl rfl rfl rfl ?_
  intro T A
  refine A.iloadN (q := 14) d6_13 rfl rfl ?_
  refine A.baloadZ (q := 15) (i := 4) (v := (.int (0 : Int32))) d6_14 rfl rfl (by decide) rfl ?_
  refine A.ifF (q := 18) d6_15 rfl (by decide) ?_
  refine A.aloadN (q := 19) d6_18 rfl rfl rfl ?_
  refine A.getF (q := 22) (w := 16) (i := 0) (j := 2) d6_19 rfl rfl rfl rfl ?_
  intro T A
  refine A.iloadN (q := 23) d6_22 rfl rfl ?_
  refine A.iconst (q := 24) (v := (1 : Int32)) d6_23 rfl (by decide) ?_
  refine A.bastoreZ (q := 25) (i := 3) (x' := (1 : Int32)) (L' := ((r0, ob0 (.ref r1) (.ref r2) (.ref r3) (.ref r4) (.int (0 : Int32))) :: (r1, .inr (.boolean, [(.int p5), (.int (0 : Int32)), (.int (0 : Int32))])) :: (r2, .inr (.int, [(.int (0 : Int32)), (.int (0 : Int32)), (.int (0 : Int32))])) :: (r3, .inr (.boolean, [(.int (0 : Int32)), (.int (0 : Int32)), (.int (1 : Int32))])) :: (r4, .inr (.boolean, [(.int (1 : Int32)), (.int (0 : Int32)), (.int (0 : Int32))])) :: RR)) d6_24 rfl rfl (by decide) (by show Int32.toNatClampNeg (2 : Int32) < 3; decide) (by decide) rfl ?_
  intro T A
  refine A.aloadN (q := 26) d6_25 rfl rfl rfl ?_
  refine A.getF (q := 29) (w := 14) (i := 0) (j := 1) d6_26 rfl rfl rfl rfl ?_
  intro T A
  refine A.aloadN (q := 30) d6_29 rfl rfl rfl ?_
  refine A.dup (q := 31) d6_30 rfl rfl ?_
  refine A.getF (q := 34) (w := 53) (i := 0) (j := 4) d6_31 rfl rfl rfl rfl ?_
  intro T A
  refine A.dup_x1 (q := 35) d6_34 rfl rfl rfl ?_
  refine A.iconst (q := 36) (v := (1 : Int32)) d6_35 rfl (by decide) ?_
  refine A.iadd (q := 37) (v := (1 : Int32)) d6_36 rfl (by decide) ?_
  refine A.putF (q := 40) (w := 53) (w2 := 54) (w3 := 2) (i := 0) (j := 4) (ty := .int) (v' := (.int (1 : Int32))) (L' := ((r0, ob0 (.ref r1) (.ref r2) (.ref r3) (.ref r4) (.int (1 : Int32))) :: (r1, .inr (.boolean, [(.int p5), (.int (0 : Int32)), (.int (0 : Int32))])) :: (r2, .inr (.int, [(.int (0 : Int32)), (.int (0 : Int32)), (.int (0 : Int32))])) :: (r3, .inr (.boolean, [(.int (0 : Int32)), (.int (0 : Int32)), (.int (1 : Int32))])) :: (r4, .inr (.boolean, [(.int (1 : Int32)), (.int (0 : Int32)), (.int (0 : Int32))])) :: RR)) d6_37 rfl rfl rfl rfl (lay_0 Z a0 hw) (Or.inl rfl) rfl (by decide) rfl rfl rfl ?_
  intro T A
  refine A.iloadN (q := 41) d6_40 rfl rfl ?_
  refine A.iastore (q := 42) (i := 2) (x' := (2 : Int32)) (L' := ((r0, ob0 (.ref r1) (.ref r2) (.ref r3) (.ref r4) (.int (1 : Int32))) :: (r1, .inr (.boolean, [(.int p5), (.int (0 : Int32)), (.int (0 : Int32))])) :: (r2, .inr (.int, [(.int (2 : Int32)), (.int (0 : Int32)), (.int (0 : Int32))])) :: (r3, .inr (.boolean, [(.int (0 : Int32)), (.int (0 : Int32)), (.int (1 : Int32))])) :: (r4, .inr (.boolean, [(.int (1 : Int32)), (.int (0 : Int32)), (.int (0 : Int32))])) :: RR)) d6_41 rfl rfl (by decide) (by show Int32.toNatClampNeg (0 : Int32) < 3; decide) rfl rfl ?_
  intro T A
  refine A.aloadN (q := 43) d6_42 rfl rfl rfl ?_
  refine A.getF (q := 46) (w := 11) (i := 0) (j := 0) d6_43 rfl rfl rfl rfl ?_
  intro T A
  refine A.iloadN (q := 47) d6_46 rfl rfl ?_
  refine A.baloadZ (q := 48) (i := 1) (v := (.int (0 : Int32))) d6_47 rfl rfl (by decide) rfl ?_
  exact A.retZ (v := (0 : Int32)) d6_48 (by decide) (by decide) (by decide) ⟨rfl, rfl⟩
set_option maxRecDepth 65536 in
set_option maxHeartbeats 8000000 in
theorem rm6_5 (l : Launch) (Z : State) (a0 : Array Value) (hw : ∀ d ∈ tables_1, d.before a0 Z = true) (n0 : Nat) (r0 : Addr) (r1 : Addr) (r2 : Addr) (r3 : Addr) (r4 : Addr) (p5 : Int32) (RR : Obs) (z_p5 : nar .boolean p5 = p5) :
    Triple l Z n0 (⟨"com/example/proof_of_scan/proofofscan/Choices", "take", "(I)Z"⟩ : MethodName) prog_2_method_3_code 2 (some .boolean) ({ frames := 0, cells := 0, slots := 0, locals := 0 } : Room) 0 0 [(.ref r0), (.int (0 : Int32))] ((r0, ob0 (.ref r1) (.ref r2) (.ref r3) (.ref r4) (.int (1 : Int32))) :: (r1, .inr (.boolean, [(.int p5), (.int (0 : Int32)), (.int (0 : Int32))])) :: (r2, .inr (.int, [(.int (2 : Int32)), (.int (0 : Int32)), (.int (0 : Int32))])) :: (r3, .inr (.boolean, [(.int (0 : Int32)), (.int (0 : Int32)), (.int (1 : Int32))])) :: (r4, .inr (.boolean, [(.int (1 : Int32)), (.int (0 : Int32)), (.int (0 : Int32))])) :: RR) (fun v L' => v = some (.int p5) ∧ L' = ((r0, ob0 (.ref r1) (.ref r2) (.ref r3) (.ref r4) (.int (1 : Int32))) :: (r1, .inr (.boolean, [(.int p5), (.int (0 : Int32)), (.int (0 : Int32))])) :: (r2, .inr (.int, [(.int (2 : Int32)), (.int (0 : Int32)), (.int (0 : Int32))])) :: (r3, .inr (.boolean, [(.int (0 : Int32)), (.int (0 : Int32)), (.int (1 : Int32))])) :: (r4, .inr (.boolean, [(.int (1 : Int32)), (.int (0 : Int32)), (.int (0 : Int32))])) :: RR)) := by
  refine Triple.of_body (tbl := tables_1) (a0 := a0) (Ls := #[.val (.ref r0), .val (.int (0 : Int32))]) pn_6 hw rfl ?_
  intro p e s m below meth c T A
  refine A.aloadN (q := 1) d6_0 rfl rfl rfl ?_
  refine A.getF (q := 4) (w := 16) (i := 0) (j := 2) d6_1 rfl rfl rfl rfl ?_
  intro T A
  refine A.iloadN (q := 5) d6_4 rfl rfl ?_
  refine A.baloadZ (q := 6) (i := 3) (v := (.int (0 : Int32))) d6_5 rfl rfl (by decide) rfl ?_
  refine A.ifF (q := 9) d6_6 rfl (by decide) ?_
  refine A.aloadN (q := 10) d6_9 rfl rfl rfl ?_
  refine A.getF (q := 13) (w := 18) (i := 0) (j := 3) d6_10 rfl rfl rfl rfl ?_
  intro T A
  refine A.iloadN (q := 14) d6_13 rfl rfl ?_
  refine A.baloadZ (q := 15) (i := 4) (v := (.int (1 : Int32))) d6_14 rfl rfl (by decide) rfl ?_
  refine A.ifT (r := 42) d6_15 (by decide) (by decide) ?_
  refine A.aloadN (q := 43) d6_42 rfl rfl rfl ?_
  refine A.getF (q := 46) (w := 11) (i := 0) (j := 0) d6_43 rfl rfl rfl rfl ?_
  intro T A
  refine A.iloadN (q := 47) d6_46 rfl rfl ?_
  refine A.baloadZ (q := 48) (i := 1) (v := (.int p5)) d6_47 rfl rfl (by decide) rfl ?_
  exact A.retZ (v := p5) d6_48 z_p5 (by decide) (by decide) ⟨rfl, rfl⟩
set_option maxRecDepth 65536 in
set_option maxHeartbeats 8000000 in
theorem rm9_4 (l : Launch) (Z : State) (a0 : Array Value) (hw : ∀ d ∈ tables_1, d.before a0 Z = true) (n0 : Nat) (r0 : Addr) (r1 : Addr) (r2 : Addr) (r3 : Addr) (r4 : Addr) (p5 : Int32) (RR : Obs) (z_p5 : nar .boolean p5 = p5) :
    Triple l Z n0 (⟨"com/example/proof_of_scan/proofofscan/Choices", "forgetTaken", "()V"⟩ : MethodName) prog_2_method_10_code 2 none ({ frames := 0, cells := 0, slots := 0, locals := 0 } : Room) 0 0 [(.ref r0)] ((r0, ob0 (.ref r1) (.ref r2) (.ref r3) (.ref r4) (.int (1 : Int32))) :: (r1, .inr (.boolean, [(.int p5), (.int (0 : Int32)), (.int (1 : Int32))])) :: (r2, .inr (.int, [(.int (2 : Int32)), (.int (0 : Int32)), (.int (0 : Int32))])) :: (r3, .inr (.boolean, [(.int (0 : Int32)), (.int (0 : Int32)), (.int (1 : Int32))])) :: (r4, .inr (.boolean, [(.int (1 : Int32)), (.int (0 : Int32)), (.int (0 : Int32))])) :: RR) (fun v L' => v = none ∧ L' = ((r0, ob0 (.ref r1) (.ref r2) (.ref r3) (.ref r4) (.int (0 : Int32))) :: (r1, .inr (.boolean, [(.int p5), (.int (0 : Int32)), (.int (1 : Int32))])) :: (r2, .inr (.int, [(.int (2 : Int32)), (.int (0 : Int32)), (.int (0 : Int32))])) :: (r3, .inr (.boolean, [(.int (0 : Int32)), (.int (0 : Int32)), (.int (0 : Int32))])) :: (r4, .inr (.boolean, [(.int (1 : Int32)), (.int (0 : Int32)), (.int (0 : Int32))])) :: RR)) := by
  refine Triple.of_body (tbl := tables_1) (a0 := a0) (Ls := #[.val (.ref r0), .unset]) pn_9 hw rfl ?_
  intro p e s m below meth c T A
  refine A.iconst (q := 1) (v := (0 : Int32)) d9_0 rfl (by decide) ?_
  refine A.istoreN (q := 2) (l' := #[.val (.ref r0), .val (.int (0 : Int32))]) d9_1 rfl rfl ?_
  refine A.iloadN (q := 3) d9_2 rfl rfl ?_
  refine A.aloadN (q := 4) d9_3 rfl rfl rfl ?_
  refine A.getF (q := 7) (w := 53) (i := 0) (j := 4) d9_4 rfl rfl rfl rfl ?_
  intro T A
  refine A.icmpF (q := 10) d9_7 rfl (by decide) ?_
  refine A.aloadN (q := 11) d9_10 rfl rfl rfl ?_
  refine A.getF (q := 14) (w := 16) (i := 0) (j := 2) d9_11 rfl rfl rfl rfl ?_
  intro T A
  refine A.aloadN (q := 15) d9_14 rfl rfl rfl ?_
  refine A.getF (q := 18) (w := 14) (i := 0) (j := 1) d9_15 rfl rfl rfl rfl ?_
  intro T A
  refine A.iloadN (q := 19) d9_18 rfl rfl ?_
  refine A.iaload (q := 20) (i := 2) (v := (.int (2 : Int32))) d9_19 rfl rfl (by decide) rfl ?_
  refine A.iconst (q := 21) (v := (0 : Int32)) d9_20 rfl (by decide) ?_
  refine A.bastoreZ (q := 22) (i := 3) (x' := (0 : Int32)) (L' := ((r0, ob0 (.ref r1) (.ref r2) (.ref r3) (.ref r4) (.int (1 : Int32))) :: (r1, .inr (.boolean, [(.int p5), (.int (0 : Int32)), (.int (1 : Int32))])) :: (r2, .inr (.int, [(.int (2 : Int32)), (.int (0 : Int32)), (.int (0 : Int32))])) :: (r3, .inr (.boolean, [(.int (0 : Int32)), (.int (0 : Int32)), (.int (0 : Int32))])) :: (r4, .inr (.boolean, [(.int (1 : Int32)), (.int (0 : Int32)), (.int (0 : Int32))])) :: RR)) d9_21 rfl rfl (by decide) (by show Int32.toNatClampNeg (2 : Int32) < 3; decide) (by decide) rfl ?_
  intro T A
  refine A.iinc (q := 25) (v := (1 : Int32)) (l' := #[.val (.ref r0), .val (.int (1 : Int32))]) d9_22 rfl rfl (by decide) rfl ?_
  refine A.goto (r := 2) d9_25 (by decide) ?_
  refine A.iloadN (q := 3) d9_2 rfl rfl ?_
  refine A.aloadN (q := 4) d9_3 rfl rfl rfl ?_
  refine A.getF (q := 7) (w := 53) (i := 0) (j := 4) d9_4 rfl rfl rfl rfl ?_
  intro T A
  refine A.icmpT (r := 28) d9_7 (by decide) (by decide) ?_
  refine A.aloadN (q := 29) d9_28 rfl rfl rfl ?_
  refine A.iconst (q := 30) (v := (0 : Int32)) d9_29 rfl (by decide) ?_
  refine A.putF (q := 33) (w := 53) (w2 := 54) (w3 := 2) (i := 0) (j := 4) (ty := .int) (v' := (.int (0 : Int32))) (L' := ((r0, ob0 (.ref r1) (.ref r2) (.ref r3) (.ref r4) (.int (0 : Int32))) :: (r1, .inr (.boolean, [(.int p5), (.int (0 : Int32)), (.int (1 : Int32))])) :: (r2, .inr (.int, [(.int (2 : Int32)), (.int (0 : Int32)), (.int (0 : Int32))])) :: (r3, .inr (.boolean, [(.int (0 : Int32)), (.int (0 : Int32)), (.int (0 : Int32))])) :: (r4, .inr (.boolean, [(.int (1 : Int32)), (.int (0 : Int32)), (.int (0 : Int32))])) :: RR)) d9_30 rfl rfl rfl rfl (lay_0 Z a0 hw) (Or.inl rfl) rfl (by decide) rfl rfl rfl ?_
  intro T A
  exact A.retV d9_33 (by decide) (by decide) ⟨rfl, rfl⟩
set_option maxRecDepth 65536 in
set_option maxHeartbeats 8000000 in
theorem rm7_3 (l : Launch) (Z : State) (a0 : Array Value) (hw : ∀ d ∈ tables_1, d.before a0 Z = true) (n0 : Nat) (r0 : Addr) (r1 : Addr) (r2 : Addr) (r3 : Addr) (r4 : Addr) (p5 : Int32) (RR : Obs) (z_p5 : nar .boolean p5 = p5) :
    Triple l Z n0 (⟨"com/example/proof_of_scan/proofofscan/Choices", "next", "()Z"⟩ : MethodName) prog_2_method_9_code 3 (some .boolean) ({ frames := 1, cells := 0, slots := 0, locals := 13 } : Room) 0 0 [(.ref r0)] ((r0, ob0 (.ref r1) (.ref r2) (.ref r3) (.ref r4) (.int (1 : Int32))) :: (r1, .inr (.boolean, [(.int p5), (.int (0 : Int32)), (.int (0 : Int32))])) :: (r2, .inr (.int, [(.int (2 : Int32)), (.int (0 : Int32)), (.int (0 : Int32))])) :: (r3, .inr (.boolean, [(.int (0 : Int32)), (.int (0 : Int32)), (.int (1 : Int32))])) :: (r4, .inr (.boolean, [(.int (1 : Int32)), (.int (0 : Int32)), (.int (0 : Int32))])) :: RR) (fun v L' => v = some (.int (1 : Int32)) ∧ L' = ((r0, ob0 (.ref r1) (.ref r2) (.ref r3) (.ref r4) (.int (0 : Int32))) :: (r1, .inr (.boolean, [(.int p5), (.int (0 : Int32)), (.int (1 : Int32))])) :: (r2, .inr (.int, [(.int (2 : Int32)), (.int (0 : Int32)), (.int (0 : Int32))])) :: (r3, .inr (.boolean, [(.int (0 : Int32)), (.int (0 : Int32)), (.int (0 : Int32))])) :: (r4, .inr (.boolean, [(.int (1 : Int32)), (.int (0 : Int32)), (.int (0 : Int32))])) :: RR)) := by
  refine Triple.of_body (tbl := tables_1) (a0 := a0) (Ls := #[.val (.ref r0), .unset, .unset]) pn_7 hw rfl ?_
  intro p e s m below meth c T A
  refine A.aloadN (q := 1) d7_0 rfl rfl rfl ?_
  refine A.getF (q := 4) (w := 53) (i := 0) (j := 4) d7_1 rfl rfl rfl rfl ?_
  intro T A
  refine A.iconst (q := 5) (v := (1 : Int32)) d7_4 rfl (by decide) ?_
  refine A.isub (q := 6) (v := (0 : Int32)) d7_5 rfl (by decide) ?_
  refine A.istoreN (q := 7) (l' := #[.val (.ref r0), .val (.int (0 : Int32)), .unset]) d7_6 rfl rfl ?_
  refine A.iloadN (q := 8) d7_7 rfl rfl ?_
  refine A.ifF (q := 11) d7_8 rfl (by decide) ?_
  refine A.aloadN (q := 12) d7_11 rfl rfl rfl ?_
  refine A.getF (q := 15) (w := 11) (i := 0) (j := 0) d7_12 rfl rfl rfl rfl ?_
  intro T A
  refine A.aloadN (q := 16) d7_15 rfl rfl rfl ?_
  refine A.getF (q := 19) (w := 14) (i := 0) (j := 1) d7_16 rfl rfl rfl rfl ?_
  intro T A
  refine A.iloadN (q := 20) d7_19 rfl rfl ?_
  refine A.iaload (q := 21) (i := 2) (v := (.int (2 : Int32))) d7_20 rfl rfl (by decide) rfl ?_
  refine A.baloadZ (q := 22) (i := 1) (v := (.int (0 : Int32))) d7_21 rfl rfl (by decide) rfl ?_
  refine A.ifT (r := 31) d7_22 (by decide) (by decide) ?_
  refine A.iloadN (q := 32) d7_31 rfl rfl ?_
  refine A.ifT (r := 37) d7_32 (by decide) (by decide) ?_
  refine A.aloadN (q := 38) d7_37 rfl rfl rfl ?_
  refine A.getF (q := 41) (w := 11) (i := 0) (j := 0) d7_38 rfl rfl rfl rfl ?_
  intro T A
  refine A.aloadN (q := 42) d7_41 rfl rfl rfl ?_
  refine A.getF (q := 45) (w := 14) (i := 0) (j := 1) d7_42 rfl rfl rfl rfl ?_
  intro T A
  refine A.iloadN (q := 46) d7_45 rfl rfl ?_
  refine A.iaload (q := 47) (i := 2) (v := (.int (2 : Int32))) d7_46 rfl rfl (by decide) rfl ?_
  refine A.iconst (q := 48) (v := (1 : Int32)) d7_47 rfl (by decide) ?_
  refine A.bastoreZ (q := 49) (i := 1) (x' := (1 : Int32)) (L' := ((r0, ob0 (.ref r1) (.ref r2) (.ref r3) (.ref r4) (.int (1 : Int32))) :: (r1, .inr (.boolean, [(.int p5), (.int (0 : Int32)), (.int (1 : Int32))])) :: (r2, .inr (.int, [(.int (2 : Int32)), (.int (0 : Int32)), (.int (0 : Int32))])) :: (r3, .inr (.boolean, [(.int (0 : Int32)), (.int (0 : Int32)), (.int (1 : Int32))])) :: (r4, .inr (.boolean, [(.int (1 : Int32)), (.int (0 : Int32)), (.int (0 : Int32))])) :: RR)) d7_48 rfl rfl (by decide) (by show Int32.toNatClampNeg (2 : Int32) < 3; decide) (by decide) rfl ?_
  intro T A
  refine A.iloadN (q := 50) d7_49 rfl rfl ?_
  refine A.iconst (q := 51) (v := (1 : Int32)) d7_50 rfl (by decide) ?_
  refine A.iadd (q := 52) (v := (1 : Int32)) d7_51 rfl (by decide) ?_
  refine A.istoreN (q := 53) (l' := #[.val (.ref r0), .val (.int (0 : Int32)), .val (.int (1 : Int32))]) d7_52 rfl rfl ?_
  refine A.iloadN (q := 54) d7_53 rfl rfl ?_
  refine A.aloadN (q := 55) d7_54 rfl rfl rfl ?_
  refine A.getF (q := 58) (w := 53) (i := 0) (j := 4) d7_55 rfl rfl rfl rfl ?_
  intro T A
  refine A.icmpT (r := 79) d7_58 (by decide) (by decide) ?_
  refine A.aloadN (q := 80) d7_79 rfl rfl rfl ?_
  refine A.callP (q := 83) (i := 0) (w1 := 60) (w2 := 62) (w3 := 3) (w4 := 63) (w5 := 2) (w6 := 61) (a := r0) (as := []) (st := []) (W := 0) d7_80 rfl rfl rfl rfl rfl rfl rfl rfl (rm9_4 l Z a0 hw n0 r0 r1 r2 r3 r4 p5 _ z_p5) (by decide) ⟨_, _, pd_6, rfl⟩ rfl rfl rfl (by decide) (by decide) (by decide) (by decide) ?_
  rintro _ T _ ⟨rfl, rfl⟩ A
  show Go p e below _ (T.setTop (mkF m 83 #[.val (.ref r0), .val (.int (0 : Int32)), .val (.int (1 : Int32))] []))
  refine A.iconst (q := 84) (v := (1 : Int32)) d7_83 rfl (by decide) ?_
  exact A.retZ (v := (1 : Int32)) d7_84 (by decide) (by decide) (by decide) ⟨rfl, rfl⟩
set_option maxRecDepth 65536 in
set_option maxHeartbeats 8000000 in
theorem rm4_4 (l : Launch) (Z : State) (a0 : Array Value) (hw : ∀ d ∈ tables_1, d.before a0 Z = true) (n0 : Nat) (r0 : Addr) (r1 : Addr) (r2 : Addr) (r3 : Addr) (r4 : Addr) (p5 : Int32) (RR : Obs) (z_p5 : nar .boolean p5 = p5) :
    Triple l Z n0 (⟨"com/example/proof_of_scan/proofofscan/Choices", "values", "()[Z"⟩ : MethodName) prog_2_method_7_code 1 (some (.array .boolean)) ({ frames := 1, cells := 1, slots := 3, locals := 14 } : Room) 1 3 [(.ref r0)] ((r0, ob0 (.ref r1) (.ref r2) (.ref r3) (.ref r4) (.int (0 : Int32))) :: (r1, .inr (.boolean, [(.int p5), (.int (0 : Int32)), (.int (1 : Int32))])) :: (r2, .inr (.int, [(.int (2 : Int32)), (.int (0 : Int32)), (.int (0 : Int32))])) :: (r3, .inr (.boolean, [(.int (0 : Int32)), (.int (0 : Int32)), (.int (0 : Int32))])) :: (r4, .inr (.boolean, [(.int (1 : Int32)), (.int (0 : Int32)), (.int (0 : Int32))])) :: RR) (fun v L' => ∃ b1 : Addr, v = some (.ref b1) ∧ L' = ((b1, .inr (.boolean, [(.int p5), (.int (0 : Int32)), (.int (1 : Int32))])) :: (r0, ob0 (.ref r1) (.ref r2) (.ref r3) (.ref r4) (.int (0 : Int32))) :: (r1, .inr (.boolean, [(.int p5), (.int (0 : Int32)), (.int (1 : Int32))])) :: (r2, .inr (.int, [(.int (2 : Int32)), (.int (0 : Int32)), (.int (0 : Int32))])) :: (r3, .inr (.boolean, [(.int (0 : Int32)), (.int (0 : Int32)), (.int (0 : Int32))])) :: (r4, .inr (.boolean, [(.int (1 : Int32)), (.int (0 : Int32)), (.int (0 : Int32))])) :: RR)) := by
  refine Triple.of_body (tbl := tables_1) (a0 := a0) (Ls := #[.val (.ref r0)]) pn_4 hw rfl ?_
  intro p e s m below meth c T A
  refine A.aloadN (q := 1) d4_0 rfl rfl rfl ?_
  refine A.getF (q := 4) (w := 11) (i := 0) (j := 0) d4_1 rfl rfl rfl rfl ?_
  intro T A
  refine A.clone (q := 7) (i := 1) (w1 := 30) (w2 := 31) (w3 := 35) (w4 := 33) (w5 := 34) (w6 := 36) (W := 0) (cap := 3) (ad := "[Z") d4_4 rfl rfl (by decide) rfl rfl rfl rfl rfl rfl rfl rfl (by decide) (by decide) (Nat.le_refl _) (by decide) (by decide) ?_
  intro T b1 A
  refine A.castArr (q := 10) (w := 37) (i := 0) d4_7 rfl rfl rfl (by decide) ?_
  intro T A
  exact A.retA d4_10 rfl rfl rfl (by decide) (by decide) ⟨b1, rfl, rfl⟩
set_option maxRecDepth 65536 in
set_option maxHeartbeats 8000000 in
theorem rm5_3 (l : Launch) (Z : State) (a0 : Array Value) (hw : ∀ d ∈ tables_1, d.before a0 Z = true) (n0 : Nat) (r0 : Addr) (p1 : Int32) (RR : Obs) (z_p1 : nar .boolean p1 = p1) :
    Triple l Z n0 (⟨"com/example/proof_of_scan/proofofscan/ChoicesHoldPinLaw", "same", "([ZIZI)Z"⟩ : MethodName) method_2_code 7 (some .boolean) ({ frames := 0, cells := 0, slots := 0, locals := 0 } : Room) 0 0 [(.ref r0), (.int (0 : Int32)), (.int p1), (.int (2 : Int32))] ((r0, .inr (.boolean, [(.int p1), (.int (0 : Int32)), (.int (1 : Int32))])) :: RR) (fun v L' => v = some (.int (1 : Int32)) ∧ L' = ((r0, .inr (.boolean, [(.int p1), (.int (0 : Int32)), (.int (1 : Int32))])) :: RR)) := by
  refine Triple.of_body (tbl := tables_1) (a0 := a0) (Ls := #[.val (.ref r0), .val (.int (0 : Int32)), .val (.int p1), .val (.int (2 : Int32)), .unset, .unset, .unset]) pn_5 hw rfl ?_
  intro p e s m below meth c T A
  refine A.aloadN (q := 1) d5_0 rfl rfl rfl ?_
  refine A.arraylength (q := 2) (i := 0) (v := (3 : Int32)) d5_1 rfl rfl (by show Nat.toInt32 3 = 3; decide) ?_
  refine A.iconst (q := 3) (v := (3 : Int32)) d5_2 rfl (by decide) ?_
  refine A.icmpT (r := 8) d5_3 (by decide) (by decide) ?_
  refine A.iconst (q := 9) (v := (0 : Int32)) d5_8 rfl (by decide) ?_
  refine A.iloadN (q := 10) d5_9 rfl rfl ?_
  refine A.icmpF (q := 13) d5_10 rfl (by decide) ?_
  refine A.iloadN (q := 14) d5_13 rfl rfl ?_
  refine A.goto (r := 27) d5_14 (by decide) ?_
  refine A.istore (q := 29) (l' := #[.val (.ref r0), .val (.int (0 : Int32)), .val (.int p1), .val (.int (2 : Int32)), .val (.int p1), .unset, .unset]) d5_27 rfl rfl ?_
  refine A.iconst (q := 30) (v := (1 : Int32)) d5_29 rfl (by decide) ?_
  refine A.iloadN (q := 31) d5_30 rfl rfl ?_
  refine A.icmpT (r := 38) d5_31 (by decide) (by decide) ?_
  refine A.iconst (q := 39) (v := (1 : Int32)) d5_38 rfl (by decide) ?_
  refine A.iloadN (q := 40) d5_39 rfl rfl ?_
  refine A.icmpT (r := 47) d5_40 (by decide) (by decide) ?_
  refine A.iconst (q := 48) (v := (0 : Int32)) d5_47 rfl (by decide) ?_
  refine A.istore (q := 50) (l' := #[.val (.ref r0), .val (.int (0 : Int32)), .val (.int p1), .val (.int (2 : Int32)), .val (.int p1), .val (.int (0 : Int32)), .unset]) d5_48 rfl rfl ?_
  refine A.iconst (q := 51) (v := (2 : Int32)) d5_50 rfl (by decide) ?_
  refine A.iloadN (q := 52) d5_51 rfl rfl ?_
  refine A.icmpT (r := 59) d5_52 (by decide) (by decide) ?_
  refine A.iconst (q := 60) (v := (2 : Int32)) d5_59 rfl (by decide) ?_
  refine A.iloadN (q := 61) d5_60 rfl rfl ?_
  refine A.icmpF (q := 64) d5_61 rfl (by decide) ?_
  refine A.iconst (q := 65) (v := (1 : Int32)) d5_64 rfl (by decide) ?_
  refine A.goto (r := 69) d5_65 (by decide) ?_
  refine A.istore (q := 71) (l' := #[.val (.ref r0), .val (.int (0 : Int32)), .val (.int p1), .val (.int (2 : Int32)), .val (.int p1), .val (.int (0 : Int32)), .val (.int (1 : Int32))]) d5_69 rfl rfl ?_
  refine A.aloadN (q := 72) d5_71 rfl rfl rfl ?_
  refine A.iconst (q := 73) (v := (0 : Int32)) d5_72 rfl (by decide) ?_
  refine A.baloadZ (q := 74) (i := 0) (v := (.int p1)) d5_73 rfl rfl (by decide) rfl ?_
  refine A.iload (q := 76) d5_74 rfl rfl ?_
  refine A.icmpF (q := 79) d5_76 rfl (teq rfl).2 ?_
  refine A.aloadN (q := 80) d5_79 rfl rfl rfl ?_
  refine A.iconst (q := 81) (v := (1 : Int32)) d5_80 rfl (by decide) ?_
  refine A.baloadZ (q := 82) (i := 0) (v := (.int (0 : Int32))) d5_81 rfl rfl (by decide) rfl ?_
  refine A.iload (q := 84) d5_82 rfl rfl ?_
  refine A.icmpF (q := 87) d5_84 rfl (by decide) ?_
  refine A.aloadN (q := 88) d5_87 rfl rfl rfl ?_
  refine A.iconst (q := 89) (v := (2 : Int32)) d5_88 rfl (by decide) ?_
  refine A.baloadZ (q := 90) (i := 0) (v := (.int (1 : Int32))) d5_89 rfl rfl (by decide) rfl ?_
  refine A.iload (q := 92) d5_90 rfl rfl ?_
  refine A.icmpF (q := 95) d5_92 rfl (by decide) ?_
  refine A.iconst (q := 96) (v := (1 : Int32)) d5_95 rfl (by decide) ?_
  refine A.goto (r := 100) d5_96 (by decide) ?_
  exact A.retZ (v := (1 : Int32)) d5_100 (by decide) (by decide) (by decide) ⟨rfl, rfl⟩
set_option maxRecDepth 65536 in
set_option maxHeartbeats 8000000 in
theorem rm9_5 (l : Launch) (Z : State) (a0 : Array Value) (hw : ∀ d ∈ tables_1, d.before a0 Z = true) (n0 : Nat) (r0 : Addr) (r1 : Addr) (r2 : Addr) (r3 : Addr) (r4 : Addr) (p5 : Int32) (RR : Obs) (z_p5 : nar .boolean p5 = p5) :
    Triple l Z n0 (⟨"com/example/proof_of_scan/proofofscan/Choices", "forgetTaken", "()V"⟩ : MethodName) prog_2_method_10_code 2 none ({ frames := 0, cells := 0, slots := 0, locals := 0 } : Room) 0 0 [(.ref r0)] ((r0, ob0 (.ref r1) (.ref r2) (.ref r3) (.ref r4) (.int (0 : Int32))) :: (r1, .inr (.boolean, [(.int p5), (.int (0 : Int32)), (.int (0 : Int32))])) :: (r2, .inr (.int, [(.int (2 : Int32)), (.int (0 : Int32)), (.int (0 : Int32))])) :: (r3, .inr (.boolean, [(.int (0 : Int32)), (.int (0 : Int32)), (.int (0 : Int32))])) :: (r4, .inr (.boolean, [(.int (1 : Int32)), (.int (0 : Int32)), (.int (0 : Int32))])) :: RR) (fun v L' => v = none ∧ L' = ((r0, ob0 (.ref r1) (.ref r2) (.ref r3) (.ref r4) (.int (0 : Int32))) :: (r1, .inr (.boolean, [(.int p5), (.int (0 : Int32)), (.int (0 : Int32))])) :: (r2, .inr (.int, [(.int (2 : Int32)), (.int (0 : Int32)), (.int (0 : Int32))])) :: (r3, .inr (.boolean, [(.int (0 : Int32)), (.int (0 : Int32)), (.int (0 : Int32))])) :: (r4, .inr (.boolean, [(.int (1 : Int32)), (.int (0 : Int32)), (.int (0 : Int32))])) :: RR)) := by
  refine Triple.of_body (tbl := tables_1) (a0 := a0) (Ls := #[.val (.ref r0), .unset]) pn_9 hw rfl ?_
  intro p e s m below meth c T A
  refine A.iconst (q := 1) (v := (0 : Int32)) d9_0 rfl (by decide) ?_
  refine A.istoreN (q := 2) (l' := #[.val (.ref r0), .val (.int (0 : Int32))]) d9_1 rfl rfl ?_
  refine A.iloadN (q := 3) d9_2 rfl rfl ?_
  refine A.aloadN (q := 4) d9_3 rfl rfl rfl ?_
  refine A.getF (q := 7) (w := 53) (i := 0) (j := 4) d9_4 rfl rfl rfl rfl ?_
  intro T A
  refine A.icmpT (r := 28) d9_7 (by decide) (by decide) ?_
  refine A.aloadN (q := 29) d9_28 rfl rfl rfl ?_
  refine A.iconst (q := 30) (v := (0 : Int32)) d9_29 rfl (by decide) ?_
  refine A.putF (q := 33) (w := 53) (w2 := 54) (w3 := 2) (i := 0) (j := 4) (ty := .int) (v' := (.int (0 : Int32))) (L' := ((r0, ob0 (.ref r1) (.ref r2) (.ref r3) (.ref r4) (.int (0 : Int32))) :: (r1, .inr (.boolean, [(.int p5), (.int (0 : Int32)), (.int (0 : Int32))])) :: (r2, .inr (.int, [(.int (2 : Int32)), (.int (0 : Int32)), (.int (0 : Int32))])) :: (r3, .inr (.boolean, [(.int (0 : Int32)), (.int (0 : Int32)), (.int (0 : Int32))])) :: (r4, .inr (.boolean, [(.int (1 : Int32)), (.int (0 : Int32)), (.int (0 : Int32))])) :: RR)) d9_30 rfl rfl rfl rfl (lay_0 Z a0 hw) (Or.inl rfl) rfl (by decide) rfl rfl rfl ?_
  intro T A
  exact A.retV d9_33 (by decide) (by decide) ⟨rfl, rfl⟩
set_option maxRecDepth 65536 in
set_option maxHeartbeats 8000000 in
theorem rm8_3 (l : Launch) (Z : State) (a0 : Array Value) (hw : ∀ d ∈ tables_1, d.before a0 Z = true) (n0 : Nat) (r0 : Addr) (r1 : Addr) (r2 : Addr) (r3 : Addr) (r4 : Addr) (p5 : Int32) (RR : Obs) (z_p5 : nar .boolean p5 = p5) :
    Triple l Z n0 (⟨"com/example/proof_of_scan/proofofscan/Choices", "reset", "()V"⟩ : MethodName) prog_2_method_8_code 2 none ({ frames := 1, cells := 0, slots := 0, locals := 13 } : Room) 0 0 [(.ref r0)] ((r0, ob0 (.ref r1) (.ref r2) (.ref r3) (.ref r4) (.int (0 : Int32))) :: (r1, .inr (.boolean, [(.int p5), (.int (0 : Int32)), (.int (1 : Int32))])) :: (r2, .inr (.int, [(.int (2 : Int32)), (.int (0 : Int32)), (.int (0 : Int32))])) :: (r3, .inr (.boolean, [(.int (0 : Int32)), (.int (0 : Int32)), (.int (0 : Int32))])) :: (r4, .inr (.boolean, [(.int (1 : Int32)), (.int (0 : Int32)), (.int (0 : Int32))])) :: RR) (fun v L' => v = none ∧ L' = ((r0, ob0 (.ref r1) (.ref r2) (.ref r3) (.ref r4) (.int (0 : Int32))) :: (r1, .inr (.boolean, [(.int p5), (.int (0 : Int32)), (.int (0 : Int32))])) :: (r2, .inr (.int, [(.int (2 : Int32)), (.int (0 : Int32)), (.int (0 : Int32))])) :: (r3, .inr (.boolean, [(.int (0 : Int32)), (.int (0 : Int32)), (.int (0 : Int32))])) :: (r4, .inr (.boolean, [(.int (1 : Int32)), (.int (0 : Int32)), (.int (0 : Int32))])) :: RR)) := by
  refine Triple.of_body (tbl := tables_1) (a0 := a0) (Ls := #[.val (.ref r0), .unset]) pn_8 hw rfl ?_
  intro p e s m below meth c T A
  refine A.iconst (q := 1) (v := (0 : Int32)) d8_0 rfl (by decide) ?_
  refine A.istoreN (q := 2) (l' := #[.val (.ref r0), .val (.int (0 : Int32))]) d8_1 rfl rfl ?_
  refine A.iloadN (q := 3) d8_2 rfl rfl ?_
  refine A.aloadN (q := 4) d8_3 rfl rfl rfl ?_
  refine A.getF (q := 7) (w := 11) (i := 0) (j := 0) d8_4 rfl rfl rfl rfl ?_
  intro T A
  refine A.arraylength (q := 8) (i := 1) (v := (3 : Int32)) d8_7 rfl rfl (by show Nat.toInt32 3 = 3; decide) ?_
  refine A.icmpF (q := 11) d8_8 rfl (by decide) ?_
  refine A.aloadN (q := 12) d8_11 rfl rfl rfl ?_
  refine A.getF (q := 15) (w := 11) (i := 0) (j := 0) d8_12 rfl rfl rfl rfl ?_
  intro T A
  refine A.iloadN (q := 16) d8_15 rfl rfl ?_
  refine A.dup2 (q := 17) d8_16 rfl rfl rfl ?_
  refine A.baloadZ (q := 18) (i := 1) (v := (.int p5)) d8_17 rfl rfl (by decide) rfl ?_
  refine A.aloadN (q := 19) d8_18 rfl rfl rfl ?_
  refine A.getF (q := 22) (w := 18) (i := 0) (j := 3) d8_19 rfl rfl rfl rfl ?_
  intro T A
  refine A.iloadN (q := 23) d8_22 rfl rfl ?_
  refine A.baloadZ (q := 24) (i := 4) (v := (.int (1 : Int32))) d8_23 rfl rfl (by decide) rfl ?_
  refine A.iand (q := 25) (v := p5) d8_24 rfl z_p5 ?_
  refine A.bastoreZ (q := 26) (i := 1) (x' := p5) (L' := ((r0, ob0 (.ref r1) (.ref r2) (.ref r3) (.ref r4) (.int (0 : Int32))) :: (r1, .inr (.boolean, [(.int p5), (.int (0 : Int32)), (.int (1 : Int32))])) :: (r2, .inr (.int, [(.int (2 : Int32)), (.int (0 : Int32)), (.int (0 : Int32))])) :: (r3, .inr (.boolean, [(.int (0 : Int32)), (.int (0 : Int32)), (.int (0 : Int32))])) :: (r4, .inr (.boolean, [(.int (1 : Int32)), (.int (0 : Int32)), (.int (0 : Int32))])) :: RR)) d8_25 rfl rfl (by decide) (by show Int32.toNatClampNeg (0 : Int32) < 3; decide) z_p5 rfl ?_
  intro T A
  refine A.iinc (q := 29) (v := (1 : Int32)) (l' := #[.val (.ref r0), .val (.int (1 : Int32))]) d8_26 rfl rfl (by decide) rfl ?_
  refine A.goto (r := 2) d8_29 (by decide) ?_
  refine A.iloadN (q := 3) d8_2 rfl rfl ?_
  refine A.aloadN (q := 4) d8_3 rfl rfl rfl ?_
  refine A.getF (q := 7) (w := 11) (i := 0) (j := 0) d8_4 rfl rfl rfl rfl ?_
  intro T A
  refine A.arraylength (q := 8) (i := 1) (v := (3 : Int32)) d8_7 rfl rfl (by show Nat.toInt32 3 = 3; decide) ?_
  refine A.icmpF (q := 11) d8_8 rfl (by decide) ?_
  refine A.aloadN (q := 12) d8_11 rfl rfl rfl ?_
  refine A.getF (q := 15) (w := 11) (i := 0) (j := 0) d8_12 rfl rfl rfl rfl ?_
  intro T A
  refine A.iloadN (q := 16) d8_15 rfl rfl ?_
  refine A.dup2 (q := 17) d8_16 rfl rfl rfl ?_
  refine A.baloadZ (q := 18) (i := 1) (v := (.int (0 : Int32))) d8_17 rfl rfl (by decide) rfl ?_
  refine A.aloadN (q := 19) d8_18 rfl rfl rfl ?_
  refine A.getF (q := 22) (w := 18) (i := 0) (j := 3) d8_19 rfl rfl rfl rfl ?_
  intro T A
  refine A.iloadN (q := 23) d8_22 rfl rfl ?_
  refine A.baloadZ (q := 24) (i := 4) (v := (.int (0 : Int32))) d8_23 rfl rfl (by decide) rfl ?_
  refine A.iand (q := 25) (v := (0 : Int32)) d8_24 rfl (by decide) ?_
  refine A.bastoreZ (q := 26) (i := 1) (x' := (0 : Int32)) (L' := ((r0, ob0 (.ref r1) (.ref r2) (.ref r3) (.ref r4) (.int (0 : Int32))) :: (r1, .inr (.boolean, [(.int p5), (.int (0 : Int32)), (.int (1 : Int32))])) :: (r2, .inr (.int, [(.int (2 : Int32)), (.int (0 : Int32)), (.int (0 : Int32))])) :: (r3, .inr (.boolean, [(.int (0 : Int32)), (.int (0 : Int32)), (.int (0 : Int32))])) :: (r4, .inr (.boolean, [(.int (1 : Int32)), (.int (0 : Int32)), (.int (0 : Int32))])) :: RR)) d8_25 rfl rfl (by decide) (by show Int32.toNatClampNeg (1 : Int32) < 3; decide) (by decide) rfl ?_
  intro T A
  refine A.iinc (q := 29) (v := (2 : Int32)) (l' := #[.val (.ref r0), .val (.int (2 : Int32))]) d8_26 rfl rfl (by decide) rfl ?_
  refine A.goto (r := 2) d8_29 (by decide) ?_
  refine A.iloadN (q := 3) d8_2 rfl rfl ?_
  refine A.aloadN (q := 4) d8_3 rfl rfl rfl ?_
  refine A.getF (q := 7) (w := 11) (i := 0) (j := 0) d8_4 rfl rfl rfl rfl ?_
  intro T A
  refine A.arraylength (q := 8) (i := 1) (v := (3 : Int32)) d8_7 rfl rfl (by show Nat.toInt32 3 = 3; decide) ?_
  refine A.icmpF (q := 11) d8_8 rfl (by decide) ?_
  refine A.aloadN (q := 12) d8_11 rfl rfl rfl ?_
  refine A.getF (q := 15) (w := 11) (i := 0) (j := 0) d8_12 rfl rfl rfl rfl ?_
  intro T A
  refine A.iloadN (q := 16) d8_15 rfl rfl ?_
  refine A.dup2 (q := 17) d8_16 rfl rfl rfl ?_
  refine A.baloadZ (q := 18) (i := 1) (v := (.int (1 : Int32))) d8_17 rfl rfl (by decide) rfl ?_
  refine A.aloadN (q := 19) d8_18 rfl rfl rfl ?_
  refine A.getF (q := 22) (w := 18) (i := 0) (j := 3) d8_19 rfl rfl rfl rfl ?_
  intro T A
  refine A.iloadN (q := 23) d8_22 rfl rfl ?_
  refine A.baloadZ (q := 24) (i := 4) (v := (.int (0 : Int32))) d8_23 rfl rfl (by decide) rfl ?_
  refine A.iand (q := 25) (v := (0 : Int32)) d8_24 rfl (by decide) ?_
  refine A.bastoreZ (q := 26) (i := 1) (x' := (0 : Int32)) (L' := ((r0, ob0 (.ref r1) (.ref r2) (.ref r3) (.ref r4) (.int (0 : Int32))) :: (r1, .inr (.boolean, [(.int p5), (.int (0 : Int32)), (.int (0 : Int32))])) :: (r2, .inr (.int, [(.int (2 : Int32)), (.int (0 : Int32)), (.int (0 : Int32))])) :: (r3, .inr (.boolean, [(.int (0 : Int32)), (.int (0 : Int32)), (.int (0 : Int32))])) :: (r4, .inr (.boolean, [(.int (1 : Int32)), (.int (0 : Int32)), (.int (0 : Int32))])) :: RR)) d8_25 rfl rfl (by decide) (by show Int32.toNatClampNeg (2 : Int32) < 3; decide) (by decide) rfl ?_
  intro T A
  refine A.iinc (q := 29) (v := (3 : Int32)) (l' := #[.val (.ref r0), .val (.int (3 : Int32))]) d8_26 rfl rfl (by decide) rfl ?_
  refine A.goto (r := 2) d8_29 (by decide) ?_
  refine A.iloadN (q := 3) d8_2 rfl rfl ?_
  refine A.aloadN (q := 4) d8_3 rfl rfl rfl ?_
  refine A.getF (q := 7) (w := 11) (i := 0) (j := 0) d8_4 rfl rfl rfl rfl ?_
  intro T A
  refine A.arraylength (q := 8) (i := 1) (v := (3 : Int32)) d8_7 rfl rfl (by show Nat.toInt32 3 = 3; decide) ?_
  refine A.icmpT (r := 32) d8_8 (by decide) (by decide) ?_
  refine A.aloadN (q := 33) d8_32 rfl rfl rfl ?_
  refine A.callP (q := 36) (i := 0) (w1 := 60) (w2 := 62) (w3 := 3) (w4 := 63) (w5 := 2) (w6 := 61) (a := r0) (as := []) (st := []) (W := 0) d8_33 rfl rfl rfl rfl rfl rfl rfl rfl (rm9_5 l Z a0 hw n0 r0 r1 r2 r3 r4 p5 _ z_p5) (by decide) ⟨_, _, pd_6, rfl⟩ rfl rfl rfl (by decide) (by decide) (by decide) (by decide) ?_
  rintro _ T _ ⟨rfl, rfl⟩ A
  show Go p e below _ (T.setTop (mkF m 36 #[.val (.ref r0), .val (.int (3 : Int32))] []))
  exact A.retV d8_36 (by decide) (by decide) ⟨rfl, rfl⟩
set_option maxRecDepth 65536 in
set_option maxHeartbeats 8000000 in
theorem rm4_5 (l : Launch) (Z : State) (a0 : Array Value) (hw : ∀ d ∈ tables_1, d.before a0 Z = true) (n0 : Nat) (r0 : Addr) (r1 : Addr) (r2 : Addr) (r3 : Addr) (r4 : Addr) (p5 : Int32) (RR : Obs) (z_p5 : nar .boolean p5 = p5) :
    Triple l Z n0 (⟨"com/example/proof_of_scan/proofofscan/Choices", "values", "()[Z"⟩ : MethodName) prog_2_method_7_code 1 (some (.array .boolean)) ({ frames := 1, cells := 1, slots := 3, locals := 14 } : Room) 1 3 [(.ref r0)] ((r0, ob0 (.ref r1) (.ref r2) (.ref r3) (.ref r4) (.int (0 : Int32))) :: (r1, .inr (.boolean, [(.int p5), (.int (0 : Int32)), (.int (0 : Int32))])) :: (r2, .inr (.int, [(.int (2 : Int32)), (.int (0 : Int32)), (.int (0 : Int32))])) :: (r3, .inr (.boolean, [(.int (0 : Int32)), (.int (0 : Int32)), (.int (0 : Int32))])) :: (r4, .inr (.boolean, [(.int (1 : Int32)), (.int (0 : Int32)), (.int (0 : Int32))])) :: RR) (fun v L' => ∃ b1 : Addr, v = some (.ref b1) ∧ L' = ((b1, .inr (.boolean, [(.int p5), (.int (0 : Int32)), (.int (0 : Int32))])) :: (r0, ob0 (.ref r1) (.ref r2) (.ref r3) (.ref r4) (.int (0 : Int32))) :: (r1, .inr (.boolean, [(.int p5), (.int (0 : Int32)), (.int (0 : Int32))])) :: (r2, .inr (.int, [(.int (2 : Int32)), (.int (0 : Int32)), (.int (0 : Int32))])) :: (r3, .inr (.boolean, [(.int (0 : Int32)), (.int (0 : Int32)), (.int (0 : Int32))])) :: (r4, .inr (.boolean, [(.int (1 : Int32)), (.int (0 : Int32)), (.int (0 : Int32))])) :: RR)) := by
  refine Triple.of_body (tbl := tables_1) (a0 := a0) (Ls := #[.val (.ref r0)]) pn_4 hw rfl ?_
  intro p e s m below meth c T A
  refine A.aloadN (q := 1) d4_0 rfl rfl rfl ?_
  refine A.getF (q := 4) (w := 11) (i := 0) (j := 0) d4_1 rfl rfl rfl rfl ?_
  intro T A
  refine A.clone (q := 7) (i := 1) (w1 := 30) (w2 := 31) (w3 := 35) (w4 := 33) (w5 := 34) (w6 := 36) (W := 0) (cap := 3) (ad := "[Z") d4_4 rfl rfl (by decide) rfl rfl rfl rfl rfl rfl rfl rfl (by decide) (by decide) (Nat.le_refl _) (by decide) (by decide) ?_
  intro T b1 A
  refine A.castArr (q := 10) (w := 37) (i := 0) d4_7 rfl rfl rfl (by decide) ?_
  intro T A
  exact A.retA d4_10 rfl rfl rfl (by decide) (by decide) ⟨b1, rfl, rfl⟩
set_option maxRecDepth 65536 in
set_option maxHeartbeats 8000000 in
theorem rm3_3 (l : Launch) (Z : State) (a0 : Array Value) (hw : ∀ d ∈ tables_1, d.before a0 Z = true) (n0 : Nat) (r0 : Addr) (p1 : Int32) (r2 : Addr) (r3 : Addr) (r4 : Addr) (r5 : Addr) (RR : Obs) (z_p1 : nar .boolean p1 = p1) :
    Triple l Z n0 (⟨"com/example/proof_of_scan/proofofscan/Choices", "hold", "(IZ)V"⟩ : MethodName) prog_2_method_2_code 3 none ({ frames := 0, cells := 0, slots := 0, locals := 0 } : Room) 0 0 [(.ref r0), (.int (1 : Int32)), (.int p1)] ((r0, ob0 (.ref r2) (.ref r3) (.ref r4) (.ref r5) (.int (0 : Int32))) :: (r2, .inr (.boolean, [(.int (0 : Int32)), (.int (0 : Int32)), (.int (0 : Int32))])) :: (r3, .inr (.int, [(.int (0 : Int32)), (.int (0 : Int32)), (.int (0 : Int32))])) :: (r4, .inr (.boolean, [(.int (0 : Int32)), (.int (0 : Int32)), (.int (0 : Int32))])) :: (r5, .inr (.boolean, [(.int (0 : Int32)), (.int (0 : Int32)), (.int (0 : Int32))])) :: RR) (fun v L' => v = none ∧ L' = ((r0, ob0 (.ref r2) (.ref r3) (.ref r4) (.ref r5) (.int (0 : Int32))) :: (r2, .inr (.boolean, [(.int (0 : Int32)), (.int p1), (.int (0 : Int32))])) :: (r3, .inr (.int, [(.int (0 : Int32)), (.int (0 : Int32)), (.int (0 : Int32))])) :: (r4, .inr (.boolean, [(.int (0 : Int32)), (.int (0 : Int32)), (.int (0 : Int32))])) :: (r5, .inr (.boolean, [(.int (0 : Int32)), (.int (1 : Int32)), (.int (0 : Int32))])) :: RR)) := by
  refine Triple.of_body (tbl := tables_1) (a0 := a0) (Ls := #[.val (.ref r0), .val (.int (1 : Int32)), .val (.int p1)]) pn_3 hw rfl ?_
  intro p e s m below meth c T A
  refine A.aloadN (q := 1) d3_0 rfl rfl rfl ?_
  refine A.getF (q := 4) (w := 18) (i := 0) (j := 3) d3_1 rfl rfl rfl rfl ?_
  intro T A
  refine A.iloadN (q := 5) d3_4 rfl rfl ?_
  refine A.iconst (q := 6) (v := (1 : Int32)) d3_5 rfl (by decide) ?_
  refine A.bastoreZ (q := 7) (i := 4) (x' := (1 : Int32)) (L' := ((r0, ob0 (.ref r2) (.ref r3) (.ref r4) (.ref r5) (.int (0 : Int32))) :: (r2, .inr (.boolean, [(.int (0 : Int32)), (.int (0 : Int32)), (.int (0 : Int32))])) :: (r3, .inr (.int, [(.int (0 : Int32)), (.int (0 : Int32)), (.int (0 : Int32))])) :: (r4, .inr (.boolean, [(.int (0 : Int32)), (.int (0 : Int32)), (.int (0 : Int32))])) :: (r5, .inr (.boolean, [(.int (0 : Int32)), (.int (1 : Int32)), (.int (0 : Int32))])) :: RR)) d3_6 rfl rfl (by decide) (by show Int32.toNatClampNeg (1 : Int32) < 3; decide) (by decide) rfl ?_
  intro T A
  refine A.aloadN (q := 8) d3_7 rfl rfl rfl ?_
  refine A.getF (q := 11) (w := 11) (i := 0) (j := 0) d3_8 rfl rfl rfl rfl ?_
  intro T A
  refine A.iloadN (q := 12) d3_11 rfl rfl ?_
  refine A.iloadN (q := 13) d3_12 rfl rfl ?_
  refine A.bastoreZ (q := 14) (i := 1) (x' := p1) (L' := ((r0, ob0 (.ref r2) (.ref r3) (.ref r4) (.ref r5) (.int (0 : Int32))) :: (r2, .inr (.boolean, [(.int (0 : Int32)), (.int p1), (.int (0 : Int32))])) :: (r3, .inr (.int, [(.int (0 : Int32)), (.int (0 : Int32)), (.int (0 : Int32))])) :: (r4, .inr (.boolean, [(.int (0 : Int32)), (.int (0 : Int32)), (.int (0 : Int32))])) :: (r5, .inr (.boolean, [(.int (0 : Int32)), (.int (1 : Int32)), (.int (0 : Int32))])) :: RR)) d3_13 rfl rfl (by decide) (by show Int32.toNatClampNeg (1 : Int32) < 3; decide) z_p1 rfl ?_
  intro T A
  exact A.retV d3_14 (by decide) (by decide) ⟨rfl, rfl⟩
set_option maxRecDepth 65536 in
set_option maxHeartbeats 8000000 in
theorem rm3_4 (l : Launch) (Z : State) (a0 : Array Value) (hw : ∀ d ∈ tables_1, d.before a0 Z = true) (n0 : Nat) (r0 : Addr) (p1 : Int32) (r2 : Addr) (r3 : Addr) (r4 : Addr) (r5 : Addr) (p6 : Int32) (p7 : Int32) (RR : Obs) (z_p1 : nar .boolean p1 = p1) (z_p6 : nar .boolean p6 = p6) (z_p7 : nar .boolean p7 = p7) :
    Triple l Z n0 (⟨"com/example/proof_of_scan/proofofscan/Choices", "hold", "(IZ)V"⟩ : MethodName) prog_2_method_2_code 3 none ({ frames := 0, cells := 0, slots := 0, locals := 0 } : Room) 0 0 [(.ref r0), (.int (1 : Int32)), (.int p1)] ((r0, ob0 (.ref r2) (.ref r3) (.ref r4) (.ref r5) (.int (0 : Int32))) :: (r2, .inr (.boolean, [(.int (0 : Int32)), (.int p6), (.int (0 : Int32))])) :: (r3, .inr (.int, [(.int (0 : Int32)), (.int (0 : Int32)), (.int (0 : Int32))])) :: (r4, .inr (.boolean, [(.int (0 : Int32)), (.int (0 : Int32)), (.int (0 : Int32))])) :: (r5, .inr (.boolean, [(.int (0 : Int32)), (.int p7), (.int (0 : Int32))])) :: RR) (fun v L' => v = none ∧ L' = ((r0, ob0 (.ref r2) (.ref r3) (.ref r4) (.ref r5) (.int (0 : Int32))) :: (r2, .inr (.boolean, [(.int (0 : Int32)), (.int p1), (.int (0 : Int32))])) :: (r3, .inr (.int, [(.int (0 : Int32)), (.int (0 : Int32)), (.int (0 : Int32))])) :: (r4, .inr (.boolean, [(.int (0 : Int32)), (.int (0 : Int32)), (.int (0 : Int32))])) :: (r5, .inr (.boolean, [(.int (0 : Int32)), (.int (1 : Int32)), (.int (0 : Int32))])) :: RR)) := by
  refine Triple.of_body (tbl := tables_1) (a0 := a0) (Ls := #[.val (.ref r0), .val (.int (1 : Int32)), .val (.int p1)]) pn_3 hw rfl ?_
  intro p e s m below meth c T A
  refine A.aloadN (q := 1) d3_0 rfl rfl rfl ?_
  refine A.getF (q := 4) (w := 18) (i := 0) (j := 3) d3_1 rfl rfl rfl rfl ?_
  intro T A
  refine A.iloadN (q := 5) d3_4 rfl rfl ?_
  refine A.iconst (q := 6) (v := (1 : Int32)) d3_5 rfl (by decide) ?_
  refine A.bastoreZ (q := 7) (i := 4) (x' := (1 : Int32)) (L' := ((r0, ob0 (.ref r2) (.ref r3) (.ref r4) (.ref r5) (.int (0 : Int32))) :: (r2, .inr (.boolean, [(.int (0 : Int32)), (.int p6), (.int (0 : Int32))])) :: (r3, .inr (.int, [(.int (0 : Int32)), (.int (0 : Int32)), (.int (0 : Int32))])) :: (r4, .inr (.boolean, [(.int (0 : Int32)), (.int (0 : Int32)), (.int (0 : Int32))])) :: (r5, .inr (.boolean, [(.int (0 : Int32)), (.int (1 : Int32)), (.int (0 : Int32))])) :: RR)) d3_6 rfl rfl (by decide) (by show Int32.toNatClampNeg (1 : Int32) < 3; decide) (by decide) rfl ?_
  intro T A
  refine A.aloadN (q := 8) d3_7 rfl rfl rfl ?_
  refine A.getF (q := 11) (w := 11) (i := 0) (j := 0) d3_8 rfl rfl rfl rfl ?_
  intro T A
  refine A.iloadN (q := 12) d3_11 rfl rfl ?_
  refine A.iloadN (q := 13) d3_12 rfl rfl ?_
  refine A.bastoreZ (q := 14) (i := 1) (x' := p1) (L' := ((r0, ob0 (.ref r2) (.ref r3) (.ref r4) (.ref r5) (.int (0 : Int32))) :: (r2, .inr (.boolean, [(.int (0 : Int32)), (.int p1), (.int (0 : Int32))])) :: (r3, .inr (.int, [(.int (0 : Int32)), (.int (0 : Int32)), (.int (0 : Int32))])) :: (r4, .inr (.boolean, [(.int (0 : Int32)), (.int (0 : Int32)), (.int (0 : Int32))])) :: (r5, .inr (.boolean, [(.int (0 : Int32)), (.int (1 : Int32)), (.int (0 : Int32))])) :: RR)) d3_13 rfl rfl (by decide) (by show Int32.toNatClampNeg (1 : Int32) < 3; decide) z_p1 rfl ?_
  intro T A
  exact A.retV d3_14 (by decide) (by decide) ⟨rfl, rfl⟩
set_option maxRecDepth 65536 in
set_option maxHeartbeats 8000000 in
theorem rm4_6 (l : Launch) (Z : State) (a0 : Array Value) (hw : ∀ d ∈ tables_1, d.before a0 Z = true) (n0 : Nat) (r0 : Addr) (r1 : Addr) (r2 : Addr) (r3 : Addr) (r4 : Addr) (p5 : Int32) (RR : Obs) (z_p5 : nar .boolean p5 = p5) :
    Triple l Z n0 (⟨"com/example/proof_of_scan/proofofscan/Choices", "values", "()[Z"⟩ : MethodName) prog_2_method_7_code 1 (some (.array .boolean)) ({ frames := 1, cells := 1, slots := 3, locals := 14 } : Room) 1 3 [(.ref r0)] ((r0, ob0 (.ref r1) (.ref r2) (.ref r3) (.ref r4) (.int (0 : Int32))) :: (r1, .inr (.boolean, [(.int (0 : Int32)), (.int p5), (.int (0 : Int32))])) :: (r2, .inr (.int, [(.int (0 : Int32)), (.int (0 : Int32)), (.int (0 : Int32))])) :: (r3, .inr (.boolean, [(.int (0 : Int32)), (.int (0 : Int32)), (.int (0 : Int32))])) :: (r4, .inr (.boolean, [(.int (0 : Int32)), (.int (1 : Int32)), (.int (0 : Int32))])) :: RR) (fun v L' => ∃ b1 : Addr, v = some (.ref b1) ∧ L' = ((b1, .inr (.boolean, [(.int (0 : Int32)), (.int p5), (.int (0 : Int32))])) :: (r0, ob0 (.ref r1) (.ref r2) (.ref r3) (.ref r4) (.int (0 : Int32))) :: (r1, .inr (.boolean, [(.int (0 : Int32)), (.int p5), (.int (0 : Int32))])) :: (r2, .inr (.int, [(.int (0 : Int32)), (.int (0 : Int32)), (.int (0 : Int32))])) :: (r3, .inr (.boolean, [(.int (0 : Int32)), (.int (0 : Int32)), (.int (0 : Int32))])) :: (r4, .inr (.boolean, [(.int (0 : Int32)), (.int (1 : Int32)), (.int (0 : Int32))])) :: RR)) := by
  refine Triple.of_body (tbl := tables_1) (a0 := a0) (Ls := #[.val (.ref r0)]) pn_4 hw rfl ?_
  intro p e s m below meth c T A
  refine A.aloadN (q := 1) d4_0 rfl rfl rfl ?_
  refine A.getF (q := 4) (w := 11) (i := 0) (j := 0) d4_1 rfl rfl rfl rfl ?_
  intro T A
  refine A.clone (q := 7) (i := 1) (w1 := 30) (w2 := 31) (w3 := 35) (w4 := 33) (w5 := 34) (w6 := 36) (W := 0) (cap := 3) (ad := "[Z") d4_4 rfl rfl (by decide) rfl rfl rfl rfl rfl rfl rfl rfl (by decide) (by decide) (Nat.le_refl _) (by decide) (by decide) ?_
  intro T b1 A
  refine A.castArr (q := 10) (w := 37) (i := 0) d4_7 rfl rfl rfl (by decide) ?_
  intro T A
  exact A.retA d4_10 rfl rfl rfl (by decide) (by decide) ⟨b1, rfl, rfl⟩
set_option maxRecDepth 65536 in
set_option maxHeartbeats 8000000 in
theorem rm5_4 (l : Launch) (Z : State) (a0 : Array Value) (hw : ∀ d ∈ tables_1, d.before a0 Z = true) (n0 : Nat) (r0 : Addr) (p1 : Int32) (RR : Obs) (z_p1 : nar .boolean p1 = p1) :
    Triple l Z n0 (⟨"com/example/proof_of_scan/proofofscan/ChoicesHoldPinLaw", "same", "([ZIZI)Z"⟩ : MethodName) method_2_code 7 (some .boolean) ({ frames := 0, cells := 0, slots := 0, locals := 0 } : Room) 0 0 [(.ref r0), (.int (1 : Int32)), (.int p1), (.int (-1 : Int32))] ((r0, .inr (.boolean, [(.int (0 : Int32)), (.int p1), (.int (0 : Int32))])) :: RR) (fun v L' => v = some (.int (1 : Int32)) ∧ L' = ((r0, .inr (.boolean, [(.int (0 : Int32)), (.int p1), (.int (0 : Int32))])) :: RR)) := by
  refine Triple.of_body (tbl := tables_1) (a0 := a0) (Ls := #[.val (.ref r0), .val (.int (1 : Int32)), .val (.int p1), .val (.int (-1 : Int32)), .unset, .unset, .unset]) pn_5 hw rfl ?_
  intro p e s m below meth c T A
  refine A.aloadN (q := 1) d5_0 rfl rfl rfl ?_
  refine A.arraylength (q := 2) (i := 0) (v := (3 : Int32)) d5_1 rfl rfl (by show Nat.toInt32 3 = 3; decide) ?_
  refine A.iconst (q := 3) (v := (3 : Int32)) d5_2 rfl (by decide) ?_
  refine A.icmpT (r := 8) d5_3 (by decide) (by decide) ?_
  refine A.iconst (q := 9) (v := (0 : Int32)) d5_8 rfl (by decide) ?_
  refine A.iloadN (q := 10) d5_9 rfl rfl ?_
  refine A.icmpT (r := 17) d5_10 (by decide) (by decide) ?_
  refine A.iconst (q := 18) (v := (0 : Int32)) d5_17 rfl (by decide) ?_
  refine A.iloadN (q := 19) d5_18 rfl rfl ?_
  refine A.icmpT (r := 26) d5_19 (by decide) (by decide) ?_
  refine A.iconst (q := 27) (v := (0 : Int32)) d5_26 rfl (by decide) ?_
  refine A.istore (q := 29) (l' := #[.val (.ref r0), .val (.int (1 : Int32)), .val (.int p1), .val (.int (-1 : Int32)), .val (.int (0 : Int32)), .unset, .unset]) d5_27 rfl rfl ?_
  refine A.iconst (q := 30) (v := (1 : Int32)) d5_29 rfl (by decide) ?_
  refine A.iloadN (q := 31) d5_30 rfl rfl ?_
  refine A.icmpF (q := 34) d5_31 rfl (by decide) ?_
  refine A.iloadN (q := 35) d5_34 rfl rfl ?_
  refine A.goto (r := 48) d5_35 (by decide) ?_
  refine A.istore (q := 50) (l' := #[.val (.ref r0), .val (.int (1 : Int32)), .val (.int p1), .val (.int (-1 : Int32)), .val (.int (0 : Int32)), .val (.int p1), .unset]) d5_48 rfl rfl ?_
  refine A.iconst (q := 51) (v := (2 : Int32)) d5_50 rfl (by decide) ?_
  refine A.iloadN (q := 52) d5_51 rfl rfl ?_
  refine A.icmpT (r := 59) d5_52 (by decide) (by decide) ?_
  refine A.iconst (q := 60) (v := (2 : Int32)) d5_59 rfl (by decide) ?_
  refine A.iloadN (q := 61) d5_60 rfl rfl ?_
  refine A.icmpT (r := 68) d5_61 (by decide) (by decide) ?_
  refine A.iconst (q := 69) (v := (0 : Int32)) d5_68 rfl (by decide) ?_
  refine A.istore (q := 71) (l' := #[.val (.ref r0), .val (.int (1 : Int32)), .val (.int p1), .val (.int (-1 : Int32)), .val (.int (0 : Int32)), .val (.int p1), .val (.int (0 : Int32))]) d5_69 rfl rfl ?_
  refine A.aloadN (q := 72) d5_71 rfl rfl rfl ?_
  refine A.iconst (q := 73) (v := (0 : Int32)) d5_72 rfl (by decide) ?_
  refine A.baloadZ (q := 74) (i := 0) (v := (.int (0 : Int32))) d5_73 rfl rfl (by decide) rfl ?_
  refine A.iload (q := 76) d5_74 rfl rfl ?_
  refine A.icmpF (q := 79) d5_76 rfl (by decide) ?_
  refine A.aloadN (q := 80) d5_79 rfl rfl rfl ?_
  refine A.iconst (q := 81) (v := (1 : Int32)) d5_80 rfl (by decide) ?_
  refine A.baloadZ (q := 82) (i := 0) (v := (.int p1)) d5_81 rfl rfl (by decide) rfl ?_
  refine A.iload (q := 84) d5_82 rfl rfl ?_
  refine A.icmpF (q := 87) d5_84 rfl (teq rfl).2 ?_
  refine A.aloadN (q := 88) d5_87 rfl rfl rfl ?_
  refine A.iconst (q := 89) (v := (2 : Int32)) d5_88 rfl (by decide) ?_
  refine A.baloadZ (q := 90) (i := 0) (v := (.int (0 : Int32))) d5_89 rfl rfl (by decide) rfl ?_
  refine A.iload (q := 92) d5_90 rfl rfl ?_
  refine A.icmpF (q := 95) d5_92 rfl (by decide) ?_
  refine A.iconst (q := 96) (v := (1 : Int32)) d5_95 rfl (by decide) ?_
  refine A.goto (r := 100) d5_96 (by decide) ?_
  exact A.retZ (v := (1 : Int32)) d5_100 (by decide) (by decide) (by decide) ⟨rfl, rfl⟩
set_option maxRecDepth 65536 in
set_option maxHeartbeats 8000000 in
theorem rm6_6 (l : Launch) (Z : State) (a0 : Array Value) (hw : ∀ d ∈ tables_1, d.before a0 Z = true) (n0 : Nat) (r0 : Addr) (r1 : Addr) (r2 : Addr) (r3 : Addr) (r4 : Addr) (p5 : Int32) (RR : Obs) (z_p5 : nar .boolean p5 = p5) :
    Triple l Z n0 (⟨"com/example/proof_of_scan/proofofscan/Choices", "take", "(I)Z"⟩ : MethodName) prog_2_method_3_code 2 (some .boolean) ({ frames := 0, cells := 0, slots := 0, locals := 0 } : Room) 0 0 [(.ref r0), (.int (0 : Int32))] ((r0, ob0 (.ref r1) (.ref r2) (.ref r3) (.ref r4) (.int (0 : Int32))) :: (r1, .inr (.boolean, [(.int (0 : Int32)), (.int p5), (.int (0 : Int32))])) :: (r2, .inr (.int, [(.int (0 : Int32)), (.int (0 : Int32)), (.int (0 : Int32))])) :: (r3, .inr (.boolean, [(.int (0 : Int32)), (.int (0 : Int32)), (.int (0 : Int32))])) :: (r4, .inr (.boolean, [(.int (0 : Int32)), (.int (1 : Int32)), (.int (0 : Int32))])) :: RR) (fun v L' => v = some (.int (0 : Int32)) ∧ L' = ((r0, ob0 (.ref r1) (.ref r2) (.ref r3) (.ref r4) (.int (1 : Int32))) :: (r1, .inr (.boolean, [(.int (0 : Int32)), (.int p5), (.int (0 : Int32))])) :: (r2, .inr (.int, [(.int (0 : Int32)), (.int (0 : Int32)), (.int (0 : Int32))])) :: (r3, .inr (.boolean, [(.int (1 : Int32)), (.int (0 : Int32)), (.int (0 : Int32))])) :: (r4, .inr (.boolean, [(.int (0 : Int32)), (.int (1 : Int32)), (.int (0 : Int32))])) :: RR)) := by
  refine Triple.of_body (tbl := tables_1) (a0 := a0) (Ls := #[.val (.ref r0), .val (.int (0 : Int32))]) pn_6 hw rfl ?_
  intro p e s m below meth c T A
  refine A.aloadN (q := 1) d6_0 rfl rfl rfl ?_
  refine A.getF (q := 4) (w := 16) (i := 0) (j := 2) d6_1 rfl rfl rfl rfl ?_
  intro T A
  refine A.iloadN (q := 5) d6_4 rfl rfl ?_
  refine A.baloadZ (q := 6) (i := 3) (v := (.int (0 : Int32))) d6_5 rfl rfl (by decide) rfl ?_
  refine A.ifF (q := 9) d6_6 rfl (by decide) ?_
  refine A.aloadN (q := 10) d6_9 rfl rfl rfl ?_
  refine A.getF (q := 13) (w := 18) (i := 0) (j := 3) d6_10 rfl rfl rfl rfl ?_
  intro T A
  refine A.iloadN (q := 14) d6_13 rfl rfl ?_
  refine A.baloadZ (q := 15) (i := 4) (v := (.int (0 : Int32))) d6_14 rfl rfl (by decide) rfl ?_
  refine A.ifF (q := 18) d6_15 rfl (by decide) ?_
  refine A.aloadN (q := 19) d6_18 rfl rfl rfl ?_
  refine A.getF (q := 22) (w := 16) (i := 0) (j := 2) d6_19 rfl rfl rfl rfl ?_
  intro T A
  refine A.iloadN (q := 23) d6_22 rfl rfl ?_
  refine A.iconst (q := 24) (v := (1 : Int32)) d6_23 rfl (by decide) ?_
  refine A.bastoreZ (q := 25) (i := 3) (x' := (1 : Int32)) (L' := ((r0, ob0 (.ref r1) (.ref r2) (.ref r3) (.ref r4) (.int (0 : Int32))) :: (r1, .inr (.boolean, [(.int (0 : Int32)), (.int p5), (.int (0 : Int32))])) :: (r2, .inr (.int, [(.int (0 : Int32)), (.int (0 : Int32)), (.int (0 : Int32))])) :: (r3, .inr (.boolean, [(.int (1 : Int32)), (.int (0 : Int32)), (.int (0 : Int32))])) :: (r4, .inr (.boolean, [(.int (0 : Int32)), (.int (1 : Int32)), (.int (0 : Int32))])) :: RR)) d6_24 rfl rfl (by decide) (by show Int32.toNatClampNeg (0 : Int32) < 3; decide) (by decide) rfl ?_
  intro T A
  refine A.aloadN (q := 26) d6_25 rfl rfl rfl ?_
  refine A.getF (q := 29) (w := 14) (i := 0) (j := 1) d6_26 rfl rfl rfl rfl ?_
  intro T A
  refine A.aloadN (q := 30) d6_29 rfl rfl rfl ?_
  refine A.dup (q := 31) d6_30 rfl rfl ?_
  refine A.getF (q := 34) (w := 53) (i := 0) (j := 4) d6_31 rfl rfl rfl rfl ?_
  intro T A
  refine A.dup_x1 (q := 35) d6_34 rfl rfl rfl ?_
  refine A.iconst (q := 36) (v := (1 : Int32)) d6_35 rfl (by decide) ?_
  refine A.iadd (q := 37) (v := (1 : Int32)) d6_36 rfl (by decide) ?_
  refine A.putF (q := 40) (w := 53) (w2 := 54) (w3 := 2) (i := 0) (j := 4) (ty := .int) (v' := (.int (1 : Int32))) (L' := ((r0, ob0 (.ref r1) (.ref r2) (.ref r3) (.ref r4) (.int (1 : Int32))) :: (r1, .inr (.boolean, [(.int (0 : Int32)), (.int p5), (.int (0 : Int32))])) :: (r2, .inr (.int, [(.int (0 : Int32)), (.int (0 : Int32)), (.int (0 : Int32))])) :: (r3, .inr (.boolean, [(.int (1 : Int32)), (.int (0 : Int32)), (.int (0 : Int32))])) :: (r4, .inr (.boolean, [(.int (0 : Int32)), (.int (1 : Int32)), (.int (0 : Int32))])) :: RR)) d6_37 rfl rfl rfl rfl (lay_0 Z a0 hw) (Or.inl rfl) rfl (by decide) rfl rfl rfl ?_
  intro T A
  refine A.iloadN (q := 41) d6_40 rfl rfl ?_
  refine A.iastore (q := 42) (i := 2) (x' := (0 : Int32)) (L' := ((r0, ob0 (.ref r1) (.ref r2) (.ref r3) (.ref r4) (.int (1 : Int32))) :: (r1, .inr (.boolean, [(.int (0 : Int32)), (.int p5), (.int (0 : Int32))])) :: (r2, .inr (.int, [(.int (0 : Int32)), (.int (0 : Int32)), (.int (0 : Int32))])) :: (r3, .inr (.boolean, [(.int (1 : Int32)), (.int (0 : Int32)), (.int (0 : Int32))])) :: (r4, .inr (.boolean, [(.int (0 : Int32)), (.int (1 : Int32)), (.int (0 : Int32))])) :: RR)) d6_41 rfl rfl (by decide) (by show Int32.toNatClampNeg (0 : Int32) < 3; decide) rfl rfl ?_
  intro T A
  refine A.aloadN (q := 43) d6_42 rfl rfl rfl ?_
  refine A.getF (q := 46) (w := 11) (i := 0) (j := 0) d6_43 rfl rfl rfl rfl ?_
  intro T A
  refine A.iloadN (q := 47) d6_46 rfl rfl ?_
  refine A.baloadZ (q := 48) (i := 1) (v := (.int (0 : Int32))) d6_47 rfl rfl (by decide) rfl ?_
  exact A.retZ (v := (0 : Int32)) d6_48 (by decide) (by decide) (by decide) ⟨rfl, rfl⟩
set_option maxRecDepth 65536 in
set_option maxHeartbeats 8000000 in
theorem rm6_7 (l : Launch) (Z : State) (a0 : Array Value) (hw : ∀ d ∈ tables_1, d.before a0 Z = true) (n0 : Nat) (r0 : Addr) (r1 : Addr) (r2 : Addr) (r3 : Addr) (r4 : Addr) (p5 : Int32) (RR : Obs) (z_p5 : nar .boolean p5 = p5) :
    Triple l Z n0 (⟨"com/example/proof_of_scan/proofofscan/Choices", "take", "(I)Z"⟩ : MethodName) prog_2_method_3_code 2 (some .boolean) ({ frames := 0, cells := 0, slots := 0, locals := 0 } : Room) 0 0 [(.ref r0), (.int (1 : Int32))] ((r0, ob0 (.ref r1) (.ref r2) (.ref r3) (.ref r4) (.int (1 : Int32))) :: (r1, .inr (.boolean, [(.int (0 : Int32)), (.int p5), (.int (0 : Int32))])) :: (r2, .inr (.int, [(.int (0 : Int32)), (.int (0 : Int32)), (.int (0 : Int32))])) :: (r3, .inr (.boolean, [(.int (1 : Int32)), (.int (0 : Int32)), (.int (0 : Int32))])) :: (r4, .inr (.boolean, [(.int (0 : Int32)), (.int (1 : Int32)), (.int (0 : Int32))])) :: RR) (fun v L' => v = some (.int p5) ∧ L' = ((r0, ob0 (.ref r1) (.ref r2) (.ref r3) (.ref r4) (.int (1 : Int32))) :: (r1, .inr (.boolean, [(.int (0 : Int32)), (.int p5), (.int (0 : Int32))])) :: (r2, .inr (.int, [(.int (0 : Int32)), (.int (0 : Int32)), (.int (0 : Int32))])) :: (r3, .inr (.boolean, [(.int (1 : Int32)), (.int (0 : Int32)), (.int (0 : Int32))])) :: (r4, .inr (.boolean, [(.int (0 : Int32)), (.int (1 : Int32)), (.int (0 : Int32))])) :: RR)) := by
  refine Triple.of_body (tbl := tables_1) (a0 := a0) (Ls := #[.val (.ref r0), .val (.int (1 : Int32))]) pn_6 hw rfl ?_
  intro p e s m below meth c T A
  refine A.aloadN (q := 1) d6_0 rfl rfl rfl ?_
  refine A.getF (q := 4) (w := 16) (i := 0) (j := 2) d6_1 rfl rfl rfl rfl ?_
  intro T A
  refine A.iloadN (q := 5) d6_4 rfl rfl ?_
  refine A.baloadZ (q := 6) (i := 3) (v := (.int (0 : Int32))) d6_5 rfl rfl (by decide) rfl ?_
  refine A.ifF (q := 9) d6_6 rfl (by decide) ?_
  refine A.aloadN (q := 10) d6_9 rfl rfl rfl ?_
  refine A.getF (q := 13) (w := 18) (i := 0) (j := 3) d6_10 rfl rfl rfl rfl ?_
  intro T A
  refine A.iloadN (q := 14) d6_13 rfl rfl ?_
  refine A.baloadZ (q := 15) (i := 4) (v := (.int (1 : Int32))) d6_14 rfl rfl (by decide) rfl ?_
  refine A.ifT (r := 42) d6_15 (by decide) (by decide) ?_
  refine A.aloadN (q := 43) d6_42 rfl rfl rfl ?_
  refine A.getF (q := 46) (w := 11) (i := 0) (j := 0) d6_43 rfl rfl rfl rfl ?_
  intro T A
  refine A.iloadN (q := 47) d6_46 rfl rfl ?_
  refine A.baloadZ (q := 48) (i := 1) (v := (.int p5)) d6_47 rfl rfl (by decide) rfl ?_
  exact A.retZ (v := p5) d6_48 z_p5 (by decide) (by decide) ⟨rfl, rfl⟩
set_option maxRecDepth 65536 in
set_option maxHeartbeats 8000000 in
theorem rm9_6 (l : Launch) (Z : State) (a0 : Array Value) (hw : ∀ d ∈ tables_1, d.before a0 Z = true) (n0 : Nat) (r0 : Addr) (r1 : Addr) (r2 : Addr) (r3 : Addr) (r4 : Addr) (p5 : Int32) (RR : Obs) (z_p5 : nar .boolean p5 = p5) :
    Triple l Z n0 (⟨"com/example/proof_of_scan/proofofscan/Choices", "forgetTaken", "()V"⟩ : MethodName) prog_2_method_10_code 2 none ({ frames := 0, cells := 0, slots := 0, locals := 0 } : Room) 0 0 [(.ref r0)] ((r0, ob0 (.ref r1) (.ref r2) (.ref r3) (.ref r4) (.int (1 : Int32))) :: (r1, .inr (.boolean, [(.int (1 : Int32)), (.int p5), (.int (0 : Int32))])) :: (r2, .inr (.int, [(.int (0 : Int32)), (.int (0 : Int32)), (.int (0 : Int32))])) :: (r3, .inr (.boolean, [(.int (1 : Int32)), (.int (0 : Int32)), (.int (0 : Int32))])) :: (r4, .inr (.boolean, [(.int (0 : Int32)), (.int (1 : Int32)), (.int (0 : Int32))])) :: RR) (fun v L' => v = none ∧ L' = ((r0, ob0 (.ref r1) (.ref r2) (.ref r3) (.ref r4) (.int (0 : Int32))) :: (r1, .inr (.boolean, [(.int (1 : Int32)), (.int p5), (.int (0 : Int32))])) :: (r2, .inr (.int, [(.int (0 : Int32)), (.int (0 : Int32)), (.int (0 : Int32))])) :: (r3, .inr (.boolean, [(.int (0 : Int32)), (.int (0 : Int32)), (.int (0 : Int32))])) :: (r4, .inr (.boolean, [(.int (0 : Int32)), (.int (1 : Int32)), (.int (0 : Int32))])) :: RR)) := by
  refine Triple.of_body (tbl := tables_1) (a0 := a0) (Ls := #[.val (.ref r0), .unset]) pn_9 hw rfl ?_
  intro p e s m below meth c T A
  refine A.iconst (q := 1) (v := (0 : Int32)) d9_0 rfl (by decide) ?_
  refine A.istoreN (q := 2) (l' := #[.val (.ref r0), .val (.int (0 : Int32))]) d9_1 rfl rfl ?_
  refine A.iloadN (q := 3) d9_2 rfl rfl ?_
  refine A.aloadN (q := 4) d9_3 rfl rfl rfl ?_
  refine A.getF (q := 7) (w := 53) (i := 0) (j := 4) d9_4 rfl rfl rfl rfl ?_
  intro T A
  refine A.icmpF (q := 10) d9_7 rfl (by decide) ?_
  refine A.aloadN (q := 11) d9_10 rfl rfl rfl ?_
  refine A.getF (q := 14) (w := 16) (i := 0) (j := 2) d9_11 rfl rfl rfl rfl ?_
  intro T A
  refine A.aloadN (q := 15) d9_14 rfl rfl rfl ?_
  refine A.getF (q := 18) (w := 14) (i := 0) (j := 1) d9_15 rfl rfl rfl rfl ?_
  intro T A
  refine A.iloadN (q := 19) d9_18 rfl rfl ?_
  refine A.iaload (q := 20) (i := 2) (v := (.int (0 : Int32))) d9_19 rfl rfl (by decide) rfl ?_
  refine A.iconst (q := 21) (v := (0 : Int32)) d9_20 rfl (by decide) ?_
  refine A.bastoreZ (q := 22) (i := 3) (x' := (0 : Int32)) (L' := ((r0, ob0 (.ref r1) (.ref r2) (.ref r3) (.ref r4) (.int (1 : Int32))) :: (r1, .inr (.boolean, [(.int (1 : Int32)), (.int p5), (.int (0 : Int32))])) :: (r2, .inr (.int, [(.int (0 : Int32)), (.int (0 : Int32)), (.int (0 : Int32))])) :: (r3, .inr (.boolean, [(.int (0 : Int32)), (.int (0 : Int32)), (.int (0 : Int32))])) :: (r4, .inr (.boolean, [(.int (0 : Int32)), (.int (1 : Int32)), (.int (0 : Int32))])) :: RR)) d9_21 rfl rfl (by decide) (by show Int32.toNatClampNeg (0 : Int32) < 3; decide) (by decide) rfl ?_
  intro T A
  refine A.iinc (q := 25) (v := (1 : Int32)) (l' := #[.val (.ref r0), .val (.int (1 : Int32))]) d9_22 rfl rfl (by decide) rfl ?_
  refine A.goto (r := 2) d9_25 (by decide) ?_
  refine A.iloadN (q := 3) d9_2 rfl rfl ?_
  refine A.aloadN (q := 4) d9_3 rfl rfl rfl ?_
  refine A.getF (q := 7) (w := 53) (i := 0) (j := 4) d9_4 rfl rfl rfl rfl ?_
  intro T A
  refine A.icmpT (r := 28) d9_7 (by decide) (by decide) ?_
  refine A.aloadN (q := 29) d9_28 rfl rfl rfl ?_
  refine A.iconst (q := 30) (v := (0 : Int32)) d9_29 rfl (by decide) ?_
  refine A.putF (q := 33) (w := 53) (w2 := 54) (w3 := 2) (i := 0) (j := 4) (ty := .int) (v' := (.int (0 : Int32))) (L' := ((r0, ob0 (.ref r1) (.ref r2) (.ref r3) (.ref r4) (.int (0 : Int32))) :: (r1, .inr (.boolean, [(.int (1 : Int32)), (.int p5), (.int (0 : Int32))])) :: (r2, .inr (.int, [(.int (0 : Int32)), (.int (0 : Int32)), (.int (0 : Int32))])) :: (r3, .inr (.boolean, [(.int (0 : Int32)), (.int (0 : Int32)), (.int (0 : Int32))])) :: (r4, .inr (.boolean, [(.int (0 : Int32)), (.int (1 : Int32)), (.int (0 : Int32))])) :: RR)) d9_30 rfl rfl rfl rfl (lay_0 Z a0 hw) (Or.inl rfl) rfl (by decide) rfl rfl rfl ?_
  intro T A
  exact A.retV d9_33 (by decide) (by decide) ⟨rfl, rfl⟩
set_option maxRecDepth 65536 in
set_option maxHeartbeats 8000000 in
theorem rm7_4 (l : Launch) (Z : State) (a0 : Array Value) (hw : ∀ d ∈ tables_1, d.before a0 Z = true) (n0 : Nat) (r0 : Addr) (r1 : Addr) (r2 : Addr) (r3 : Addr) (r4 : Addr) (p5 : Int32) (RR : Obs) (z_p5 : nar .boolean p5 = p5) :
    Triple l Z n0 (⟨"com/example/proof_of_scan/proofofscan/Choices", "next", "()Z"⟩ : MethodName) prog_2_method_9_code 3 (some .boolean) ({ frames := 1, cells := 0, slots := 0, locals := 13 } : Room) 0 0 [(.ref r0)] ((r0, ob0 (.ref r1) (.ref r2) (.ref r3) (.ref r4) (.int (1 : Int32))) :: (r1, .inr (.boolean, [(.int (0 : Int32)), (.int p5), (.int (0 : Int32))])) :: (r2, .inr (.int, [(.int (0 : Int32)), (.int (0 : Int32)), (.int (0 : Int32))])) :: (r3, .inr (.boolean, [(.int (1 : Int32)), (.int (0 : Int32)), (.int (0 : Int32))])) :: (r4, .inr (.boolean, [(.int (0 : Int32)), (.int (1 : Int32)), (.int (0 : Int32))])) :: RR) (fun v L' => v = some (.int (1 : Int32)) ∧ L' = ((r0, ob0 (.ref r1) (.ref r2) (.ref r3) (.ref r4) (.int (0 : Int32))) :: (r1, .inr (.boolean, [(.int (1 : Int32)), (.int p5), (.int (0 : Int32))])) :: (r2, .inr (.int, [(.int (0 : Int32)), (.int (0 : Int32)), (.int (0 : Int32))])) :: (r3, .inr (.boolean, [(.int (0 : Int32)), (.int (0 : Int32)), (.int (0 : Int32))])) :: (r4, .inr (.boolean, [(.int (0 : Int32)), (.int (1 : Int32)), (.int (0 : Int32))])) :: RR)) := by
  refine Triple.of_body (tbl := tables_1) (a0 := a0) (Ls := #[.val (.ref r0), .unset, .unset]) pn_7 hw rfl ?_
  intro p e s m below meth c T A
  refine A.aloadN (q := 1) d7_0 rfl rfl rfl ?_
  refine A.getF (q := 4) (w := 53) (i := 0) (j := 4) d7_1 rfl rfl rfl rfl ?_
  intro T A
  refine A.iconst (q := 5) (v := (1 : Int32)) d7_4 rfl (by decide) ?_
  refine A.isub (q := 6) (v := (0 : Int32)) d7_5 rfl (by decide) ?_
  refine A.istoreN (q := 7) (l' := #[.val (.ref r0), .val (.int (0 : Int32)), .unset]) d7_6 rfl rfl ?_
  refine A.iloadN (q := 8) d7_7 rfl rfl ?_
  refine A.ifF (q := 11) d7_8 rfl (by decide) ?_
  refine A.aloadN (q := 12) d7_11 rfl rfl rfl ?_
  refine A.getF (q := 15) (w := 11) (i := 0) (j := 0) d7_12 rfl rfl rfl rfl ?_
  intro T A
  refine A.aloadN (q := 16) d7_15 rfl rfl rfl ?_
  refine A.getF (q := 19) (w := 14) (i := 0) (j := 1) d7_16 rfl rfl rfl rfl ?_
  intro T A
  refine A.iloadN (q := 20) d7_19 rfl rfl ?_
  refine A.iaload (q := 21) (i := 2) (v := (.int (0 : Int32))) d7_20 rfl rfl (by decide) rfl ?_
  refine A.baloadZ (q := 22) (i := 1) (v := (.int (0 : Int32))) d7_21 rfl rfl (by decide) rfl ?_
  refine A.ifT (r := 31) d7_22 (by decide) (by decide) ?_
  refine A.iloadN (q := 32) d7_31 rfl rfl ?_
  refine A.ifT (r := 37) d7_32 (by decide) (by decide) ?_
  refine A.aloadN (q := 38) d7_37 rfl rfl rfl ?_
  refine A.getF (q := 41) (w := 11) (i := 0) (j := 0) d7_38 rfl rfl rfl rfl ?_
  intro T A
  refine A.aloadN (q := 42) d7_41 rfl rfl rfl ?_
  refine A.getF (q := 45) (w := 14) (i := 0) (j := 1) d7_42 rfl rfl rfl rfl ?_
  intro T A
  refine A.iloadN (q := 46) d7_45 rfl rfl ?_
  refine A.iaload (q := 47) (i := 2) (v := (.int (0 : Int32))) d7_46 rfl rfl (by decide) rfl ?_
  refine A.iconst (q := 48) (v := (1 : Int32)) d7_47 rfl (by decide) ?_
  refine A.bastoreZ (q := 49) (i := 1) (x' := (1 : Int32)) (L' := ((r0, ob0 (.ref r1) (.ref r2) (.ref r3) (.ref r4) (.int (1 : Int32))) :: (r1, .inr (.boolean, [(.int (1 : Int32)), (.int p5), (.int (0 : Int32))])) :: (r2, .inr (.int, [(.int (0 : Int32)), (.int (0 : Int32)), (.int (0 : Int32))])) :: (r3, .inr (.boolean, [(.int (1 : Int32)), (.int (0 : Int32)), (.int (0 : Int32))])) :: (r4, .inr (.boolean, [(.int (0 : Int32)), (.int (1 : Int32)), (.int (0 : Int32))])) :: RR)) d7_48 rfl rfl (by decide) (by show Int32.toNatClampNeg (0 : Int32) < 3; decide) (by decide) rfl ?_
  intro T A
  refine A.iloadN (q := 50) d7_49 rfl rfl ?_
  refine A.iconst (q := 51) (v := (1 : Int32)) d7_50 rfl (by decide) ?_
  refine A.iadd (q := 52) (v := (1 : Int32)) d7_51 rfl (by decide) ?_
  refine A.istoreN (q := 53) (l' := #[.val (.ref r0), .val (.int (0 : Int32)), .val (.int (1 : Int32))]) d7_52 rfl rfl ?_
  refine A.iloadN (q := 54) d7_53 rfl rfl ?_
  refine A.aloadN (q := 55) d7_54 rfl rfl rfl ?_
  refine A.getF (q := 58) (w := 53) (i := 0) (j := 4) d7_55 rfl rfl rfl rfl ?_
  intro T A
  refine A.icmpT (r := 79) d7_58 (by decide) (by decide) ?_
  refine A.aloadN (q := 80) d7_79 rfl rfl rfl ?_
  refine A.callP (q := 83) (i := 0) (w1 := 60) (w2 := 62) (w3 := 3) (w4 := 63) (w5 := 2) (w6 := 61) (a := r0) (as := []) (st := []) (W := 0) d7_80 rfl rfl rfl rfl rfl rfl rfl rfl (rm9_6 l Z a0 hw n0 r0 r1 r2 r3 r4 p5 _ z_p5) (by decide) ⟨_, _, pd_6, rfl⟩ rfl rfl rfl (by decide) (by decide) (by decide) (by decide) ?_
  rintro _ T _ ⟨rfl, rfl⟩ A
  show Go p e below _ (T.setTop (mkF m 83 #[.val (.ref r0), .val (.int (0 : Int32)), .val (.int (1 : Int32))] []))
  refine A.iconst (q := 84) (v := (1 : Int32)) d7_83 rfl (by decide) ?_
  exact A.retZ (v := (1 : Int32)) d7_84 (by decide) (by decide) (by decide) ⟨rfl, rfl⟩
set_option maxRecDepth 65536 in
set_option maxHeartbeats 8000000 in
theorem rm4_7 (l : Launch) (Z : State) (a0 : Array Value) (hw : ∀ d ∈ tables_1, d.before a0 Z = true) (n0 : Nat) (r0 : Addr) (r1 : Addr) (r2 : Addr) (r3 : Addr) (r4 : Addr) (p5 : Int32) (RR : Obs) (z_p5 : nar .boolean p5 = p5) :
    Triple l Z n0 (⟨"com/example/proof_of_scan/proofofscan/Choices", "values", "()[Z"⟩ : MethodName) prog_2_method_7_code 1 (some (.array .boolean)) ({ frames := 1, cells := 1, slots := 3, locals := 14 } : Room) 1 3 [(.ref r0)] ((r0, ob0 (.ref r1) (.ref r2) (.ref r3) (.ref r4) (.int (0 : Int32))) :: (r1, .inr (.boolean, [(.int (1 : Int32)), (.int p5), (.int (0 : Int32))])) :: (r2, .inr (.int, [(.int (0 : Int32)), (.int (0 : Int32)), (.int (0 : Int32))])) :: (r3, .inr (.boolean, [(.int (0 : Int32)), (.int (0 : Int32)), (.int (0 : Int32))])) :: (r4, .inr (.boolean, [(.int (0 : Int32)), (.int (1 : Int32)), (.int (0 : Int32))])) :: RR) (fun v L' => ∃ b1 : Addr, v = some (.ref b1) ∧ L' = ((b1, .inr (.boolean, [(.int (1 : Int32)), (.int p5), (.int (0 : Int32))])) :: (r0, ob0 (.ref r1) (.ref r2) (.ref r3) (.ref r4) (.int (0 : Int32))) :: (r1, .inr (.boolean, [(.int (1 : Int32)), (.int p5), (.int (0 : Int32))])) :: (r2, .inr (.int, [(.int (0 : Int32)), (.int (0 : Int32)), (.int (0 : Int32))])) :: (r3, .inr (.boolean, [(.int (0 : Int32)), (.int (0 : Int32)), (.int (0 : Int32))])) :: (r4, .inr (.boolean, [(.int (0 : Int32)), (.int (1 : Int32)), (.int (0 : Int32))])) :: RR)) := by
  refine Triple.of_body (tbl := tables_1) (a0 := a0) (Ls := #[.val (.ref r0)]) pn_4 hw rfl ?_
  intro p e s m below meth c T A
  refine A.aloadN (q := 1) d4_0 rfl rfl rfl ?_
  refine A.getF (q := 4) (w := 11) (i := 0) (j := 0) d4_1 rfl rfl rfl rfl ?_
  intro T A
  refine A.clone (q := 7) (i := 1) (w1 := 30) (w2 := 31) (w3 := 35) (w4 := 33) (w5 := 34) (w6 := 36) (W := 0) (cap := 3) (ad := "[Z") d4_4 rfl rfl (by decide) rfl rfl rfl rfl rfl rfl rfl rfl (by decide) (by decide) (Nat.le_refl _) (by decide) (by decide) ?_
  intro T b1 A
  refine A.castArr (q := 10) (w := 37) (i := 0) d4_7 rfl rfl rfl (by decide) ?_
  intro T A
  exact A.retA d4_10 rfl rfl rfl (by decide) (by decide) ⟨b1, rfl, rfl⟩
set_option maxRecDepth 65536 in
set_option maxHeartbeats 8000000 in
theorem rm5_5 (l : Launch) (Z : State) (a0 : Array Value) (hw : ∀ d ∈ tables_1, d.before a0 Z = true) (n0 : Nat) (r0 : Addr) (p1 : Int32) (RR : Obs) (z_p1 : nar .boolean p1 = p1) :
    Triple l Z n0 (⟨"com/example/proof_of_scan/proofofscan/ChoicesHoldPinLaw", "same", "([ZIZI)Z"⟩ : MethodName) method_2_code 7 (some .boolean) ({ frames := 0, cells := 0, slots := 0, locals := 0 } : Room) 0 0 [(.ref r0), (.int (1 : Int32)), (.int p1), (.int (0 : Int32))] ((r0, .inr (.boolean, [(.int (1 : Int32)), (.int p1), (.int (0 : Int32))])) :: RR) (fun v L' => v = some (.int (1 : Int32)) ∧ L' = ((r0, .inr (.boolean, [(.int (1 : Int32)), (.int p1), (.int (0 : Int32))])) :: RR)) := by
  refine Triple.of_body (tbl := tables_1) (a0 := a0) (Ls := #[.val (.ref r0), .val (.int (1 : Int32)), .val (.int p1), .val (.int (0 : Int32)), .unset, .unset, .unset]) pn_5 hw rfl ?_
  intro p e s m below meth c T A
  refine A.aloadN (q := 1) d5_0 rfl rfl rfl ?_
  refine A.arraylength (q := 2) (i := 0) (v := (3 : Int32)) d5_1 rfl rfl (by show Nat.toInt32 3 = 3; decide) ?_
  refine A.iconst (q := 3) (v := (3 : Int32)) d5_2 rfl (by decide) ?_
  refine A.icmpT (r := 8) d5_3 (by decide) (by decide) ?_
  refine A.iconst (q := 9) (v := (0 : Int32)) d5_8 rfl (by decide) ?_
  refine A.iloadN (q := 10) d5_9 rfl rfl ?_
  refine A.icmpT (r := 17) d5_10 (by decide) (by decide) ?_
  refine A.iconst (q := 18) (v := (0 : Int32)) d5_17 rfl (by decide) ?_
  refine A.iloadN (q := 19) d5_18 rfl rfl ?_
  refine A.icmpF (q := 22) d5_19 rfl (by decide) ?_
  refine A.iconst (q := 23) (v := (1 : Int32)) d5_22 rfl (by decide) ?_
  refine A.goto (r := 27) d5_23 (by decide) ?_
  refine A.istore (q := 29) (l' := #[.val (.ref r0), .val (.int (1 : Int32)), .val (.int p1), .val (.int (0 : Int32)), .val (.int (1 : Int32)), .unset, .unset]) d5_27 rfl rfl ?_
  refine A.iconst (q := 30) (v := (1 : Int32)) d5_29 rfl (by decide) ?_
  refine A.iloadN (q := 31) d5_30 rfl rfl ?_
  refine A.icmpF (q := 34) d5_31 rfl (by decide) ?_
  refine A.iloadN (q := 35) d5_34 rfl rfl ?_
  refine A.goto (r := 48) d5_35 (by decide) ?_
  refine A.istore (q := 50) (l' := #[.val (.ref r0), .val (.int (1 : Int32)), .val (.int p1), .val (.int (0 : Int32)), .val (.int (1 : Int32)), .val (.int p1), .unset]) d5_48 rfl rfl ?_
  refine A.iconst (q := 51) (v := (2 : Int32)) d5_50 rfl (by decide) ?_
  refine A.iloadN (q := 52) d5_51 rfl rfl ?_
  refine A.icmpT (r := 59) d5_52 (by decide) (by decide) ?_
  refine A.iconst (q := 60) (v := (2 : Int32)) d5_59 rfl (by decide) ?_
  refine A.iloadN (q := 61) d5_60 rfl rfl ?_
  refine A.icmpT (r := 68) d5_61 (by decide) (by decide) ?_
  refine A.iconst (q := 69) (v := (0 : Int32)) d5_68 rfl (by decide) ?_
  refine A.istore (q := 71) (l' := #[.val (.ref r0), .val (.int (1 : Int32)), .val (.int p1), .val (.int (0 : Int32)), .val (.int (1 : Int32)), .val (.int p1), .val (.int (0 : Int32))]) d5_69 rfl rfl ?_
  refine A.aloadN (q := 72) d5_71 rfl rfl rfl ?_
  refine A.iconst (q := 73) (v := (0 : Int32)) d5_72 rfl (by decide) ?_
  refine A.baloadZ (q := 74) (i := 0) (v := (.int (1 : Int32))) d5_73 rfl rfl (by decide) rfl ?_
  refine A.iload (q := 76) d5_74 rfl rfl ?_
  refine A.icmpF (q := 79) d5_76 rfl (by decide) ?_
  refine A.aloadN (q := 80) d5_79 rfl rfl rfl ?_
  refine A.iconst (q := 81) (v := (1 : Int32)) d5_80 rfl (by decide) ?_
  refine A.baloadZ (q := 82) (i := 0) (v := (.int p1)) d5_81 rfl rfl (by decide) rfl ?_
  refine A.iload (q := 84) d5_82 rfl rfl ?_
  refine A.icmpF (q := 87) d5_84 rfl (teq rfl).2 ?_
  refine A.aloadN (q := 88) d5_87 rfl rfl rfl ?_
  refine A.iconst (q := 89) (v := (2 : Int32)) d5_88 rfl (by decide) ?_
  refine A.baloadZ (q := 90) (i := 0) (v := (.int (0 : Int32))) d5_89 rfl rfl (by decide) rfl ?_
  refine A.iload (q := 92) d5_90 rfl rfl ?_
  refine A.icmpF (q := 95) d5_92 rfl (by decide) ?_
  refine A.iconst (q := 96) (v := (1 : Int32)) d5_95 rfl (by decide) ?_
  refine A.goto (r := 100) d5_96 (by decide) ?_
  exact A.retZ (v := (1 : Int32)) d5_100 (by decide) (by decide) (by decide) ⟨rfl, rfl⟩
set_option maxRecDepth 65536 in
set_option maxHeartbeats 8000000 in
theorem rm9_7 (l : Launch) (Z : State) (a0 : Array Value) (hw : ∀ d ∈ tables_1, d.before a0 Z = true) (n0 : Nat) (r0 : Addr) (r1 : Addr) (r2 : Addr) (r3 : Addr) (r4 : Addr) (p5 : Int32) (RR : Obs) (z_p5 : nar .boolean p5 = p5) :
    Triple l Z n0 (⟨"com/example/proof_of_scan/proofofscan/Choices", "forgetTaken", "()V"⟩ : MethodName) prog_2_method_10_code 2 none ({ frames := 0, cells := 0, slots := 0, locals := 0 } : Room) 0 0 [(.ref r0)] ((r0, ob0 (.ref r1) (.ref r2) (.ref r3) (.ref r4) (.int (0 : Int32))) :: (r1, .inr (.boolean, [(.int (0 : Int32)), (.int p5), (.int (0 : Int32))])) :: (r2, .inr (.int, [(.int (0 : Int32)), (.int (0 : Int32)), (.int (0 : Int32))])) :: (r3, .inr (.boolean, [(.int (0 : Int32)), (.int (0 : Int32)), (.int (0 : Int32))])) :: (r4, .inr (.boolean, [(.int (0 : Int32)), (.int (1 : Int32)), (.int (0 : Int32))])) :: RR) (fun v L' => v = none ∧ L' = ((r0, ob0 (.ref r1) (.ref r2) (.ref r3) (.ref r4) (.int (0 : Int32))) :: (r1, .inr (.boolean, [(.int (0 : Int32)), (.int p5), (.int (0 : Int32))])) :: (r2, .inr (.int, [(.int (0 : Int32)), (.int (0 : Int32)), (.int (0 : Int32))])) :: (r3, .inr (.boolean, [(.int (0 : Int32)), (.int (0 : Int32)), (.int (0 : Int32))])) :: (r4, .inr (.boolean, [(.int (0 : Int32)), (.int (1 : Int32)), (.int (0 : Int32))])) :: RR)) := by
  refine Triple.of_body (tbl := tables_1) (a0 := a0) (Ls := #[.val (.ref r0), .unset]) pn_9 hw rfl ?_
  intro p e s m below meth c T A
  refine A.iconst (q := 1) (v := (0 : Int32)) d9_0 rfl (by decide) ?_
  refine A.istoreN (q := 2) (l' := #[.val (.ref r0), .val (.int (0 : Int32))]) d9_1 rfl rfl ?_
  refine A.iloadN (q := 3) d9_2 rfl rfl ?_
  refine A.aloadN (q := 4) d9_3 rfl rfl rfl ?_
  refine A.getF (q := 7) (w := 53) (i := 0) (j := 4) d9_4 rfl rfl rfl rfl ?_
  intro T A
  refine A.icmpT (r := 28) d9_7 (by decide) (by decide) ?_
  refine A.aloadN (q := 29) d9_28 rfl rfl rfl ?_
  refine A.iconst (q := 30) (v := (0 : Int32)) d9_29 rfl (by decide) ?_
  refine A.putF (q := 33) (w := 53) (w2 := 54) (w3 := 2) (i := 0) (j := 4) (ty := .int) (v' := (.int (0 : Int32))) (L' := ((r0, ob0 (.ref r1) (.ref r2) (.ref r3) (.ref r4) (.int (0 : Int32))) :: (r1, .inr (.boolean, [(.int (0 : Int32)), (.int p5), (.int (0 : Int32))])) :: (r2, .inr (.int, [(.int (0 : Int32)), (.int (0 : Int32)), (.int (0 : Int32))])) :: (r3, .inr (.boolean, [(.int (0 : Int32)), (.int (0 : Int32)), (.int (0 : Int32))])) :: (r4, .inr (.boolean, [(.int (0 : Int32)), (.int (1 : Int32)), (.int (0 : Int32))])) :: RR)) d9_30 rfl rfl rfl rfl (lay_0 Z a0 hw) (Or.inl rfl) rfl (by decide) rfl rfl rfl ?_
  intro T A
  exact A.retV d9_33 (by decide) (by decide) ⟨rfl, rfl⟩
set_option maxRecDepth 65536 in
set_option maxHeartbeats 8000000 in
theorem rm8_4 (l : Launch) (Z : State) (a0 : Array Value) (hw : ∀ d ∈ tables_1, d.before a0 Z = true) (n0 : Nat) (r0 : Addr) (r1 : Addr) (r2 : Addr) (r3 : Addr) (r4 : Addr) (p5 : Int32) (RR : Obs) (z_p5 : nar .boolean p5 = p5) :
    Triple l Z n0 (⟨"com/example/proof_of_scan/proofofscan/Choices", "reset", "()V"⟩ : MethodName) prog_2_method_8_code 2 none ({ frames := 1, cells := 0, slots := 0, locals := 13 } : Room) 0 0 [(.ref r0)] ((r0, ob0 (.ref r1) (.ref r2) (.ref r3) (.ref r4) (.int (0 : Int32))) :: (r1, .inr (.boolean, [(.int (1 : Int32)), (.int p5), (.int (0 : Int32))])) :: (r2, .inr (.int, [(.int (0 : Int32)), (.int (0 : Int32)), (.int (0 : Int32))])) :: (r3, .inr (.boolean, [(.int (0 : Int32)), (.int (0 : Int32)), (.int (0 : Int32))])) :: (r4, .inr (.boolean, [(.int (0 : Int32)), (.int (1 : Int32)), (.int (0 : Int32))])) :: RR) (fun v L' => v = none ∧ L' = ((r0, ob0 (.ref r1) (.ref r2) (.ref r3) (.ref r4) (.int (0 : Int32))) :: (r1, .inr (.boolean, [(.int (0 : Int32)), (.int p5), (.int (0 : Int32))])) :: (r2, .inr (.int, [(.int (0 : Int32)), (.int (0 : Int32)), (.int (0 : Int32))])) :: (r3, .inr (.boolean, [(.int (0 : Int32)), (.int (0 : Int32)), (.int (0 : Int32))])) :: (r4, .inr (.boolean, [(.int (0 : Int32)), (.int (1 : Int32)), (.int (0 : Int32))])) :: RR)) := by
  refine Triple.of_body (tbl := tables_1) (a0 := a0) (Ls := #[.val (.ref r0), .unset]) pn_8 hw rfl ?_
  intro p e s m below meth c T A
  refine A.iconst (q := 1) (v := (0 : Int32)) d8_0 rfl (by decide) ?_
  refine A.istoreN (q := 2) (l' := #[.val (.ref r0), .val (.int (0 : Int32))]) d8_1 rfl rfl ?_
  refine A.iloadN (q := 3) d8_2 rfl rfl ?_
  refine A.aloadN (q := 4) d8_3 rfl rfl rfl ?_
  refine A.getF (q := 7) (w := 11) (i := 0) (j := 0) d8_4 rfl rfl rfl rfl ?_
  intro T A
  refine A.arraylength (q := 8) (i := 1) (v := (3 : Int32)) d8_7 rfl rfl (by show Nat.toInt32 3 = 3; decide) ?_
  refine A.icmpF (q := 11) d8_8 rfl (by decide) ?_
  refine A.aloadN (q := 12) d8_11 rfl rfl rfl ?_
  refine A.getF (q := 15) (w := 11) (i := 0) (j := 0) d8_12 rfl rfl rfl rfl ?_
  intro T A
  refine A.iloadN (q := 16) d8_15 rfl rfl ?_
  refine A.dup2 (q := 17) d8_16 rfl rfl rfl ?_
  refine A.baloadZ (q := 18) (i := 1) (v := (.int (1 : Int32))) d8_17 rfl rfl (by decide) rfl ?_
  refine A.aloadN (q := 19) d8_18 rfl rfl rfl ?_
  refine A.getF (q := 22) (w := 18) (i := 0) (j := 3) d8_19 rfl rfl rfl rfl ?_
  intro T A
  refine A.iloadN (q := 23) d8_22 rfl rfl ?_
  refine A.baloadZ (q := 24) (i := 4) (v := (.int (0 : Int32))) d8_23 rfl rfl (by decide) rfl ?_
  refine A.iand (q := 25) (v := (0 : Int32)) d8_24 rfl (by decide) ?_
  refine A.bastoreZ (q := 26) (i := 1) (x' := (0 : Int32)) (L' := ((r0, ob0 (.ref r1) (.ref r2) (.ref r3) (.ref r4) (.int (0 : Int32))) :: (r1, .inr (.boolean, [(.int (0 : Int32)), (.int p5), (.int (0 : Int32))])) :: (r2, .inr (.int, [(.int (0 : Int32)), (.int (0 : Int32)), (.int (0 : Int32))])) :: (r3, .inr (.boolean, [(.int (0 : Int32)), (.int (0 : Int32)), (.int (0 : Int32))])) :: (r4, .inr (.boolean, [(.int (0 : Int32)), (.int (1 : Int32)), (.int (0 : Int32))])) :: RR)) d8_25 rfl rfl (by decide) (by show Int32.toNatClampNeg (0 : Int32) < 3; decide) (by decide) rfl ?_
  intro T A
  refine A.iinc (q := 29) (v := (1 : Int32)) (l' := #[.val (.ref r0), .val (.int (1 : Int32))]) d8_26 rfl rfl (by decide) rfl ?_
  refine A.goto (r := 2) d8_29 (by decide) ?_
  refine A.iloadN (q := 3) d8_2 rfl rfl ?_
  refine A.aloadN (q := 4) d8_3 rfl rfl rfl ?_
  refine A.getF (q := 7) (w := 11) (i := 0) (j := 0) d8_4 rfl rfl rfl rfl ?_
  intro T A
  refine A.arraylength (q := 8) (i := 1) (v := (3 : Int32)) d8_7 rfl rfl (by show Nat.toInt32 3 = 3; decide) ?_
  refine A.icmpF (q := 11) d8_8 rfl (by decide) ?_
  refine A.aloadN (q := 12) d8_11 rfl rfl rfl ?_
  refine A.getF (q := 15) (w := 11) (i := 0) (j := 0) d8_12 rfl rfl rfl rfl ?_
  intro T A
  refine A.iloadN (q := 16) d8_15 rfl rfl ?_
  refine A.dup2 (q := 17) d8_16 rfl rfl rfl ?_
  refine A.baloadZ (q := 18) (i := 1) (v := (.int p5)) d8_17 rfl rfl (by decide) rfl ?_
  refine A.aloadN (q := 19) d8_18 rfl rfl rfl ?_
  refine A.getF (q := 22) (w := 18) (i := 0) (j := 3) d8_19 rfl rfl rfl rfl ?_
  intro T A
  refine A.iloadN (q := 23) d8_22 rfl rfl ?_
  refine A.baloadZ (q := 24) (i := 4) (v := (.int (1 : Int32))) d8_23 rfl rfl (by decide) rfl ?_
  refine A.iand (q := 25) (v := p5) d8_24 rfl z_p5 ?_
  refine A.bastoreZ (q := 26) (i := 1) (x' := p5) (L' := ((r0, ob0 (.ref r1) (.ref r2) (.ref r3) (.ref r4) (.int (0 : Int32))) :: (r1, .inr (.boolean, [(.int (0 : Int32)), (.int p5), (.int (0 : Int32))])) :: (r2, .inr (.int, [(.int (0 : Int32)), (.int (0 : Int32)), (.int (0 : Int32))])) :: (r3, .inr (.boolean, [(.int (0 : Int32)), (.int (0 : Int32)), (.int (0 : Int32))])) :: (r4, .inr (.boolean, [(.int (0 : Int32)), (.int (1 : Int32)), (.int (0 : Int32))])) :: RR)) d8_25 rfl rfl (by decide) (by show Int32.toNatClampNeg (1 : Int32) < 3; decide) z_p5 rfl ?_
  intro T A
  refine A.iinc (q := 29) (v := (2 : Int32)) (l' := #[.val (.ref r0), .val (.int (2 : Int32))]) d8_26 rfl rfl (by decide) rfl ?_
  refine A.goto (r := 2) d8_29 (by decide) ?_
  refine A.iloadN (q := 3) d8_2 rfl rfl ?_
  refine A.aloadN (q := 4) d8_3 rfl rfl rfl ?_
  refine A.getF (q := 7) (w := 11) (i := 0) (j := 0) d8_4 rfl rfl rfl rfl ?_
  intro T A
  refine A.arraylength (q := 8) (i := 1) (v := (3 : Int32)) d8_7 rfl rfl (by show Nat.toInt32 3 = 3; decide) ?_
  refine A.icmpF (q := 11) d8_8 rfl (by decide) ?_
  refine A.aloadN (q := 12) d8_11 rfl rfl rfl ?_
  refine A.getF (q := 15) (w := 11) (i := 0) (j := 0) d8_12 rfl rfl rfl rfl ?_
  intro T A
  refine A.iloadN (q := 16) d8_15 rfl rfl ?_
  refine A.dup2 (q := 17) d8_16 rfl rfl rfl ?_
  refine A.baloadZ (q := 18) (i := 1) (v := (.int (0 : Int32))) d8_17 rfl rfl (by decide) rfl ?_
  refine A.aloadN (q := 19) d8_18 rfl rfl rfl ?_
  refine A.getF (q := 22) (w := 18) (i := 0) (j := 3) d8_19 rfl rfl rfl rfl ?_
  intro T A
  refine A.iloadN (q := 23) d8_22 rfl rfl ?_
  refine A.baloadZ (q := 24) (i := 4) (v := (.int (0 : Int32))) d8_23 rfl rfl (by decide) rfl ?_
  refine A.iand (q := 25) (v := (0 : Int32)) d8_24 rfl (by decide) ?_
  refine A.bastoreZ (q := 26) (i := 1) (x' := (0 : Int32)) (L' := ((r0, ob0 (.ref r1) (.ref r2) (.ref r3) (.ref r4) (.int (0 : Int32))) :: (r1, .inr (.boolean, [(.int (0 : Int32)), (.int p5), (.int (0 : Int32))])) :: (r2, .inr (.int, [(.int (0 : Int32)), (.int (0 : Int32)), (.int (0 : Int32))])) :: (r3, .inr (.boolean, [(.int (0 : Int32)), (.int (0 : Int32)), (.int (0 : Int32))])) :: (r4, .inr (.boolean, [(.int (0 : Int32)), (.int (1 : Int32)), (.int (0 : Int32))])) :: RR)) d8_25 rfl rfl (by decide) (by show Int32.toNatClampNeg (2 : Int32) < 3; decide) (by decide) rfl ?_
  intro T A
  refine A.iinc (q := 29) (v := (3 : Int32)) (l' := #[.val (.ref r0), .val (.int (3 : Int32))]) d8_26 rfl rfl (by decide) rfl ?_
  refine A.goto (r := 2) d8_29 (by decide) ?_
  refine A.iloadN (q := 3) d8_2 rfl rfl ?_
  refine A.aloadN (q := 4) d8_3 rfl rfl rfl ?_
  refine A.getF (q := 7) (w := 11) (i := 0) (j := 0) d8_4 rfl rfl rfl rfl ?_
  intro T A
  refine A.arraylength (q := 8) (i := 1) (v := (3 : Int32)) d8_7 rfl rfl (by show Nat.toInt32 3 = 3; decide) ?_
  refine A.icmpT (r := 32) d8_8 (by decide) (by decide) ?_
  refine A.aloadN (q := 33) d8_32 rfl rfl rfl ?_
  refine A.callP (q := 36) (i := 0) (w1 := 60) (w2 := 62) (w3 := 3) (w4 := 63) (w5 := 2) (w6 := 61) (a := r0) (as := []) (st := []) (W := 0) d8_33 rfl rfl rfl rfl rfl rfl rfl rfl (rm9_7 l Z a0 hw n0 r0 r1 r2 r3 r4 p5 _ z_p5) (by decide) ⟨_, _, pd_6, rfl⟩ rfl rfl rfl (by decide) (by decide) (by decide) (by decide) ?_
  rintro _ T _ ⟨rfl, rfl⟩ A
  show Go p e below _ (T.setTop (mkF m 36 #[.val (.ref r0), .val (.int (3 : Int32))] []))
  exact A.retV d8_36 (by decide) (by decide) ⟨rfl, rfl⟩
set_option maxRecDepth 65536 in
set_option maxHeartbeats 8000000 in
theorem rm6_8 (l : Launch) (Z : State) (a0 : Array Value) (hw : ∀ d ∈ tables_1, d.before a0 Z = true) (n0 : Nat) (r0 : Addr) (r1 : Addr) (r2 : Addr) (r3 : Addr) (r4 : Addr) (p5 : Int32) (RR : Obs) (z_p5 : nar .boolean p5 = p5) :
    Triple l Z n0 (⟨"com/example/proof_of_scan/proofofscan/Choices", "take", "(I)Z"⟩ : MethodName) prog_2_method_3_code 2 (some .boolean) ({ frames := 0, cells := 0, slots := 0, locals := 0 } : Room) 0 0 [(.ref r0), (.int (1 : Int32))] ((r0, ob0 (.ref r1) (.ref r2) (.ref r3) (.ref r4) (.int (0 : Int32))) :: (r1, .inr (.boolean, [(.int (0 : Int32)), (.int p5), (.int (0 : Int32))])) :: (r2, .inr (.int, [(.int (0 : Int32)), (.int (0 : Int32)), (.int (0 : Int32))])) :: (r3, .inr (.boolean, [(.int (0 : Int32)), (.int (0 : Int32)), (.int (0 : Int32))])) :: (r4, .inr (.boolean, [(.int (0 : Int32)), (.int (1 : Int32)), (.int (0 : Int32))])) :: RR) (fun v L' => v = some (.int p5) ∧ L' = ((r0, ob0 (.ref r1) (.ref r2) (.ref r3) (.ref r4) (.int (0 : Int32))) :: (r1, .inr (.boolean, [(.int (0 : Int32)), (.int p5), (.int (0 : Int32))])) :: (r2, .inr (.int, [(.int (0 : Int32)), (.int (0 : Int32)), (.int (0 : Int32))])) :: (r3, .inr (.boolean, [(.int (0 : Int32)), (.int (0 : Int32)), (.int (0 : Int32))])) :: (r4, .inr (.boolean, [(.int (0 : Int32)), (.int (1 : Int32)), (.int (0 : Int32))])) :: RR)) := by
  refine Triple.of_body (tbl := tables_1) (a0 := a0) (Ls := #[.val (.ref r0), .val (.int (1 : Int32))]) pn_6 hw rfl ?_
  intro p e s m below meth c T A
  refine A.aloadN (q := 1) d6_0 rfl rfl rfl ?_
  refine A.getF (q := 4) (w := 16) (i := 0) (j := 2) d6_1 rfl rfl rfl rfl ?_
  intro T A
  refine A.iloadN (q := 5) d6_4 rfl rfl ?_
  refine A.baloadZ (q := 6) (i := 3) (v := (.int (0 : Int32))) d6_5 rfl rfl (by decide) rfl ?_
  refine A.ifF (q := 9) d6_6 rfl (by decide) ?_
  refine A.aloadN (q := 10) d6_9 rfl rfl rfl ?_
  refine A.getF (q := 13) (w := 18) (i := 0) (j := 3) d6_10 rfl rfl rfl rfl ?_
  intro T A
  refine A.iloadN (q := 14) d6_13 rfl rfl ?_
  refine A.baloadZ (q := 15) (i := 4) (v := (.int (1 : Int32))) d6_14 rfl rfl (by decide) rfl ?_
  refine A.ifT (r := 42) d6_15 (by decide) (by decide) ?_
  refine A.aloadN (q := 43) d6_42 rfl rfl rfl ?_
  refine A.getF (q := 46) (w := 11) (i := 0) (j := 0) d6_43 rfl rfl rfl rfl ?_
  intro T A
  refine A.iloadN (q := 47) d6_46 rfl rfl ?_
  refine A.baloadZ (q := 48) (i := 1) (v := (.int p5)) d6_47 rfl rfl (by decide) rfl ?_
  exact A.retZ (v := p5) d6_48 z_p5 (by decide) (by decide) ⟨rfl, rfl⟩
set_option maxRecDepth 65536 in
set_option maxHeartbeats 8000000 in
theorem rm7_5 (l : Launch) (Z : State) (a0 : Array Value) (hw : ∀ d ∈ tables_1, d.before a0 Z = true) (n0 : Nat) (r0 : Addr) (r1 : Addr) (r2 : Addr) (r3 : Addr) (r4 : Addr) (p5 : Int32) (RR : Obs) (z_p5 : nar .boolean p5 = p5) :
    Triple l Z n0 (⟨"com/example/proof_of_scan/proofofscan/Choices", "next", "()Z"⟩ : MethodName) prog_2_method_9_code 3 (some .boolean) ({ frames := 0, cells := 0, slots := 0, locals := 0 } : Room) 0 0 [(.ref r0)] ((r0, ob0 (.ref r1) (.ref r2) (.ref r3) (.ref r4) (.int (0 : Int32))) :: (r1, .inr (.boolean, [(.int (0 : Int32)), (.int p5), (.int (0 : Int32))])) :: (r2, .inr (.int, [(.int (0 : Int32)), (.int (0 : Int32)), (.int (0 : Int32))])) :: (r3, .inr (.boolean, [(.int (0 : Int32)), (.int (0 : Int32)), (.int (0 : Int32))])) :: (r4, .inr (.boolean, [(.int (0 : Int32)), (.int (1 : Int32)), (.int (0 : Int32))])) :: RR) (fun v L' => v = some (.int (0 : Int32)) ∧ L' = ((r0, ob0 (.ref r1) (.ref r2) (.ref r3) (.ref r4) (.int (0 : Int32))) :: (r1, .inr (.boolean, [(.int (0 : Int32)), (.int p5), (.int (0 : Int32))])) :: (r2, .inr (.int, [(.int (0 : Int32)), (.int (0 : Int32)), (.int (0 : Int32))])) :: (r3, .inr (.boolean, [(.int (0 : Int32)), (.int (0 : Int32)), (.int (0 : Int32))])) :: (r4, .inr (.boolean, [(.int (0 : Int32)), (.int (1 : Int32)), (.int (0 : Int32))])) :: RR)) := by
  refine Triple.of_body (tbl := tables_1) (a0 := a0) (Ls := #[.val (.ref r0), .unset, .unset]) pn_7 hw rfl ?_
  intro p e s m below meth c T A
  refine A.aloadN (q := 1) d7_0 rfl rfl rfl ?_
  refine A.getF (q := 4) (w := 53) (i := 0) (j := 4) d7_1 rfl rfl rfl rfl ?_
  intro T A
  refine A.iconst (q := 5) (v := (1 : Int32)) d7_4 rfl (by decide) ?_
  refine A.isub (q := 6) (v := (-1 : Int32)) d7_5 rfl (by decide) ?_
  refine A.istoreN (q := 7) (l' := #[.val (.ref r0), .val (.int (-1 : Int32)), .unset]) d7_6 rfl rfl ?_
  refine A.iloadN (q := 8) d7_7 rfl rfl ?_
  refine A.ifT (r := 31) d7_8 (by decide) (by decide) ?_
  refine A.iloadN (q := 32) d7_31 rfl rfl ?_
  refine A.ifF (q := 35) d7_32 rfl (by decide) ?_
  refine A.iconst (q := 36) (v := (0 : Int32)) d7_35 rfl (by decide) ?_
  exact A.retZ (v := (0 : Int32)) d7_36 (by decide) (by decide) (by decide) ⟨rfl, rfl⟩
set_option maxRecDepth 65536 in
set_option maxHeartbeats 8000000 in
theorem rm8_5 (l : Launch) (Z : State) (a0 : Array Value) (hw : ∀ d ∈ tables_1, d.before a0 Z = true) (n0 : Nat) (r0 : Addr) (r1 : Addr) (r2 : Addr) (r3 : Addr) (r4 : Addr) (p5 : Int32) (RR : Obs) (z_p5 : nar .boolean p5 = p5) :
    Triple l Z n0 (⟨"com/example/proof_of_scan/proofofscan/Choices", "reset", "()V"⟩ : MethodName) prog_2_method_8_code 2 none ({ frames := 1, cells := 0, slots := 0, locals := 13 } : Room) 0 0 [(.ref r0)] ((r0, ob0 (.ref r1) (.ref r2) (.ref r3) (.ref r4) (.int (0 : Int32))) :: (r1, .inr (.boolean, [(.int (0 : Int32)), (.int p5), (.int (0 : Int32))])) :: (r2, .inr (.int, [(.int (0 : Int32)), (.int (0 : Int32)), (.int (0 : Int32))])) :: (r3, .inr (.boolean, [(.int (0 : Int32)), (.int (0 : Int32)), (.int (0 : Int32))])) :: (r4, .inr (.boolean, [(.int (0 : Int32)), (.int (1 : Int32)), (.int (0 : Int32))])) :: RR) (fun v L' => v = none ∧ L' = ((r0, ob0 (.ref r1) (.ref r2) (.ref r3) (.ref r4) (.int (0 : Int32))) :: (r1, .inr (.boolean, [(.int (0 : Int32)), (.int p5), (.int (0 : Int32))])) :: (r2, .inr (.int, [(.int (0 : Int32)), (.int (0 : Int32)), (.int (0 : Int32))])) :: (r3, .inr (.boolean, [(.int (0 : Int32)), (.int (0 : Int32)), (.int (0 : Int32))])) :: (r4, .inr (.boolean, [(.int (0 : Int32)), (.int (1 : Int32)), (.int (0 : Int32))])) :: RR)) := by
  refine Triple.of_body (tbl := tables_1) (a0 := a0) (Ls := #[.val (.ref r0), .unset]) pn_8 hw rfl ?_
  intro p e s m below meth c T A
  refine A.iconst (q := 1) (v := (0 : Int32)) d8_0 rfl (by decide) ?_
  refine A.istoreN (q := 2) (l' := #[.val (.ref r0), .val (.int (0 : Int32))]) d8_1 rfl rfl ?_
  refine A.iloadN (q := 3) d8_2 rfl rfl ?_
  refine A.aloadN (q := 4) d8_3 rfl rfl rfl ?_
  refine A.getF (q := 7) (w := 11) (i := 0) (j := 0) d8_4 rfl rfl rfl rfl ?_
  intro T A
  refine A.arraylength (q := 8) (i := 1) (v := (3 : Int32)) d8_7 rfl rfl (by show Nat.toInt32 3 = 3; decide) ?_
  refine A.icmpF (q := 11) d8_8 rfl (by decide) ?_
  refine A.aloadN (q := 12) d8_11 rfl rfl rfl ?_
  refine A.getF (q := 15) (w := 11) (i := 0) (j := 0) d8_12 rfl rfl rfl rfl ?_
  intro T A
  refine A.iloadN (q := 16) d8_15 rfl rfl ?_
  refine A.dup2 (q := 17) d8_16 rfl rfl rfl ?_
  refine A.baloadZ (q := 18) (i := 1) (v := (.int (0 : Int32))) d8_17 rfl rfl (by decide) rfl ?_
  refine A.aloadN (q := 19) d8_18 rfl rfl rfl ?_
  refine A.getF (q := 22) (w := 18) (i := 0) (j := 3) d8_19 rfl rfl rfl rfl ?_
  intro T A
  refine A.iloadN (q := 23) d8_22 rfl rfl ?_
  refine A.baloadZ (q := 24) (i := 4) (v := (.int (0 : Int32))) d8_23 rfl rfl (by decide) rfl ?_
  refine A.iand (q := 25) (v := (0 : Int32)) d8_24 rfl (by decide) ?_
  refine A.bastoreZ (q := 26) (i := 1) (x' := (0 : Int32)) (L' := ((r0, ob0 (.ref r1) (.ref r2) (.ref r3) (.ref r4) (.int (0 : Int32))) :: (r1, .inr (.boolean, [(.int (0 : Int32)), (.int p5), (.int (0 : Int32))])) :: (r2, .inr (.int, [(.int (0 : Int32)), (.int (0 : Int32)), (.int (0 : Int32))])) :: (r3, .inr (.boolean, [(.int (0 : Int32)), (.int (0 : Int32)), (.int (0 : Int32))])) :: (r4, .inr (.boolean, [(.int (0 : Int32)), (.int (1 : Int32)), (.int (0 : Int32))])) :: RR)) d8_25 rfl rfl (by decide) (by show Int32.toNatClampNeg (0 : Int32) < 3; decide) (by decide) rfl ?_
  intro T A
  refine A.iinc (q := 29) (v := (1 : Int32)) (l' := #[.val (.ref r0), .val (.int (1 : Int32))]) d8_26 rfl rfl (by decide) rfl ?_
  refine A.goto (r := 2) d8_29 (by decide) ?_
  refine A.iloadN (q := 3) d8_2 rfl rfl ?_
  refine A.aloadN (q := 4) d8_3 rfl rfl rfl ?_
  refine A.getF (q := 7) (w := 11) (i := 0) (j := 0) d8_4 rfl rfl rfl rfl ?_
  intro T A
  refine A.arraylength (q := 8) (i := 1) (v := (3 : Int32)) d8_7 rfl rfl (by show Nat.toInt32 3 = 3; decide) ?_
  refine A.icmpF (q := 11) d8_8 rfl (by decide) ?_
  refine A.aloadN (q := 12) d8_11 rfl rfl rfl ?_
  refine A.getF (q := 15) (w := 11) (i := 0) (j := 0) d8_12 rfl rfl rfl rfl ?_
  intro T A
  refine A.iloadN (q := 16) d8_15 rfl rfl ?_
  refine A.dup2 (q := 17) d8_16 rfl rfl rfl ?_
  refine A.baloadZ (q := 18) (i := 1) (v := (.int p5)) d8_17 rfl rfl (by decide) rfl ?_
  refine A.aloadN (q := 19) d8_18 rfl rfl rfl ?_
  refine A.getF (q := 22) (w := 18) (i := 0) (j := 3) d8_19 rfl rfl rfl rfl ?_
  intro T A
  refine A.iloadN (q := 23) d8_22 rfl rfl ?_
  refine A.baloadZ (q := 24) (i := 4) (v := (.int (1 : Int32))) d8_23 rfl rfl (by decide) rfl ?_
  refine A.iand (q := 25) (v := p5) d8_24 rfl z_p5 ?_
  refine A.bastoreZ (q := 26) (i := 1) (x' := p5) (L' := ((r0, ob0 (.ref r1) (.ref r2) (.ref r3) (.ref r4) (.int (0 : Int32))) :: (r1, .inr (.boolean, [(.int (0 : Int32)), (.int p5), (.int (0 : Int32))])) :: (r2, .inr (.int, [(.int (0 : Int32)), (.int (0 : Int32)), (.int (0 : Int32))])) :: (r3, .inr (.boolean, [(.int (0 : Int32)), (.int (0 : Int32)), (.int (0 : Int32))])) :: (r4, .inr (.boolean, [(.int (0 : Int32)), (.int (1 : Int32)), (.int (0 : Int32))])) :: RR)) d8_25 rfl rfl (by decide) (by show Int32.toNatClampNeg (1 : Int32) < 3; decide) z_p5 rfl ?_
  intro T A
  refine A.iinc (q := 29) (v := (2 : Int32)) (l' := #[.val (.ref r0), .val (.int (2 : Int32))]) d8_26 rfl rfl (by decide) rfl ?_
  refine A.goto (r := 2) d8_29 (by decide) ?_
  refine A.iloadN (q := 3) d8_2 rfl rfl ?_
  refine A.aloadN (q := 4) d8_3 rfl rfl rfl ?_
  refine A.getF (q := 7) (w := 11) (i := 0) (j := 0) d8_4 rfl rfl rfl rfl ?_
  intro T A
  refine A.arraylength (q := 8) (i := 1) (v := (3 : Int32)) d8_7 rfl rfl (by show Nat.toInt32 3 = 3; decide) ?_
  refine A.icmpF (q := 11) d8_8 rfl (by decide) ?_
  refine A.aloadN (q := 12) d8_11 rfl rfl rfl ?_
  refine A.getF (q := 15) (w := 11) (i := 0) (j := 0) d8_12 rfl rfl rfl rfl ?_
  intro T A
  refine A.iloadN (q := 16) d8_15 rfl rfl ?_
  refine A.dup2 (q := 17) d8_16 rfl rfl rfl ?_
  refine A.baloadZ (q := 18) (i := 1) (v := (.int (0 : Int32))) d8_17 rfl rfl (by decide) rfl ?_
  refine A.aloadN (q := 19) d8_18 rfl rfl rfl ?_
  refine A.getF (q := 22) (w := 18) (i := 0) (j := 3) d8_19 rfl rfl rfl rfl ?_
  intro T A
  refine A.iloadN (q := 23) d8_22 rfl rfl ?_
  refine A.baloadZ (q := 24) (i := 4) (v := (.int (0 : Int32))) d8_23 rfl rfl (by decide) rfl ?_
  refine A.iand (q := 25) (v := (0 : Int32)) d8_24 rfl (by decide) ?_
  refine A.bastoreZ (q := 26) (i := 1) (x' := (0 : Int32)) (L' := ((r0, ob0 (.ref r1) (.ref r2) (.ref r3) (.ref r4) (.int (0 : Int32))) :: (r1, .inr (.boolean, [(.int (0 : Int32)), (.int p5), (.int (0 : Int32))])) :: (r2, .inr (.int, [(.int (0 : Int32)), (.int (0 : Int32)), (.int (0 : Int32))])) :: (r3, .inr (.boolean, [(.int (0 : Int32)), (.int (0 : Int32)), (.int (0 : Int32))])) :: (r4, .inr (.boolean, [(.int (0 : Int32)), (.int (1 : Int32)), (.int (0 : Int32))])) :: RR)) d8_25 rfl rfl (by decide) (by show Int32.toNatClampNeg (2 : Int32) < 3; decide) (by decide) rfl ?_
  intro T A
  refine A.iinc (q := 29) (v := (3 : Int32)) (l' := #[.val (.ref r0), .val (.int (3 : Int32))]) d8_26 rfl rfl (by decide) rfl ?_
  refine A.goto (r := 2) d8_29 (by decide) ?_
  refine A.iloadN (q := 3) d8_2 rfl rfl ?_
  refine A.aloadN (q := 4) d8_3 rfl rfl rfl ?_
  refine A.getF (q := 7) (w := 11) (i := 0) (j := 0) d8_4 rfl rfl rfl rfl ?_
  intro T A
  refine A.arraylength (q := 8) (i := 1) (v := (3 : Int32)) d8_7 rfl rfl (by show Nat.toInt32 3 = 3; decide) ?_
  refine A.icmpT (r := 32) d8_8 (by decide) (by decide) ?_
  refine A.aloadN (q := 33) d8_32 rfl rfl rfl ?_
  refine A.callP (q := 36) (i := 0) (w1 := 60) (w2 := 62) (w3 := 3) (w4 := 63) (w5 := 2) (w6 := 61) (a := r0) (as := []) (st := []) (W := 0) d8_33 rfl rfl rfl rfl rfl rfl rfl rfl (rm9_7 l Z a0 hw n0 r0 r1 r2 r3 r4 p5 _ z_p5) (by decide) ⟨_, _, pd_6, rfl⟩ rfl rfl rfl (by decide) (by decide) (by decide) (by decide) ?_
  rintro _ T _ ⟨rfl, rfl⟩ A
  show Go p e below _ (T.setTop (mkF m 36 #[.val (.ref r0), .val (.int (3 : Int32))] []))
  exact A.retV d8_36 (by decide) (by decide) ⟨rfl, rfl⟩
set_option maxRecDepth 65536 in
set_option maxHeartbeats 8000000 in
theorem rm6_9 (l : Launch) (Z : State) (a0 : Array Value) (hw : ∀ d ∈ tables_1, d.before a0 Z = true) (n0 : Nat) (r0 : Addr) (r1 : Addr) (r2 : Addr) (r3 : Addr) (r4 : Addr) (p5 : Int32) (RR : Obs) (z_p5 : nar .boolean p5 = p5) :
    Triple l Z n0 (⟨"com/example/proof_of_scan/proofofscan/Choices", "take", "(I)Z"⟩ : MethodName) prog_2_method_3_code 2 (some .boolean) ({ frames := 0, cells := 0, slots := 0, locals := 0 } : Room) 0 0 [(.ref r0), (.int (2 : Int32))] ((r0, ob0 (.ref r1) (.ref r2) (.ref r3) (.ref r4) (.int (0 : Int32))) :: (r1, .inr (.boolean, [(.int (0 : Int32)), (.int p5), (.int (0 : Int32))])) :: (r2, .inr (.int, [(.int (0 : Int32)), (.int (0 : Int32)), (.int (0 : Int32))])) :: (r3, .inr (.boolean, [(.int (0 : Int32)), (.int (0 : Int32)), (.int (0 : Int32))])) :: (r4, .inr (.boolean, [(.int (0 : Int32)), (.int (1 : Int32)), (.int (0 : Int32))])) :: RR) (fun v L' => v = some (.int (0 : Int32)) ∧ L' = ((r0, ob0 (.ref r1) (.ref r2) (.ref r3) (.ref r4) (.int (1 : Int32))) :: (r1, .inr (.boolean, [(.int (0 : Int32)), (.int p5), (.int (0 : Int32))])) :: (r2, .inr (.int, [(.int (2 : Int32)), (.int (0 : Int32)), (.int (0 : Int32))])) :: (r3, .inr (.boolean, [(.int (0 : Int32)), (.int (0 : Int32)), (.int (1 : Int32))])) :: (r4, .inr (.boolean, [(.int (0 : Int32)), (.int (1 : Int32)), (.int (0 : Int32))])) :: RR)) := by
  refine Triple.of_body (tbl := tables_1) (a0 := a0) (Ls := #[.val (.ref r0), .val (.int (2 : Int32))]) pn_6 hw rfl ?_
  intro p e s m below meth c T A
  refine A.aloadN (q := 1) d6_0 rfl rfl rfl ?_
  refine A.getF (q := 4) (w := 16) (i := 0) (j := 2) d6_1 rfl rfl rfl rfl ?_
  intro T A
  refine A.iloadN (q := 5) d6_4 rfl rfl ?_
  refine A.baloadZ (q := 6) (i := 3) (v := (.int (0 : Int32))) d6_5 rfl rfl (by decide) rfl ?_
  refine A.ifF (q := 9) d6_6 rfl (by decide) ?_
  refine A.aloadN (q := 10) d6_9 rfl rfl rfl ?_
  refine A.getF (q := 13) (w := 18) (i := 0) (j := 3) d6_10 rfl rfl rfl rfl ?_
  intro T A
  refine A.iloadN (q := 14) d6_13 rfl rfl ?_
  refine A.baloadZ (q := 15) (i := 4) (v := (.int (0 : Int32))) d6_14 rfl rfl (by decide) rfl ?_
  refine A.ifF (q := 18) d6_15 rfl (by decide) ?_
  refine A.aloadN (q := 19) d6_18 rfl rfl rfl ?_
  refine A.getF (q := 22) (w := 16) (i := 0) (j := 2) d6_19 rfl rfl rfl rfl ?_
  intro T A
  refine A.iloadN (q := 23) d6_22 rfl rfl ?_
  refine A.iconst (q := 24) (v := (1 : Int32)) d6_23 rfl (by decide) ?_
  refine A.bastoreZ (q := 25) (i := 3) (x' := (1 : Int32)) (L' := ((r0, ob0 (.ref r1) (.ref r2) (.ref r3) (.ref r4) (.int (0 : Int32))) :: (r1, .inr (.boolean, [(.int (0 : Int32)), (.int p5), (.int (0 : Int32))])) :: (r2, .inr (.int, [(.int (0 : Int32)), (.int (0 : Int32)), (.int (0 : Int32))])) :: (r3, .inr (.boolean, [(.int (0 : Int32)), (.int (0 : Int32)), (.int (1 : Int32))])) :: (r4, .inr (.boolean, [(.int (0 : Int32)), (.int (1 : Int32)), (.int (0 : Int32))])) :: RR)) d6_24 rfl rfl (by decide) (by show Int32.toNatClampNeg (2 : Int32) < 3; decide) (by decide) rfl ?_
  intro T A
  refine A.aloadN (q := 26) d6_25 rfl rfl rfl ?_
  refine A.getF (q := 29) (w := 14) (i := 0) (j := 1) d6_26 rfl rfl rfl rfl ?_
  intro T A
  refine A.aloadN (q := 30) d6_29 rfl rfl rfl ?_
  refine A.dup (q := 31) d6_30 rfl rfl ?_
  refine A.getF (q := 34) (w := 53) (i := 0) (j := 4) d6_31 rfl rfl rfl rfl ?_
  intro T A
  refine A.dup_x1 (q := 35) d6_34 rfl rfl rfl ?_
  refine A.iconst (q := 36) (v := (1 : Int32)) d6_35 rfl (by decide) ?_
  refine A.iadd (q := 37) (v := (1 : Int32)) d6_36 rfl (by decide) ?_
  refine A.putF (q := 40) (w := 53) (w2 := 54) (w3 := 2) (i := 0) (j := 4) (ty := .int) (v' := (.int (1 : Int32))) (L' := ((r0, ob0 (.ref r1) (.ref r2) (.ref r3) (.ref r4) (.int (1 : Int32))) :: (r1, .inr (.boolean, [(.int (0 : Int32)), (.int p5), (.int (0 : Int32))])) :: (r2, .inr (.int, [(.int (0 : Int32)), (.int (0 : Int32)), (.int (0 : Int32))])) :: (r3, .inr (.boolean, [(.int (0 : Int32)), (.int (0 : Int32)), (.int (1 : Int32))])) :: (r4, .inr (.boolean, [(.int (0 : Int32)), (.int (1 : Int32)), (.int (0 : Int32))])) :: RR)) d6_37 rfl rfl rfl rfl (lay_0 Z a0 hw) (Or.inl rfl) rfl (by decide) rfl rfl rfl ?_
  intro T A
  refine A.iloadN (q := 41) d6_40 rfl rfl ?_
  refine A.iastore (q := 42) (i := 2) (x' := (2 : Int32)) (L' := ((r0, ob0 (.ref r1) (.ref r2) (.ref r3) (.ref r4) (.int (1 : Int32))) :: (r1, .inr (.boolean, [(.int (0 : Int32)), (.int p5), (.int (0 : Int32))])) :: (r2, .inr (.int, [(.int (2 : Int32)), (.int (0 : Int32)), (.int (0 : Int32))])) :: (r3, .inr (.boolean, [(.int (0 : Int32)), (.int (0 : Int32)), (.int (1 : Int32))])) :: (r4, .inr (.boolean, [(.int (0 : Int32)), (.int (1 : Int32)), (.int (0 : Int32))])) :: RR)) d6_41 rfl rfl (by decide) (by show Int32.toNatClampNeg (0 : Int32) < 3; decide) rfl rfl ?_
  intro T A
  refine A.aloadN (q := 43) d6_42 rfl rfl rfl ?_
  refine A.getF (q := 46) (w := 11) (i := 0) (j := 0) d6_43 rfl rfl rfl rfl ?_
  intro T A
  refine A.iloadN (q := 47) d6_46 rfl rfl ?_
  refine A.baloadZ (q := 48) (i := 1) (v := (.int (0 : Int32))) d6_47 rfl rfl (by decide) rfl ?_
  exact A.retZ (v := (0 : Int32)) d6_48 (by decide) (by decide) (by decide) ⟨rfl, rfl⟩
set_option maxRecDepth 65536 in
set_option maxHeartbeats 8000000 in
theorem rm6_10 (l : Launch) (Z : State) (a0 : Array Value) (hw : ∀ d ∈ tables_1, d.before a0 Z = true) (n0 : Nat) (r0 : Addr) (r1 : Addr) (r2 : Addr) (r3 : Addr) (r4 : Addr) (p5 : Int32) (RR : Obs) (z_p5 : nar .boolean p5 = p5) :
    Triple l Z n0 (⟨"com/example/proof_of_scan/proofofscan/Choices", "take", "(I)Z"⟩ : MethodName) prog_2_method_3_code 2 (some .boolean) ({ frames := 0, cells := 0, slots := 0, locals := 0 } : Room) 0 0 [(.ref r0), (.int (1 : Int32))] ((r0, ob0 (.ref r1) (.ref r2) (.ref r3) (.ref r4) (.int (1 : Int32))) :: (r1, .inr (.boolean, [(.int (0 : Int32)), (.int p5), (.int (0 : Int32))])) :: (r2, .inr (.int, [(.int (2 : Int32)), (.int (0 : Int32)), (.int (0 : Int32))])) :: (r3, .inr (.boolean, [(.int (0 : Int32)), (.int (0 : Int32)), (.int (1 : Int32))])) :: (r4, .inr (.boolean, [(.int (0 : Int32)), (.int (1 : Int32)), (.int (0 : Int32))])) :: RR) (fun v L' => v = some (.int p5) ∧ L' = ((r0, ob0 (.ref r1) (.ref r2) (.ref r3) (.ref r4) (.int (1 : Int32))) :: (r1, .inr (.boolean, [(.int (0 : Int32)), (.int p5), (.int (0 : Int32))])) :: (r2, .inr (.int, [(.int (2 : Int32)), (.int (0 : Int32)), (.int (0 : Int32))])) :: (r3, .inr (.boolean, [(.int (0 : Int32)), (.int (0 : Int32)), (.int (1 : Int32))])) :: (r4, .inr (.boolean, [(.int (0 : Int32)), (.int (1 : Int32)), (.int (0 : Int32))])) :: RR)) := by
  refine Triple.of_body (tbl := tables_1) (a0 := a0) (Ls := #[.val (.ref r0), .val (.int (1 : Int32))]) pn_6 hw rfl ?_
  intro p e s m below meth c T A
  refine A.aloadN (q := 1) d6_0 rfl rfl rfl ?_
  refine A.getF (q := 4) (w := 16) (i := 0) (j := 2) d6_1 rfl rfl rfl rfl ?_
  intro T A
  refine A.iloadN (q := 5) d6_4 rfl rfl ?_
  refine A.baloadZ (q := 6) (i := 3) (v := (.int (0 : Int32))) d6_5 rfl rfl (by decide) rfl ?_
  refine A.ifF (q := 9) d6_6 rfl (by decide) ?_
  refine A.aloadN (q := 10) d6_9 rfl rfl rfl ?_
  refine A.getF (q := 13) (w := 18) (i := 0) (j := 3) d6_10 rfl rfl rfl rfl ?_
  intro T A
  refine A.iloadN (q := 14) d6_13 rfl rfl ?_
  refine A.baloadZ (q := 15) (i := 4) (v := (.int (1 : Int32))) d6_14 rfl rfl (by decide) rfl ?_
  refine A.ifT (r := 42) d6_15 (by decide) (by decide) ?_
  refine A.aloadN (q := 43) d6_42 rfl rfl rfl ?_
  refine A.getF (q := 46) (w := 11) (i := 0) (j := 0) d6_43 rfl rfl rfl rfl ?_
  intro T A
  refine A.iloadN (q := 47) d6_46 rfl rfl ?_
  refine A.baloadZ (q := 48) (i := 1) (v := (.int p5)) d6_47 rfl rfl (by decide) rfl ?_
  exact A.retZ (v := p5) d6_48 z_p5 (by decide) (by decide) ⟨rfl, rfl⟩
set_option maxRecDepth 65536 in
set_option maxHeartbeats 8000000 in
theorem rm9_8 (l : Launch) (Z : State) (a0 : Array Value) (hw : ∀ d ∈ tables_1, d.before a0 Z = true) (n0 : Nat) (r0 : Addr) (r1 : Addr) (r2 : Addr) (r3 : Addr) (r4 : Addr) (p5 : Int32) (RR : Obs) (z_p5 : nar .boolean p5 = p5) :
    Triple l Z n0 (⟨"com/example/proof_of_scan/proofofscan/Choices", "forgetTaken", "()V"⟩ : MethodName) prog_2_method_10_code 2 none ({ frames := 0, cells := 0, slots := 0, locals := 0 } : Room) 0 0 [(.ref r0)] ((r0, ob0 (.ref r1) (.ref r2) (.ref r3) (.ref r4) (.int (1 : Int32))) :: (r1, .inr (.boolean, [(.int (0 : Int32)), (.int p5), (.int (1 : Int32))])) :: (r2, .inr (.int, [(.int (2 : Int32)), (.int (0 : Int32)), (.int (0 : Int32))])) :: (r3, .inr (.boolean, [(.int (0 : Int32)), (.int (0 : Int32)), (.int (1 : Int32))])) :: (r4, .inr (.boolean, [(.int (0 : Int32)), (.int (1 : Int32)), (.int (0 : Int32))])) :: RR) (fun v L' => v = none ∧ L' = ((r0, ob0 (.ref r1) (.ref r2) (.ref r3) (.ref r4) (.int (0 : Int32))) :: (r1, .inr (.boolean, [(.int (0 : Int32)), (.int p5), (.int (1 : Int32))])) :: (r2, .inr (.int, [(.int (2 : Int32)), (.int (0 : Int32)), (.int (0 : Int32))])) :: (r3, .inr (.boolean, [(.int (0 : Int32)), (.int (0 : Int32)), (.int (0 : Int32))])) :: (r4, .inr (.boolean, [(.int (0 : Int32)), (.int (1 : Int32)), (.int (0 : Int32))])) :: RR)) := by
  refine Triple.of_body (tbl := tables_1) (a0 := a0) (Ls := #[.val (.ref r0), .unset]) pn_9 hw rfl ?_
  intro p e s m below meth c T A
  refine A.iconst (q := 1) (v := (0 : Int32)) d9_0 rfl (by decide) ?_
  refine A.istoreN (q := 2) (l' := #[.val (.ref r0), .val (.int (0 : Int32))]) d9_1 rfl rfl ?_
  refine A.iloadN (q := 3) d9_2 rfl rfl ?_
  refine A.aloadN (q := 4) d9_3 rfl rfl rfl ?_
  refine A.getF (q := 7) (w := 53) (i := 0) (j := 4) d9_4 rfl rfl rfl rfl ?_
  intro T A
  refine A.icmpF (q := 10) d9_7 rfl (by decide) ?_
  refine A.aloadN (q := 11) d9_10 rfl rfl rfl ?_
  refine A.getF (q := 14) (w := 16) (i := 0) (j := 2) d9_11 rfl rfl rfl rfl ?_
  intro T A
  refine A.aloadN (q := 15) d9_14 rfl rfl rfl ?_
  refine A.getF (q := 18) (w := 14) (i := 0) (j := 1) d9_15 rfl rfl rfl rfl ?_
  intro T A
  refine A.iloadN (q := 19) d9_18 rfl rfl ?_
  refine A.iaload (q := 20) (i := 2) (v := (.int (2 : Int32))) d9_19 rfl rfl (by decide) rfl ?_
  refine A.iconst (q := 21) (v := (0 : Int32)) d9_20 rfl (by decide) ?_
  refine A.bastoreZ (q := 22) (i := 3) (x' := (0 : Int32)) (L' := ((r0, ob0 (.ref r1) (.ref r2) (.ref r3) (.ref r4) (.int (1 : Int32))) :: (r1, .inr (.boolean, [(.int (0 : Int32)), (.int p5), (.int (1 : Int32))])) :: (r2, .inr (.int, [(.int (2 : Int32)), (.int (0 : Int32)), (.int (0 : Int32))])) :: (r3, .inr (.boolean, [(.int (0 : Int32)), (.int (0 : Int32)), (.int (0 : Int32))])) :: (r4, .inr (.boolean, [(.int (0 : Int32)), (.int (1 : Int32)), (.int (0 : Int32))])) :: RR)) d9_21 rfl rfl (by decide) (by show Int32.toNatClampNeg (2 : Int32) < 3; decide) (by decide) rfl ?_
  intro T A
  refine A.iinc (q := 25) (v := (1 : Int32)) (l' := #[.val (.ref r0), .val (.int (1 : Int32))]) d9_22 rfl rfl (by decide) rfl ?_
  refine A.goto (r := 2) d9_25 (by decide) ?_
  refine A.iloadN (q := 3) d9_2 rfl rfl ?_
  refine A.aloadN (q := 4) d9_3 rfl rfl rfl ?_
  refine A.getF (q := 7) (w := 53) (i := 0) (j := 4) d9_4 rfl rfl rfl rfl ?_
  intro T A
  refine A.icmpT (r := 28) d9_7 (by decide) (by decide) ?_
  refine A.aloadN (q := 29) d9_28 rfl rfl rfl ?_
  refine A.iconst (q := 30) (v := (0 : Int32)) d9_29 rfl (by decide) ?_
  refine A.putF (q := 33) (w := 53) (w2 := 54) (w3 := 2) (i := 0) (j := 4) (ty := .int) (v' := (.int (0 : Int32))) (L' := ((r0, ob0 (.ref r1) (.ref r2) (.ref r3) (.ref r4) (.int (0 : Int32))) :: (r1, .inr (.boolean, [(.int (0 : Int32)), (.int p5), (.int (1 : Int32))])) :: (r2, .inr (.int, [(.int (2 : Int32)), (.int (0 : Int32)), (.int (0 : Int32))])) :: (r3, .inr (.boolean, [(.int (0 : Int32)), (.int (0 : Int32)), (.int (0 : Int32))])) :: (r4, .inr (.boolean, [(.int (0 : Int32)), (.int (1 : Int32)), (.int (0 : Int32))])) :: RR)) d9_30 rfl rfl rfl rfl (lay_0 Z a0 hw) (Or.inl rfl) rfl (by decide) rfl rfl rfl ?_
  intro T A
  exact A.retV d9_33 (by decide) (by decide) ⟨rfl, rfl⟩
set_option maxRecDepth 65536 in
set_option maxHeartbeats 8000000 in
theorem rm7_6 (l : Launch) (Z : State) (a0 : Array Value) (hw : ∀ d ∈ tables_1, d.before a0 Z = true) (n0 : Nat) (r0 : Addr) (r1 : Addr) (r2 : Addr) (r3 : Addr) (r4 : Addr) (p5 : Int32) (RR : Obs) (z_p5 : nar .boolean p5 = p5) :
    Triple l Z n0 (⟨"com/example/proof_of_scan/proofofscan/Choices", "next", "()Z"⟩ : MethodName) prog_2_method_9_code 3 (some .boolean) ({ frames := 1, cells := 0, slots := 0, locals := 13 } : Room) 0 0 [(.ref r0)] ((r0, ob0 (.ref r1) (.ref r2) (.ref r3) (.ref r4) (.int (1 : Int32))) :: (r1, .inr (.boolean, [(.int (0 : Int32)), (.int p5), (.int (0 : Int32))])) :: (r2, .inr (.int, [(.int (2 : Int32)), (.int (0 : Int32)), (.int (0 : Int32))])) :: (r3, .inr (.boolean, [(.int (0 : Int32)), (.int (0 : Int32)), (.int (1 : Int32))])) :: (r4, .inr (.boolean, [(.int (0 : Int32)), (.int (1 : Int32)), (.int (0 : Int32))])) :: RR) (fun v L' => v = some (.int (1 : Int32)) ∧ L' = ((r0, ob0 (.ref r1) (.ref r2) (.ref r3) (.ref r4) (.int (0 : Int32))) :: (r1, .inr (.boolean, [(.int (0 : Int32)), (.int p5), (.int (1 : Int32))])) :: (r2, .inr (.int, [(.int (2 : Int32)), (.int (0 : Int32)), (.int (0 : Int32))])) :: (r3, .inr (.boolean, [(.int (0 : Int32)), (.int (0 : Int32)), (.int (0 : Int32))])) :: (r4, .inr (.boolean, [(.int (0 : Int32)), (.int (1 : Int32)), (.int (0 : Int32))])) :: RR)) := by
  refine Triple.of_body (tbl := tables_1) (a0 := a0) (Ls := #[.val (.ref r0), .unset, .unset]) pn_7 hw rfl ?_
  intro p e s m below meth c T A
  refine A.aloadN (q := 1) d7_0 rfl rfl rfl ?_
  refine A.getF (q := 4) (w := 53) (i := 0) (j := 4) d7_1 rfl rfl rfl rfl ?_
  intro T A
  refine A.iconst (q := 5) (v := (1 : Int32)) d7_4 rfl (by decide) ?_
  refine A.isub (q := 6) (v := (0 : Int32)) d7_5 rfl (by decide) ?_
  refine A.istoreN (q := 7) (l' := #[.val (.ref r0), .val (.int (0 : Int32)), .unset]) d7_6 rfl rfl ?_
  refine A.iloadN (q := 8) d7_7 rfl rfl ?_
  refine A.ifF (q := 11) d7_8 rfl (by decide) ?_
  refine A.aloadN (q := 12) d7_11 rfl rfl rfl ?_
  refine A.getF (q := 15) (w := 11) (i := 0) (j := 0) d7_12 rfl rfl rfl rfl ?_
  intro T A
  refine A.aloadN (q := 16) d7_15 rfl rfl rfl ?_
  refine A.getF (q := 19) (w := 14) (i := 0) (j := 1) d7_16 rfl rfl rfl rfl ?_
  intro T A
  refine A.iloadN (q := 20) d7_19 rfl rfl ?_
  refine A.iaload (q := 21) (i := 2) (v := (.int (2 : Int32))) d7_20 rfl rfl (by decide) rfl ?_
  refine A.baloadZ (q := 22) (i := 1) (v := (.int (0 : Int32))) d7_21 rfl rfl (by decide) rfl ?_
  refine A.ifT (r := 31) d7_22 (by decide) (by decide) ?_
  refine A.iloadN (q := 32) d7_31 rfl rfl ?_
  refine A.ifT (r := 37) d7_32 (by decide) (by decide) ?_
  refine A.aloadN (q := 38) d7_37 rfl rfl rfl ?_
  refine A.getF (q := 41) (w := 11) (i := 0) (j := 0) d7_38 rfl rfl rfl rfl ?_
  intro T A
  refine A.aloadN (q := 42) d7_41 rfl rfl rfl ?_
  refine A.getF (q := 45) (w := 14) (i := 0) (j := 1) d7_42 rfl rfl rfl rfl ?_
  intro T A
  refine A.iloadN (q := 46) d7_45 rfl rfl ?_
  refine A.iaload (q := 47) (i := 2) (v := (.int (2 : Int32))) d7_46 rfl rfl (by decide) rfl ?_
  refine A.iconst (q := 48) (v := (1 : Int32)) d7_47 rfl (by decide) ?_
  refine A.bastoreZ (q := 49) (i := 1) (x' := (1 : Int32)) (L' := ((r0, ob0 (.ref r1) (.ref r2) (.ref r3) (.ref r4) (.int (1 : Int32))) :: (r1, .inr (.boolean, [(.int (0 : Int32)), (.int p5), (.int (1 : Int32))])) :: (r2, .inr (.int, [(.int (2 : Int32)), (.int (0 : Int32)), (.int (0 : Int32))])) :: (r3, .inr (.boolean, [(.int (0 : Int32)), (.int (0 : Int32)), (.int (1 : Int32))])) :: (r4, .inr (.boolean, [(.int (0 : Int32)), (.int (1 : Int32)), (.int (0 : Int32))])) :: RR)) d7_48 rfl rfl (by decide) (by show Int32.toNatClampNeg (2 : Int32) < 3; decide) (by decide) rfl ?_
  intro T A
  refine A.iloadN (q := 50) d7_49 rfl rfl ?_
  refine A.iconst (q := 51) (v := (1 : Int32)) d7_50 rfl (by decide) ?_
  refine A.iadd (q := 52) (v := (1 : Int32)) d7_51 rfl (by decide) ?_
  refine A.istoreN (q := 53) (l' := #[.val (.ref r0), .val (.int (0 : Int32)), .val (.int (1 : Int32))]) d7_52 rfl rfl ?_
  refine A.iloadN (q := 54) d7_53 rfl rfl ?_
  refine A.aloadN (q := 55) d7_54 rfl rfl rfl ?_
  refine A.getF (q := 58) (w := 53) (i := 0) (j := 4) d7_55 rfl rfl rfl rfl ?_
  intro T A
  refine A.icmpT (r := 79) d7_58 (by decide) (by decide) ?_
  refine A.aloadN (q := 80) d7_79 rfl rfl rfl ?_
  refine A.callP (q := 83) (i := 0) (w1 := 60) (w2 := 62) (w3 := 3) (w4 := 63) (w5 := 2) (w6 := 61) (a := r0) (as := []) (st := []) (W := 0) d7_80 rfl rfl rfl rfl rfl rfl rfl rfl (rm9_8 l Z a0 hw n0 r0 r1 r2 r3 r4 p5 _ z_p5) (by decide) ⟨_, _, pd_6, rfl⟩ rfl rfl rfl (by decide) (by decide) (by decide) (by decide) ?_
  rintro _ T _ ⟨rfl, rfl⟩ A
  show Go p e below _ (T.setTop (mkF m 83 #[.val (.ref r0), .val (.int (0 : Int32)), .val (.int (1 : Int32))] []))
  refine A.iconst (q := 84) (v := (1 : Int32)) d7_83 rfl (by decide) ?_
  exact A.retZ (v := (1 : Int32)) d7_84 (by decide) (by decide) (by decide) ⟨rfl, rfl⟩
set_option maxRecDepth 65536 in
set_option maxHeartbeats 8000000 in
theorem rm4_8 (l : Launch) (Z : State) (a0 : Array Value) (hw : ∀ d ∈ tables_1, d.before a0 Z = true) (n0 : Nat) (r0 : Addr) (r1 : Addr) (r2 : Addr) (r3 : Addr) (r4 : Addr) (p5 : Int32) (RR : Obs) (z_p5 : nar .boolean p5 = p5) :
    Triple l Z n0 (⟨"com/example/proof_of_scan/proofofscan/Choices", "values", "()[Z"⟩ : MethodName) prog_2_method_7_code 1 (some (.array .boolean)) ({ frames := 1, cells := 1, slots := 3, locals := 14 } : Room) 1 3 [(.ref r0)] ((r0, ob0 (.ref r1) (.ref r2) (.ref r3) (.ref r4) (.int (0 : Int32))) :: (r1, .inr (.boolean, [(.int (0 : Int32)), (.int p5), (.int (1 : Int32))])) :: (r2, .inr (.int, [(.int (2 : Int32)), (.int (0 : Int32)), (.int (0 : Int32))])) :: (r3, .inr (.boolean, [(.int (0 : Int32)), (.int (0 : Int32)), (.int (0 : Int32))])) :: (r4, .inr (.boolean, [(.int (0 : Int32)), (.int (1 : Int32)), (.int (0 : Int32))])) :: RR) (fun v L' => ∃ b1 : Addr, v = some (.ref b1) ∧ L' = ((b1, .inr (.boolean, [(.int (0 : Int32)), (.int p5), (.int (1 : Int32))])) :: (r0, ob0 (.ref r1) (.ref r2) (.ref r3) (.ref r4) (.int (0 : Int32))) :: (r1, .inr (.boolean, [(.int (0 : Int32)), (.int p5), (.int (1 : Int32))])) :: (r2, .inr (.int, [(.int (2 : Int32)), (.int (0 : Int32)), (.int (0 : Int32))])) :: (r3, .inr (.boolean, [(.int (0 : Int32)), (.int (0 : Int32)), (.int (0 : Int32))])) :: (r4, .inr (.boolean, [(.int (0 : Int32)), (.int (1 : Int32)), (.int (0 : Int32))])) :: RR)) := by
  refine Triple.of_body (tbl := tables_1) (a0 := a0) (Ls := #[.val (.ref r0)]) pn_4 hw rfl ?_
  intro p e s m below meth c T A
  refine A.aloadN (q := 1) d4_0 rfl rfl rfl ?_
  refine A.getF (q := 4) (w := 11) (i := 0) (j := 0) d4_1 rfl rfl rfl rfl ?_
  intro T A
  refine A.clone (q := 7) (i := 1) (w1 := 30) (w2 := 31) (w3 := 35) (w4 := 33) (w5 := 34) (w6 := 36) (W := 0) (cap := 3) (ad := "[Z") d4_4 rfl rfl (by decide) rfl rfl rfl rfl rfl rfl rfl rfl (by decide) (by decide) (Nat.le_refl _) (by decide) (by decide) ?_
  intro T b1 A
  refine A.castArr (q := 10) (w := 37) (i := 0) d4_7 rfl rfl rfl (by decide) ?_
  intro T A
  exact A.retA d4_10 rfl rfl rfl (by decide) (by decide) ⟨b1, rfl, rfl⟩
set_option maxRecDepth 65536 in
set_option maxHeartbeats 8000000 in
theorem rm5_6 (l : Launch) (Z : State) (a0 : Array Value) (hw : ∀ d ∈ tables_1, d.before a0 Z = true) (n0 : Nat) (r0 : Addr) (p1 : Int32) (RR : Obs) (z_p1 : nar .boolean p1 = p1) :
    Triple l Z n0 (⟨"com/example/proof_of_scan/proofofscan/ChoicesHoldPinLaw", "same", "([ZIZI)Z"⟩ : MethodName) method_2_code 7 (some .boolean) ({ frames := 0, cells := 0, slots := 0, locals := 0 } : Room) 0 0 [(.ref r0), (.int (1 : Int32)), (.int p1), (.int (2 : Int32))] ((r0, .inr (.boolean, [(.int (0 : Int32)), (.int p1), (.int (1 : Int32))])) :: RR) (fun v L' => v = some (.int (1 : Int32)) ∧ L' = ((r0, .inr (.boolean, [(.int (0 : Int32)), (.int p1), (.int (1 : Int32))])) :: RR)) := by
  refine Triple.of_body (tbl := tables_1) (a0 := a0) (Ls := #[.val (.ref r0), .val (.int (1 : Int32)), .val (.int p1), .val (.int (2 : Int32)), .unset, .unset, .unset]) pn_5 hw rfl ?_
  intro p e s m below meth c T A
  refine A.aloadN (q := 1) d5_0 rfl rfl rfl ?_
  refine A.arraylength (q := 2) (i := 0) (v := (3 : Int32)) d5_1 rfl rfl (by show Nat.toInt32 3 = 3; decide) ?_
  refine A.iconst (q := 3) (v := (3 : Int32)) d5_2 rfl (by decide) ?_
  refine A.icmpT (r := 8) d5_3 (by decide) (by decide) ?_
  refine A.iconst (q := 9) (v := (0 : Int32)) d5_8 rfl (by decide) ?_
  refine A.iloadN (q := 10) d5_9 rfl rfl ?_
  refine A.icmpT (r := 17) d5_10 (by decide) (by decide) ?_
  refine A.iconst (q := 18) (v := (0 : Int32)) d5_17 rfl (by decide) ?_
  refine A.iloadN (q := 19) d5_18 rfl rfl ?_
  refine A.icmpT (r := 26) d5_19 (by decide) (by decide) ?_
  refine A.iconst (q := 27) (v := (0 : Int32)) d5_26 rfl (by decide) ?_
  refine A.istore (q := 29) (l' := #[.val (.ref r0), .val (.int (1 : Int32)), .val (.int p1), .val (.int (2 : Int32)), .val (.int (0 : Int32)), .unset, .unset]) d5_27 rfl rfl ?_
  refine A.iconst (q := 30) (v := (1 : Int32)) d5_29 rfl (by decide) ?_
  refine A.iloadN (q := 31) d5_30 rfl rfl ?_
  refine A.icmpF (q := 34) d5_31 rfl (by decide) ?_
  refine A.iloadN (q := 35) d5_34 rfl rfl ?_
  refine A.goto (r := 48) d5_35 (by decide) ?_
  refine A.istore (q := 50) (l' := #[.val (.ref r0), .val (.int (1 : Int32)), .val (.int p1), .val (.int (2 : Int32)), .val (.int (0 : Int32)), .val (.int p1), .unset]) d5_48 rfl rfl ?_
  refine A.iconst (q := 51) (v := (2 : Int32)) d5_50 rfl (by decide) ?_
  refine A.iloadN (q := 52) d5_51 rfl rfl ?_
  refine A.icmpT (r := 59) d5_52 (by decide) (by decide) ?_
  refine A.iconst (q := 60) (v := (2 : Int32)) d5_59 rfl (by decide) ?_
  refine A.iloadN (q := 61) d5_60 rfl rfl ?_
  refine A.icmpF (q := 64) d5_61 rfl (by decide) ?_
  refine A.iconst (q := 65) (v := (1 : Int32)) d5_64 rfl (by decide) ?_
  refine A.goto (r := 69) d5_65 (by decide) ?_
  refine A.istore (q := 71) (l' := #[.val (.ref r0), .val (.int (1 : Int32)), .val (.int p1), .val (.int (2 : Int32)), .val (.int (0 : Int32)), .val (.int p1), .val (.int (1 : Int32))]) d5_69 rfl rfl ?_
  refine A.aloadN (q := 72) d5_71 rfl rfl rfl ?_
  refine A.iconst (q := 73) (v := (0 : Int32)) d5_72 rfl (by decide) ?_
  refine A.baloadZ (q := 74) (i := 0) (v := (.int (0 : Int32))) d5_73 rfl rfl (by decide) rfl ?_
  refine A.iload (q := 76) d5_74 rfl rfl ?_
  refine A.icmpF (q := 79) d5_76 rfl (by decide) ?_
  refine A.aloadN (q := 80) d5_79 rfl rfl rfl ?_
  refine A.iconst (q := 81) (v := (1 : Int32)) d5_80 rfl (by decide) ?_
  refine A.baloadZ (q := 82) (i := 0) (v := (.int p1)) d5_81 rfl rfl (by decide) rfl ?_
  refine A.iload (q := 84) d5_82 rfl rfl ?_
  refine A.icmpF (q := 87) d5_84 rfl (teq rfl).2 ?_
  refine A.aloadN (q := 88) d5_87 rfl rfl rfl ?_
  refine A.iconst (q := 89) (v := (2 : Int32)) d5_88 rfl (by decide) ?_
  refine A.baloadZ (q := 90) (i := 0) (v := (.int (1 : Int32))) d5_89 rfl rfl (by decide) rfl ?_
  refine A.iload (q := 92) d5_90 rfl rfl ?_
  refine A.icmpF (q := 95) d5_92 rfl (by decide) ?_
  refine A.iconst (q := 96) (v := (1 : Int32)) d5_95 rfl (by decide) ?_
  refine A.goto (r := 100) d5_96 (by decide) ?_
  exact A.retZ (v := (1 : Int32)) d5_100 (by decide) (by decide) (by decide) ⟨rfl, rfl⟩
set_option maxRecDepth 65536 in
set_option maxHeartbeats 8000000 in
theorem rm9_9 (l : Launch) (Z : State) (a0 : Array Value) (hw : ∀ d ∈ tables_1, d.before a0 Z = true) (n0 : Nat) (r0 : Addr) (r1 : Addr) (r2 : Addr) (r3 : Addr) (r4 : Addr) (p5 : Int32) (RR : Obs) (z_p5 : nar .boolean p5 = p5) :
    Triple l Z n0 (⟨"com/example/proof_of_scan/proofofscan/Choices", "forgetTaken", "()V"⟩ : MethodName) prog_2_method_10_code 2 none ({ frames := 0, cells := 0, slots := 0, locals := 0 } : Room) 0 0 [(.ref r0)] ((r0, ob0 (.ref r1) (.ref r2) (.ref r3) (.ref r4) (.int (0 : Int32))) :: (r1, .inr (.boolean, [(.int (0 : Int32)), (.int p5), (.int (0 : Int32))])) :: (r2, .inr (.int, [(.int (2 : Int32)), (.int (0 : Int32)), (.int (0 : Int32))])) :: (r3, .inr (.boolean, [(.int (0 : Int32)), (.int (0 : Int32)), (.int (0 : Int32))])) :: (r4, .inr (.boolean, [(.int (0 : Int32)), (.int (1 : Int32)), (.int (0 : Int32))])) :: RR) (fun v L' => v = none ∧ L' = ((r0, ob0 (.ref r1) (.ref r2) (.ref r3) (.ref r4) (.int (0 : Int32))) :: (r1, .inr (.boolean, [(.int (0 : Int32)), (.int p5), (.int (0 : Int32))])) :: (r2, .inr (.int, [(.int (2 : Int32)), (.int (0 : Int32)), (.int (0 : Int32))])) :: (r3, .inr (.boolean, [(.int (0 : Int32)), (.int (0 : Int32)), (.int (0 : Int32))])) :: (r4, .inr (.boolean, [(.int (0 : Int32)), (.int (1 : Int32)), (.int (0 : Int32))])) :: RR)) := by
  refine Triple.of_body (tbl := tables_1) (a0 := a0) (Ls := #[.val (.ref r0), .unset]) pn_9 hw rfl ?_
  intro p e s m below meth c T A
  refine A.iconst (q := 1) (v := (0 : Int32)) d9_0 rfl (by decide) ?_
  refine A.istoreN (q := 2) (l' := #[.val (.ref r0), .val (.int (0 : Int32))]) d9_1 rfl rfl ?_
  refine A.iloadN (q := 3) d9_2 rfl rfl ?_
  refine A.aloadN (q := 4) d9_3 rfl rfl rfl ?_
  refine A.getF (q := 7) (w := 53) (i := 0) (j := 4) d9_4 rfl rfl rfl rfl ?_
  intro T A
  refine A.icmpT (r := 28) d9_7 (by decide) (by decide) ?_
  refine A.aloadN (q := 29) d9_28 rfl rfl rfl ?_
  refine A.iconst (q := 30) (v := (0 : Int32)) d9_29 rfl (by decide) ?_
  refine A.putF (q := 33) (w := 53) (w2 := 54) (w3 := 2) (i := 0) (j := 4) (ty := .int) (v' := (.int (0 : Int32))) (L' := ((r0, ob0 (.ref r1) (.ref r2) (.ref r3) (.ref r4) (.int (0 : Int32))) :: (r1, .inr (.boolean, [(.int (0 : Int32)), (.int p5), (.int (0 : Int32))])) :: (r2, .inr (.int, [(.int (2 : Int32)), (.int (0 : Int32)), (.int (0 : Int32))])) :: (r3, .inr (.boolean, [(.int (0 : Int32)), (.int (0 : Int32)), (.int (0 : Int32))])) :: (r4, .inr (.boolean, [(.int (0 : Int32)), (.int (1 : Int32)), (.int (0 : Int32))])) :: RR)) d9_30 rfl rfl rfl rfl (lay_0 Z a0 hw) (Or.inl rfl) rfl (by decide) rfl rfl rfl ?_
  intro T A
  exact A.retV d9_33 (by decide) (by decide) ⟨rfl, rfl⟩
set_option maxRecDepth 65536 in
set_option maxHeartbeats 8000000 in
theorem rm8_6 (l : Launch) (Z : State) (a0 : Array Value) (hw : ∀ d ∈ tables_1, d.before a0 Z = true) (n0 : Nat) (r0 : Addr) (r1 : Addr) (r2 : Addr) (r3 : Addr) (r4 : Addr) (p5 : Int32) (RR : Obs) (z_p5 : nar .boolean p5 = p5) :
    Triple l Z n0 (⟨"com/example/proof_of_scan/proofofscan/Choices", "reset", "()V"⟩ : MethodName) prog_2_method_8_code 2 none ({ frames := 1, cells := 0, slots := 0, locals := 13 } : Room) 0 0 [(.ref r0)] ((r0, ob0 (.ref r1) (.ref r2) (.ref r3) (.ref r4) (.int (0 : Int32))) :: (r1, .inr (.boolean, [(.int (0 : Int32)), (.int p5), (.int (1 : Int32))])) :: (r2, .inr (.int, [(.int (2 : Int32)), (.int (0 : Int32)), (.int (0 : Int32))])) :: (r3, .inr (.boolean, [(.int (0 : Int32)), (.int (0 : Int32)), (.int (0 : Int32))])) :: (r4, .inr (.boolean, [(.int (0 : Int32)), (.int (1 : Int32)), (.int (0 : Int32))])) :: RR) (fun v L' => v = none ∧ L' = ((r0, ob0 (.ref r1) (.ref r2) (.ref r3) (.ref r4) (.int (0 : Int32))) :: (r1, .inr (.boolean, [(.int (0 : Int32)), (.int p5), (.int (0 : Int32))])) :: (r2, .inr (.int, [(.int (2 : Int32)), (.int (0 : Int32)), (.int (0 : Int32))])) :: (r3, .inr (.boolean, [(.int (0 : Int32)), (.int (0 : Int32)), (.int (0 : Int32))])) :: (r4, .inr (.boolean, [(.int (0 : Int32)), (.int (1 : Int32)), (.int (0 : Int32))])) :: RR)) := by
  refine Triple.of_body (tbl := tables_1) (a0 := a0) (Ls := #[.val (.ref r0), .unset]) pn_8 hw rfl ?_
  intro p e s m below meth c T A
  refine A.iconst (q := 1) (v := (0 : Int32)) d8_0 rfl (by decide) ?_
  refine A.istoreN (q := 2) (l' := #[.val (.ref r0), .val (.int (0 : Int32))]) d8_1 rfl rfl ?_
  refine A.iloadN (q := 3) d8_2 rfl rfl ?_
  refine A.aloadN (q := 4) d8_3 rfl rfl rfl ?_
  refine A.getF (q := 7) (w := 11) (i := 0) (j := 0) d8_4 rfl rfl rfl rfl ?_
  intro T A
  refine A.arraylength (q := 8) (i := 1) (v := (3 : Int32)) d8_7 rfl rfl (by show Nat.toInt32 3 = 3; decide) ?_
  refine A.icmpF (q := 11) d8_8 rfl (by decide) ?_
  refine A.aloadN (q := 12) d8_11 rfl rfl rfl ?_
  refine A.getF (q := 15) (w := 11) (i := 0) (j := 0) d8_12 rfl rfl rfl rfl ?_
  intro T A
  refine A.iloadN (q := 16) d8_15 rfl rfl ?_
  refine A.dup2 (q := 17) d8_16 rfl rfl rfl ?_
  refine A.baloadZ (q := 18) (i := 1) (v := (.int (0 : Int32))) d8_17 rfl rfl (by decide) rfl ?_
  refine A.aloadN (q := 19) d8_18 rfl rfl rfl ?_
  refine A.getF (q := 22) (w := 18) (i := 0) (j := 3) d8_19 rfl rfl rfl rfl ?_
  intro T A
  refine A.iloadN (q := 23) d8_22 rfl rfl ?_
  refine A.baloadZ (q := 24) (i := 4) (v := (.int (0 : Int32))) d8_23 rfl rfl (by decide) rfl ?_
  refine A.iand (q := 25) (v := (0 : Int32)) d8_24 rfl (by decide) ?_
  refine A.bastoreZ (q := 26) (i := 1) (x' := (0 : Int32)) (L' := ((r0, ob0 (.ref r1) (.ref r2) (.ref r3) (.ref r4) (.int (0 : Int32))) :: (r1, .inr (.boolean, [(.int (0 : Int32)), (.int p5), (.int (1 : Int32))])) :: (r2, .inr (.int, [(.int (2 : Int32)), (.int (0 : Int32)), (.int (0 : Int32))])) :: (r3, .inr (.boolean, [(.int (0 : Int32)), (.int (0 : Int32)), (.int (0 : Int32))])) :: (r4, .inr (.boolean, [(.int (0 : Int32)), (.int (1 : Int32)), (.int (0 : Int32))])) :: RR)) d8_25 rfl rfl (by decide) (by show Int32.toNatClampNeg (0 : Int32) < 3; decide) (by decide) rfl ?_
  intro T A
  refine A.iinc (q := 29) (v := (1 : Int32)) (l' := #[.val (.ref r0), .val (.int (1 : Int32))]) d8_26 rfl rfl (by decide) rfl ?_
  refine A.goto (r := 2) d8_29 (by decide) ?_
  refine A.iloadN (q := 3) d8_2 rfl rfl ?_
  refine A.aloadN (q := 4) d8_3 rfl rfl rfl ?_
  refine A.getF (q := 7) (w := 11) (i := 0) (j := 0) d8_4 rfl rfl rfl rfl ?_
  intro T A
  refine A.arraylength (q := 8) (i := 1) (v := (3 : Int32)) d8_7 rfl rfl (by show Nat.toInt32 3 = 3; decide) ?_
  refine A.icmpF (q := 11) d8_8 rfl (by decide) ?_
  refine A.aloadN (q := 12) d8_11 rfl rfl rfl ?_
  refine A.getF (q := 15) (w := 11) (i := 0) (j := 0) d8_12 rfl rfl rfl rfl ?_
  intro T A
  refine A.iloadN (q := 16) d8_15 rfl rfl ?_
  refine A.dup2 (q := 17) d8_16 rfl rfl rfl ?_
  refine A.baloadZ (q := 18) (i := 1) (v := (.int p5)) d8_17 rfl rfl (by decide) rfl ?_
  refine A.aloadN (q := 19) d8_18 rfl rfl rfl ?_
  refine A.getF (q := 22) (w := 18) (i := 0) (j := 3) d8_19 rfl rfl rfl rfl ?_
  intro T A
  refine A.iloadN (q := 23) d8_22 rfl rfl ?_
  refine A.baloadZ (q := 24) (i := 4) (v := (.int (1 : Int32))) d8_23 rfl rfl (by decide) rfl ?_
  refine A.iand (q := 25) (v := p5) d8_24 rfl z_p5 ?_
  refine A.bastoreZ (q := 26) (i := 1) (x' := p5) (L' := ((r0, ob0 (.ref r1) (.ref r2) (.ref r3) (.ref r4) (.int (0 : Int32))) :: (r1, .inr (.boolean, [(.int (0 : Int32)), (.int p5), (.int (1 : Int32))])) :: (r2, .inr (.int, [(.int (2 : Int32)), (.int (0 : Int32)), (.int (0 : Int32))])) :: (r3, .inr (.boolean, [(.int (0 : Int32)), (.int (0 : Int32)), (.int (0 : Int32))])) :: (r4, .inr (.boolean, [(.int (0 : Int32)), (.int (1 : Int32)), (.int (0 : Int32))])) :: RR)) d8_25 rfl rfl (by decide) (by show Int32.toNatClampNeg (1 : Int32) < 3; decide) z_p5 rfl ?_
  intro T A
  refine A.iinc (q := 29) (v := (2 : Int32)) (l' := #[.val (.ref r0), .val (.int (2 : Int32))]) d8_26 rfl rfl (by decide) rfl ?_
  refine A.goto (r := 2) d8_29 (by decide) ?_
  refine A.iloadN (q := 3) d8_2 rfl rfl ?_
  refine A.aloadN (q := 4) d8_3 rfl rfl rfl ?_
  refine A.getF (q := 7) (w := 11) (i := 0) (j := 0) d8_4 rfl rfl rfl rfl ?_
  intro T A
  refine A.arraylength (q := 8) (i := 1) (v := (3 : Int32)) d8_7 rfl rfl (by show Nat.toInt32 3 = 3; decide) ?_
  refine A.icmpF (q := 11) d8_8 rfl (by decide) ?_
  refine A.aloadN (q := 12) d8_11 rfl rfl rfl ?_
  refine A.getF (q := 15) (w := 11) (i := 0) (j := 0) d8_12 rfl rfl rfl rfl ?_
  intro T A
  refine A.iloadN (q := 16) d8_15 rfl rfl ?_
  refine A.dup2 (q := 17) d8_16 rfl rfl rfl ?_
  refine A.baloadZ (q := 18) (i := 1) (v := (.int (1 : Int32))) d8_17 rfl rfl (by decide) rfl ?_
  refine A.aloadN (q := 19) d8_18 rfl rfl rfl ?_
  refine A.getF (q := 22) (w := 18) (i := 0) (j := 3) d8_19 rfl rfl rfl rfl ?_
  intro T A
  refine A.iloadN (q := 23) d8_22 rfl rfl ?_
  refine A.baloadZ (q := 24) (i := 4) (v := (.int (0 : Int32))) d8_23 rfl rfl (by decide) rfl ?_
  refine A.iand (q := 25) (v := (0 : Int32)) d8_24 rfl (by decide) ?_
  refine A.bastoreZ (q := 26) (i := 1) (x' := (0 : Int32)) (L' := ((r0, ob0 (.ref r1) (.ref r2) (.ref r3) (.ref r4) (.int (0 : Int32))) :: (r1, .inr (.boolean, [(.int (0 : Int32)), (.int p5), (.int (0 : Int32))])) :: (r2, .inr (.int, [(.int (2 : Int32)), (.int (0 : Int32)), (.int (0 : Int32))])) :: (r3, .inr (.boolean, [(.int (0 : Int32)), (.int (0 : Int32)), (.int (0 : Int32))])) :: (r4, .inr (.boolean, [(.int (0 : Int32)), (.int (1 : Int32)), (.int (0 : Int32))])) :: RR)) d8_25 rfl rfl (by decide) (by show Int32.toNatClampNeg (2 : Int32) < 3; decide) (by decide) rfl ?_
  intro T A
  refine A.iinc (q := 29) (v := (3 : Int32)) (l' := #[.val (.ref r0), .val (.int (3 : Int32))]) d8_26 rfl rfl (by decide) rfl ?_
  refine A.goto (r := 2) d8_29 (by decide) ?_
  refine A.iloadN (q := 3) d8_2 rfl rfl ?_
  refine A.aloadN (q := 4) d8_3 rfl rfl rfl ?_
  refine A.getF (q := 7) (w := 11) (i := 0) (j := 0) d8_4 rfl rfl rfl rfl ?_
  intro T A
  refine A.arraylength (q := 8) (i := 1) (v := (3 : Int32)) d8_7 rfl rfl (by show Nat.toInt32 3 = 3; decide) ?_
  refine A.icmpT (r := 32) d8_8 (by decide) (by decide) ?_
  refine A.aloadN (q := 33) d8_32 rfl rfl rfl ?_
  refine A.callP (q := 36) (i := 0) (w1 := 60) (w2 := 62) (w3 := 3) (w4 := 63) (w5 := 2) (w6 := 61) (a := r0) (as := []) (st := []) (W := 0) d8_33 rfl rfl rfl rfl rfl rfl rfl rfl (rm9_9 l Z a0 hw n0 r0 r1 r2 r3 r4 p5 _ z_p5) (by decide) ⟨_, _, pd_6, rfl⟩ rfl rfl rfl (by decide) (by decide) (by decide) (by decide) ?_
  rintro _ T _ ⟨rfl, rfl⟩ A
  show Go p e below _ (T.setTop (mkF m 36 #[.val (.ref r0), .val (.int (3 : Int32))] []))
  exact A.retV d8_36 (by decide) (by decide) ⟨rfl, rfl⟩
set_option maxRecDepth 65536 in
set_option maxHeartbeats 8000000 in
theorem rm4_9 (l : Launch) (Z : State) (a0 : Array Value) (hw : ∀ d ∈ tables_1, d.before a0 Z = true) (n0 : Nat) (r0 : Addr) (r1 : Addr) (r2 : Addr) (r3 : Addr) (r4 : Addr) (p5 : Int32) (RR : Obs) (z_p5 : nar .boolean p5 = p5) :
    Triple l Z n0 (⟨"com/example/proof_of_scan/proofofscan/Choices", "values", "()[Z"⟩ : MethodName) prog_2_method_7_code 1 (some (.array .boolean)) ({ frames := 1, cells := 1, slots := 3, locals := 14 } : Room) 1 3 [(.ref r0)] ((r0, ob0 (.ref r1) (.ref r2) (.ref r3) (.ref r4) (.int (0 : Int32))) :: (r1, .inr (.boolean, [(.int (0 : Int32)), (.int p5), (.int (0 : Int32))])) :: (r2, .inr (.int, [(.int (2 : Int32)), (.int (0 : Int32)), (.int (0 : Int32))])) :: (r3, .inr (.boolean, [(.int (0 : Int32)), (.int (0 : Int32)), (.int (0 : Int32))])) :: (r4, .inr (.boolean, [(.int (0 : Int32)), (.int (1 : Int32)), (.int (0 : Int32))])) :: RR) (fun v L' => ∃ b1 : Addr, v = some (.ref b1) ∧ L' = ((b1, .inr (.boolean, [(.int (0 : Int32)), (.int p5), (.int (0 : Int32))])) :: (r0, ob0 (.ref r1) (.ref r2) (.ref r3) (.ref r4) (.int (0 : Int32))) :: (r1, .inr (.boolean, [(.int (0 : Int32)), (.int p5), (.int (0 : Int32))])) :: (r2, .inr (.int, [(.int (2 : Int32)), (.int (0 : Int32)), (.int (0 : Int32))])) :: (r3, .inr (.boolean, [(.int (0 : Int32)), (.int (0 : Int32)), (.int (0 : Int32))])) :: (r4, .inr (.boolean, [(.int (0 : Int32)), (.int (1 : Int32)), (.int (0 : Int32))])) :: RR)) := by
  refine Triple.of_body (tbl := tables_1) (a0 := a0) (Ls := #[.val (.ref r0)]) pn_4 hw rfl ?_
  intro p e s m below meth c T A
  refine A.aloadN (q := 1) d4_0 rfl rfl rfl ?_
  refine A.getF (q := 4) (w := 11) (i := 0) (j := 0) d4_1 rfl rfl rfl rfl ?_
  intro T A
  refine A.clone (q := 7) (i := 1) (w1 := 30) (w2 := 31) (w3 := 35) (w4 := 33) (w5 := 34) (w6 := 36) (W := 0) (cap := 3) (ad := "[Z") d4_4 rfl rfl (by decide) rfl rfl rfl rfl rfl rfl rfl rfl (by decide) (by decide) (Nat.le_refl _) (by decide) (by decide) ?_
  intro T b1 A
  refine A.castArr (q := 10) (w := 37) (i := 0) d4_7 rfl rfl rfl (by decide) ?_
  intro T A
  exact A.retA d4_10 rfl rfl rfl (by decide) (by decide) ⟨b1, rfl, rfl⟩
set_option maxRecDepth 65536 in
set_option maxHeartbeats 8000000 in
theorem rm3_5 (l : Launch) (Z : State) (a0 : Array Value) (hw : ∀ d ∈ tables_1, d.before a0 Z = true) (n0 : Nat) (r0 : Addr) (p1 : Int32) (r2 : Addr) (r3 : Addr) (r4 : Addr) (r5 : Addr) (RR : Obs) (z_p1 : nar .boolean p1 = p1) :
    Triple l Z n0 (⟨"com/example/proof_of_scan/proofofscan/Choices", "hold", "(IZ)V"⟩ : MethodName) prog_2_method_2_code 3 none ({ frames := 0, cells := 0, slots := 0, locals := 0 } : Room) 0 0 [(.ref r0), (.int (2 : Int32)), (.int p1)] ((r0, ob0 (.ref r2) (.ref r3) (.ref r4) (.ref r5) (.int (0 : Int32))) :: (r2, .inr (.boolean, [(.int (0 : Int32)), (.int (0 : Int32)), (.int (0 : Int32))])) :: (r3, .inr (.int, [(.int (0 : Int32)), (.int (0 : Int32)), (.int (0 : Int32))])) :: (r4, .inr (.boolean, [(.int (0 : Int32)), (.int (0 : Int32)), (.int (0 : Int32))])) :: (r5, .inr (.boolean, [(.int (0 : Int32)), (.int (0 : Int32)), (.int (0 : Int32))])) :: RR) (fun v L' => v = none ∧ L' = ((r0, ob0 (.ref r2) (.ref r3) (.ref r4) (.ref r5) (.int (0 : Int32))) :: (r2, .inr (.boolean, [(.int (0 : Int32)), (.int (0 : Int32)), (.int p1)])) :: (r3, .inr (.int, [(.int (0 : Int32)), (.int (0 : Int32)), (.int (0 : Int32))])) :: (r4, .inr (.boolean, [(.int (0 : Int32)), (.int (0 : Int32)), (.int (0 : Int32))])) :: (r5, .inr (.boolean, [(.int (0 : Int32)), (.int (0 : Int32)), (.int (1 : Int32))])) :: RR)) := by
  refine Triple.of_body (tbl := tables_1) (a0 := a0) (Ls := #[.val (.ref r0), .val (.int (2 : Int32)), .val (.int p1)]) pn_3 hw rfl ?_
  intro p e s m below meth c T A
  refine A.aloadN (q := 1) d3_0 rfl rfl rfl ?_
  refine A.getF (q := 4) (w := 18) (i := 0) (j := 3) d3_1 rfl rfl rfl rfl ?_
  intro T A
  refine A.iloadN (q := 5) d3_4 rfl rfl ?_
  refine A.iconst (q := 6) (v := (1 : Int32)) d3_5 rfl (by decide) ?_
  refine A.bastoreZ (q := 7) (i := 4) (x' := (1 : Int32)) (L' := ((r0, ob0 (.ref r2) (.ref r3) (.ref r4) (.ref r5) (.int (0 : Int32))) :: (r2, .inr (.boolean, [(.int (0 : Int32)), (.int (0 : Int32)), (.int (0 : Int32))])) :: (r3, .inr (.int, [(.int (0 : Int32)), (.int (0 : Int32)), (.int (0 : Int32))])) :: (r4, .inr (.boolean, [(.int (0 : Int32)), (.int (0 : Int32)), (.int (0 : Int32))])) :: (r5, .inr (.boolean, [(.int (0 : Int32)), (.int (0 : Int32)), (.int (1 : Int32))])) :: RR)) d3_6 rfl rfl (by decide) (by show Int32.toNatClampNeg (2 : Int32) < 3; decide) (by decide) rfl ?_
  intro T A
  refine A.aloadN (q := 8) d3_7 rfl rfl rfl ?_
  refine A.getF (q := 11) (w := 11) (i := 0) (j := 0) d3_8 rfl rfl rfl rfl ?_
  intro T A
  refine A.iloadN (q := 12) d3_11 rfl rfl ?_
  refine A.iloadN (q := 13) d3_12 rfl rfl ?_
  refine A.bastoreZ (q := 14) (i := 1) (x' := p1) (L' := ((r0, ob0 (.ref r2) (.ref r3) (.ref r4) (.ref r5) (.int (0 : Int32))) :: (r2, .inr (.boolean, [(.int (0 : Int32)), (.int (0 : Int32)), (.int p1)])) :: (r3, .inr (.int, [(.int (0 : Int32)), (.int (0 : Int32)), (.int (0 : Int32))])) :: (r4, .inr (.boolean, [(.int (0 : Int32)), (.int (0 : Int32)), (.int (0 : Int32))])) :: (r5, .inr (.boolean, [(.int (0 : Int32)), (.int (0 : Int32)), (.int (1 : Int32))])) :: RR)) d3_13 rfl rfl (by decide) (by show Int32.toNatClampNeg (2 : Int32) < 3; decide) z_p1 rfl ?_
  intro T A
  exact A.retV d3_14 (by decide) (by decide) ⟨rfl, rfl⟩
set_option maxRecDepth 65536 in
set_option maxHeartbeats 8000000 in
theorem rm3_6 (l : Launch) (Z : State) (a0 : Array Value) (hw : ∀ d ∈ tables_1, d.before a0 Z = true) (n0 : Nat) (r0 : Addr) (p1 : Int32) (r2 : Addr) (r3 : Addr) (r4 : Addr) (r5 : Addr) (p6 : Int32) (p7 : Int32) (RR : Obs) (z_p1 : nar .boolean p1 = p1) (z_p6 : nar .boolean p6 = p6) (z_p7 : nar .boolean p7 = p7) :
    Triple l Z n0 (⟨"com/example/proof_of_scan/proofofscan/Choices", "hold", "(IZ)V"⟩ : MethodName) prog_2_method_2_code 3 none ({ frames := 0, cells := 0, slots := 0, locals := 0 } : Room) 0 0 [(.ref r0), (.int (2 : Int32)), (.int p1)] ((r0, ob0 (.ref r2) (.ref r3) (.ref r4) (.ref r5) (.int (0 : Int32))) :: (r2, .inr (.boolean, [(.int (0 : Int32)), (.int (0 : Int32)), (.int p6)])) :: (r3, .inr (.int, [(.int (0 : Int32)), (.int (0 : Int32)), (.int (0 : Int32))])) :: (r4, .inr (.boolean, [(.int (0 : Int32)), (.int (0 : Int32)), (.int (0 : Int32))])) :: (r5, .inr (.boolean, [(.int (0 : Int32)), (.int (0 : Int32)), (.int p7)])) :: RR) (fun v L' => v = none ∧ L' = ((r0, ob0 (.ref r2) (.ref r3) (.ref r4) (.ref r5) (.int (0 : Int32))) :: (r2, .inr (.boolean, [(.int (0 : Int32)), (.int (0 : Int32)), (.int p1)])) :: (r3, .inr (.int, [(.int (0 : Int32)), (.int (0 : Int32)), (.int (0 : Int32))])) :: (r4, .inr (.boolean, [(.int (0 : Int32)), (.int (0 : Int32)), (.int (0 : Int32))])) :: (r5, .inr (.boolean, [(.int (0 : Int32)), (.int (0 : Int32)), (.int (1 : Int32))])) :: RR)) := by
  refine Triple.of_body (tbl := tables_1) (a0 := a0) (Ls := #[.val (.ref r0), .val (.int (2 : Int32)), .val (.int p1)]) pn_3 hw rfl ?_
  intro p e s m below meth c T A
  refine A.aloadN (q := 1) d3_0 rfl rfl rfl ?_
  refine A.getF (q := 4) (w := 18) (i := 0) (j := 3) d3_1 rfl rfl rfl rfl ?_
  intro T A
  refine A.iloadN (q := 5) d3_4 rfl rfl ?_
  refine A.iconst (q := 6) (v := (1 : Int32)) d3_5 rfl (by decide) ?_
  refine A.bastoreZ (q := 7) (i := 4) (x' := (1 : Int32)) (L' := ((r0, ob0 (.ref r2) (.ref r3) (.ref r4) (.ref r5) (.int (0 : Int32))) :: (r2, .inr (.boolean, [(.int (0 : Int32)), (.int (0 : Int32)), (.int p6)])) :: (r3, .inr (.int, [(.int (0 : Int32)), (.int (0 : Int32)), (.int (0 : Int32))])) :: (r4, .inr (.boolean, [(.int (0 : Int32)), (.int (0 : Int32)), (.int (0 : Int32))])) :: (r5, .inr (.boolean, [(.int (0 : Int32)), (.int (0 : Int32)), (.int (1 : Int32))])) :: RR)) d3_6 rfl rfl (by decide) (by show Int32.toNatClampNeg (2 : Int32) < 3; decide) (by decide) rfl ?_
  intro T A
  refine A.aloadN (q := 8) d3_7 rfl rfl rfl ?_
  refine A.getF (q := 11) (w := 11) (i := 0) (j := 0) d3_8 rfl rfl rfl rfl ?_
  intro T A
  refine A.iloadN (q := 12) d3_11 rfl rfl ?_
  refine A.iloadN (q := 13) d3_12 rfl rfl ?_
  refine A.bastoreZ (q := 14) (i := 1) (x' := p1) (L' := ((r0, ob0 (.ref r2) (.ref r3) (.ref r4) (.ref r5) (.int (0 : Int32))) :: (r2, .inr (.boolean, [(.int (0 : Int32)), (.int (0 : Int32)), (.int p1)])) :: (r3, .inr (.int, [(.int (0 : Int32)), (.int (0 : Int32)), (.int (0 : Int32))])) :: (r4, .inr (.boolean, [(.int (0 : Int32)), (.int (0 : Int32)), (.int (0 : Int32))])) :: (r5, .inr (.boolean, [(.int (0 : Int32)), (.int (0 : Int32)), (.int (1 : Int32))])) :: RR)) d3_13 rfl rfl (by decide) (by show Int32.toNatClampNeg (2 : Int32) < 3; decide) z_p1 rfl ?_
  intro T A
  exact A.retV d3_14 (by decide) (by decide) ⟨rfl, rfl⟩
set_option maxRecDepth 65536 in
set_option maxHeartbeats 8000000 in
theorem rm4_10 (l : Launch) (Z : State) (a0 : Array Value) (hw : ∀ d ∈ tables_1, d.before a0 Z = true) (n0 : Nat) (r0 : Addr) (r1 : Addr) (r2 : Addr) (r3 : Addr) (r4 : Addr) (p5 : Int32) (RR : Obs) (z_p5 : nar .boolean p5 = p5) :
    Triple l Z n0 (⟨"com/example/proof_of_scan/proofofscan/Choices", "values", "()[Z"⟩ : MethodName) prog_2_method_7_code 1 (some (.array .boolean)) ({ frames := 1, cells := 1, slots := 3, locals := 14 } : Room) 1 3 [(.ref r0)] ((r0, ob0 (.ref r1) (.ref r2) (.ref r3) (.ref r4) (.int (0 : Int32))) :: (r1, .inr (.boolean, [(.int (0 : Int32)), (.int (0 : Int32)), (.int p5)])) :: (r2, .inr (.int, [(.int (0 : Int32)), (.int (0 : Int32)), (.int (0 : Int32))])) :: (r3, .inr (.boolean, [(.int (0 : Int32)), (.int (0 : Int32)), (.int (0 : Int32))])) :: (r4, .inr (.boolean, [(.int (0 : Int32)), (.int (0 : Int32)), (.int (1 : Int32))])) :: RR) (fun v L' => ∃ b1 : Addr, v = some (.ref b1) ∧ L' = ((b1, .inr (.boolean, [(.int (0 : Int32)), (.int (0 : Int32)), (.int p5)])) :: (r0, ob0 (.ref r1) (.ref r2) (.ref r3) (.ref r4) (.int (0 : Int32))) :: (r1, .inr (.boolean, [(.int (0 : Int32)), (.int (0 : Int32)), (.int p5)])) :: (r2, .inr (.int, [(.int (0 : Int32)), (.int (0 : Int32)), (.int (0 : Int32))])) :: (r3, .inr (.boolean, [(.int (0 : Int32)), (.int (0 : Int32)), (.int (0 : Int32))])) :: (r4, .inr (.boolean, [(.int (0 : Int32)), (.int (0 : Int32)), (.int (1 : Int32))])) :: RR)) := by
  refine Triple.of_body (tbl := tables_1) (a0 := a0) (Ls := #[.val (.ref r0)]) pn_4 hw rfl ?_
  intro p e s m below meth c T A
  refine A.aloadN (q := 1) d4_0 rfl rfl rfl ?_
  refine A.getF (q := 4) (w := 11) (i := 0) (j := 0) d4_1 rfl rfl rfl rfl ?_
  intro T A
  refine A.clone (q := 7) (i := 1) (w1 := 30) (w2 := 31) (w3 := 35) (w4 := 33) (w5 := 34) (w6 := 36) (W := 0) (cap := 3) (ad := "[Z") d4_4 rfl rfl (by decide) rfl rfl rfl rfl rfl rfl rfl rfl (by decide) (by decide) (Nat.le_refl _) (by decide) (by decide) ?_
  intro T b1 A
  refine A.castArr (q := 10) (w := 37) (i := 0) d4_7 rfl rfl rfl (by decide) ?_
  intro T A
  exact A.retA d4_10 rfl rfl rfl (by decide) (by decide) ⟨b1, rfl, rfl⟩
set_option maxRecDepth 65536 in
set_option maxHeartbeats 8000000 in
theorem rm5_7 (l : Launch) (Z : State) (a0 : Array Value) (hw : ∀ d ∈ tables_1, d.before a0 Z = true) (n0 : Nat) (r0 : Addr) (p1 : Int32) (RR : Obs) (z_p1 : nar .boolean p1 = p1) :
    Triple l Z n0 (⟨"com/example/proof_of_scan/proofofscan/ChoicesHoldPinLaw", "same", "([ZIZI)Z"⟩ : MethodName) method_2_code 7 (some .boolean) ({ frames := 0, cells := 0, slots := 0, locals := 0 } : Room) 0 0 [(.ref r0), (.int (2 : Int32)), (.int p1), (.int (-1 : Int32))] ((r0, .inr (.boolean, [(.int (0 : Int32)), (.int (0 : Int32)), (.int p1)])) :: RR) (fun v L' => v = some (.int (1 : Int32)) ∧ L' = ((r0, .inr (.boolean, [(.int (0 : Int32)), (.int (0 : Int32)), (.int p1)])) :: RR)) := by
  refine Triple.of_body (tbl := tables_1) (a0 := a0) (Ls := #[.val (.ref r0), .val (.int (2 : Int32)), .val (.int p1), .val (.int (-1 : Int32)), .unset, .unset, .unset]) pn_5 hw rfl ?_
  intro p e s m below meth c T A
  refine A.aloadN (q := 1) d5_0 rfl rfl rfl ?_
  refine A.arraylength (q := 2) (i := 0) (v := (3 : Int32)) d5_1 rfl rfl (by show Nat.toInt32 3 = 3; decide) ?_
  refine A.iconst (q := 3) (v := (3 : Int32)) d5_2 rfl (by decide) ?_
  refine A.icmpT (r := 8) d5_3 (by decide) (by decide) ?_
  refine A.iconst (q := 9) (v := (0 : Int32)) d5_8 rfl (by decide) ?_
  refine A.iloadN (q := 10) d5_9 rfl rfl ?_
  refine A.icmpT (r := 17) d5_10 (by decide) (by decide) ?_
  refine A.iconst (q := 18) (v := (0 : Int32)) d5_17 rfl (by decide) ?_
  refine A.iloadN (q := 19) d5_18 rfl rfl ?_
  refine A.icmpT (r := 26) d5_19 (by decide) (by decide) ?_
  refine A.iconst (q := 27) (v := (0 : Int32)) d5_26 rfl (by decide) ?_
  refine A.istore (q := 29) (l' := #[.val (.ref r0), .val (.int (2 : Int32)), .val (.int p1), .val (.int (-1 : Int32)), .val (.int (0 : Int32)), .unset, .unset]) d5_27 rfl rfl ?_
  refine A.iconst (q := 30) (v := (1 : Int32)) d5_29 rfl (by decide) ?_
  refine A.iloadN (q := 31) d5_30 rfl rfl ?_
  refine A.icmpT (r := 38) d5_31 (by decide) (by decide) ?_
  refine A.iconst (q := 39) (v := (1 : Int32)) d5_38 rfl (by decide) ?_
  refine A.iloadN (q := 40) d5_39 rfl rfl ?_
  refine A.icmpT (r := 47) d5_40 (by decide) (by decide) ?_
  refine A.iconst (q := 48) (v := (0 : Int32)) d5_47 rfl (by decide) ?_
  refine A.istore (q := 50) (l' := #[.val (.ref r0), .val (.int (2 : Int32)), .val (.int p1), .val (.int (-1 : Int32)), .val (.int (0 : Int32)), .val (.int (0 : Int32)), .unset]) d5_48 rfl rfl ?_
  refine A.iconst (q := 51) (v := (2 : Int32)) d5_50 rfl (by decide) ?_
  refine A.iloadN (q := 52) d5_51 rfl rfl ?_
  refine A.icmpF (q := 55) d5_52 rfl (by decide) ?_
  refine A.iloadN (q := 56) d5_55 rfl rfl ?_
  refine A.goto (r := 69) d5_56 (by decide) ?_
  refine A.istore (q := 71) (l' := #[.val (.ref r0), .val (.int (2 : Int32)), .val (.int p1), .val (.int (-1 : Int32)), .val (.int (0 : Int32)), .val (.int (0 : Int32)), .val (.int p1)]) d5_69 rfl rfl ?_
  refine A.aloadN (q := 72) d5_71 rfl rfl rfl ?_
  refine A.iconst (q := 73) (v := (0 : Int32)) d5_72 rfl (by decide) ?_
  refine A.baloadZ (q := 74) (i := 0) (v := (.int (0 : Int32))) d5_73 rfl rfl (by decide) rfl ?_
  refine A.iload (q := 76) d5_74 rfl rfl ?_
  refine A.icmpF (q := 79) d5_76 rfl (by decide) ?_
  refine A.aloadN (q := 80) d5_79 rfl rfl rfl ?_
  refine A.iconst (q := 81) (v := (1 : Int32)) d5_80 rfl (by decide) ?_
  refine A.baloadZ (q := 82) (i := 0) (v := (.int (0 : Int32))) d5_81 rfl rfl (by decide) rfl ?_
  refine A.iload (q := 84) d5_82 rfl rfl ?_
  refine A.icmpF (q := 87) d5_84 rfl (by decide) ?_
  refine A.aloadN (q := 88) d5_87 rfl rfl rfl ?_
  refine A.iconst (q := 89) (v := (2 : Int32)) d5_88 rfl (by decide) ?_
  refine A.baloadZ (q := 90) (i := 0) (v := (.int p1)) d5_89 rfl rfl (by decide) rfl ?_
  refine A.iload (q := 92) d5_90 rfl rfl ?_
  refine A.icmpF (q := 95) d5_92 rfl (teq rfl).2 ?_
  refine A.iconst (q := 96) (v := (1 : Int32)) d5_95 rfl (by decide) ?_
  refine A.goto (r := 100) d5_96 (by decide) ?_
  exact A.retZ (v := (1 : Int32)) d5_100 (by decide) (by decide) (by decide) ⟨rfl, rfl⟩
set_option maxRecDepth 65536 in
set_option maxHeartbeats 8000000 in
theorem rm6_11 (l : Launch) (Z : State) (a0 : Array Value) (hw : ∀ d ∈ tables_1, d.before a0 Z = true) (n0 : Nat) (r0 : Addr) (r1 : Addr) (r2 : Addr) (r3 : Addr) (r4 : Addr) (p5 : Int32) (RR : Obs) (z_p5 : nar .boolean p5 = p5) :
    Triple l Z n0 (⟨"com/example/proof_of_scan/proofofscan/Choices", "take", "(I)Z"⟩ : MethodName) prog_2_method_3_code 2 (some .boolean) ({ frames := 0, cells := 0, slots := 0, locals := 0 } : Room) 0 0 [(.ref r0), (.int (0 : Int32))] ((r0, ob0 (.ref r1) (.ref r2) (.ref r3) (.ref r4) (.int (0 : Int32))) :: (r1, .inr (.boolean, [(.int (0 : Int32)), (.int (0 : Int32)), (.int p5)])) :: (r2, .inr (.int, [(.int (0 : Int32)), (.int (0 : Int32)), (.int (0 : Int32))])) :: (r3, .inr (.boolean, [(.int (0 : Int32)), (.int (0 : Int32)), (.int (0 : Int32))])) :: (r4, .inr (.boolean, [(.int (0 : Int32)), (.int (0 : Int32)), (.int (1 : Int32))])) :: RR) (fun v L' => v = some (.int (0 : Int32)) ∧ L' = ((r0, ob0 (.ref r1) (.ref r2) (.ref r3) (.ref r4) (.int (1 : Int32))) :: (r1, .inr (.boolean, [(.int (0 : Int32)), (.int (0 : Int32)), (.int p5)])) :: (r2, .inr (.int, [(.int (0 : Int32)), (.int (0 : Int32)), (.int (0 : Int32))])) :: (r3, .inr (.boolean, [(.int (1 : Int32)), (.int (0 : Int32)), (.int (0 : Int32))])) :: (r4, .inr (.boolean, [(.int (0 : Int32)), (.int (0 : Int32)), (.int (1 : Int32))])) :: RR)) := by
  refine Triple.of_body (tbl := tables_1) (a0 := a0) (Ls := #[.val (.ref r0), .val (.int (0 : Int32))]) pn_6 hw rfl ?_
  intro p e s m below meth c T A
  refine A.aloadN (q := 1) d6_0 rfl rfl rfl ?_
  refine A.getF (q := 4) (w := 16) (i := 0) (j := 2) d6_1 rfl rfl rfl rfl ?_
  intro T A
  refine A.iloadN (q := 5) d6_4 rfl rfl ?_
  refine A.baloadZ (q := 6) (i := 3) (v := (.int (0 : Int32))) d6_5 rfl rfl (by decide) rfl ?_
  refine A.ifF (q := 9) d6_6 rfl (by decide) ?_
  refine A.aloadN (q := 10) d6_9 rfl rfl rfl ?_
  refine A.getF (q := 13) (w := 18) (i := 0) (j := 3) d6_10 rfl rfl rfl rfl ?_
  intro T A
  refine A.iloadN (q := 14) d6_13 rfl rfl ?_
  refine A.baloadZ (q := 15) (i := 4) (v := (.int (0 : Int32))) d6_14 rfl rfl (by decide) rfl ?_
  refine A.ifF (q := 18) d6_15 rfl (by decide) ?_
  refine A.aloadN (q := 19) d6_18 rfl rfl rfl ?_
  refine A.getF (q := 22) (w := 16) (i := 0) (j := 2) d6_19 rfl rfl rfl rfl ?_
  intro T A
  refine A.iloadN (q := 23) d6_22 rfl rfl ?_
  refine A.iconst (q := 24) (v := (1 : Int32)) d6_23 rfl (by decide) ?_
  refine A.bastoreZ (q := 25) (i := 3) (x' := (1 : Int32)) (L' := ((r0, ob0 (.ref r1) (.ref r2) (.ref r3) (.ref r4) (.int (0 : Int32))) :: (r1, .inr (.boolean, [(.int (0 : Int32)), (.int (0 : Int32)), (.int p5)])) :: (r2, .inr (.int, [(.int (0 : Int32)), (.int (0 : Int32)), (.int (0 : Int32))])) :: (r3, .inr (.boolean, [(.int (1 : Int32)), (.int (0 : Int32)), (.int (0 : Int32))])) :: (r4, .inr (.boolean, [(.int (0 : Int32)), (.int (0 : Int32)), (.int (1 : Int32))])) :: RR)) d6_24 rfl rfl (by decide) (by show Int32.toNatClampNeg (0 : Int32) < 3; decide) (by decide) rfl ?_
  intro T A
  refine A.aloadN (q := 26) d6_25 rfl rfl rfl ?_
  refine A.getF (q := 29) (w := 14) (i := 0) (j := 1) d6_26 rfl rfl rfl rfl ?_
  intro T A
  refine A.aloadN (q := 30) d6_29 rfl rfl rfl ?_
  refine A.dup (q := 31) d6_30 rfl rfl ?_
  refine A.getF (q := 34) (w := 53) (i := 0) (j := 4) d6_31 rfl rfl rfl rfl ?_
  intro T A
  refine A.dup_x1 (q := 35) d6_34 rfl rfl rfl ?_
  refine A.iconst (q := 36) (v := (1 : Int32)) d6_35 rfl (by decide) ?_
  refine A.iadd (q := 37) (v := (1 : Int32)) d6_36 rfl (by decide) ?_
  refine A.putF (q := 40) (w := 53) (w2 := 54) (w3 := 2) (i := 0) (j := 4) (ty := .int) (v' := (.int (1 : Int32))) (L' := ((r0, ob0 (.ref r1) (.ref r2) (.ref r3) (.ref r4) (.int (1 : Int32))) :: (r1, .inr (.boolean, [(.int (0 : Int32)), (.int (0 : Int32)), (.int p5)])) :: (r2, .inr (.int, [(.int (0 : Int32)), (.int (0 : Int32)), (.int (0 : Int32))])) :: (r3, .inr (.boolean, [(.int (1 : Int32)), (.int (0 : Int32)), (.int (0 : Int32))])) :: (r4, .inr (.boolean, [(.int (0 : Int32)), (.int (0 : Int32)), (.int (1 : Int32))])) :: RR)) d6_37 rfl rfl rfl rfl (lay_0 Z a0 hw) (Or.inl rfl) rfl (by decide) rfl rfl rfl ?_
  intro T A
  refine A.iloadN (q := 41) d6_40 rfl rfl ?_
  refine A.iastore (q := 42) (i := 2) (x' := (0 : Int32)) (L' := ((r0, ob0 (.ref r1) (.ref r2) (.ref r3) (.ref r4) (.int (1 : Int32))) :: (r1, .inr (.boolean, [(.int (0 : Int32)), (.int (0 : Int32)), (.int p5)])) :: (r2, .inr (.int, [(.int (0 : Int32)), (.int (0 : Int32)), (.int (0 : Int32))])) :: (r3, .inr (.boolean, [(.int (1 : Int32)), (.int (0 : Int32)), (.int (0 : Int32))])) :: (r4, .inr (.boolean, [(.int (0 : Int32)), (.int (0 : Int32)), (.int (1 : Int32))])) :: RR)) d6_41 rfl rfl (by decide) (by show Int32.toNatClampNeg (0 : Int32) < 3; decide) rfl rfl ?_
  intro T A
  refine A.aloadN (q := 43) d6_42 rfl rfl rfl ?_
  refine A.getF (q := 46) (w := 11) (i := 0) (j := 0) d6_43 rfl rfl rfl rfl ?_
  intro T A
  refine A.iloadN (q := 47) d6_46 rfl rfl ?_
  refine A.baloadZ (q := 48) (i := 1) (v := (.int (0 : Int32))) d6_47 rfl rfl (by decide) rfl ?_
  exact A.retZ (v := (0 : Int32)) d6_48 (by decide) (by decide) (by decide) ⟨rfl, rfl⟩
set_option maxRecDepth 65536 in
set_option maxHeartbeats 8000000 in
theorem rm6_12 (l : Launch) (Z : State) (a0 : Array Value) (hw : ∀ d ∈ tables_1, d.before a0 Z = true) (n0 : Nat) (r0 : Addr) (r1 : Addr) (r2 : Addr) (r3 : Addr) (r4 : Addr) (p5 : Int32) (RR : Obs) (z_p5 : nar .boolean p5 = p5) :
    Triple l Z n0 (⟨"com/example/proof_of_scan/proofofscan/Choices", "take", "(I)Z"⟩ : MethodName) prog_2_method_3_code 2 (some .boolean) ({ frames := 0, cells := 0, slots := 0, locals := 0 } : Room) 0 0 [(.ref r0), (.int (2 : Int32))] ((r0, ob0 (.ref r1) (.ref r2) (.ref r3) (.ref r4) (.int (1 : Int32))) :: (r1, .inr (.boolean, [(.int (0 : Int32)), (.int (0 : Int32)), (.int p5)])) :: (r2, .inr (.int, [(.int (0 : Int32)), (.int (0 : Int32)), (.int (0 : Int32))])) :: (r3, .inr (.boolean, [(.int (1 : Int32)), (.int (0 : Int32)), (.int (0 : Int32))])) :: (r4, .inr (.boolean, [(.int (0 : Int32)), (.int (0 : Int32)), (.int (1 : Int32))])) :: RR) (fun v L' => v = some (.int p5) ∧ L' = ((r0, ob0 (.ref r1) (.ref r2) (.ref r3) (.ref r4) (.int (1 : Int32))) :: (r1, .inr (.boolean, [(.int (0 : Int32)), (.int (0 : Int32)), (.int p5)])) :: (r2, .inr (.int, [(.int (0 : Int32)), (.int (0 : Int32)), (.int (0 : Int32))])) :: (r3, .inr (.boolean, [(.int (1 : Int32)), (.int (0 : Int32)), (.int (0 : Int32))])) :: (r4, .inr (.boolean, [(.int (0 : Int32)), (.int (0 : Int32)), (.int (1 : Int32))])) :: RR)) := by
  refine Triple.of_body (tbl := tables_1) (a0 := a0) (Ls := #[.val (.ref r0), .val (.int (2 : Int32))]) pn_6 hw rfl ?_
  intro p e s m below meth c T A
  refine A.aloadN (q := 1) d6_0 rfl rfl rfl ?_
  refine A.getF (q := 4) (w := 16) (i := 0) (j := 2) d6_1 rfl rfl rfl rfl ?_
  intro T A
  refine A.iloadN (q := 5) d6_4 rfl rfl ?_
  refine A.baloadZ (q := 6) (i := 3) (v := (.int (0 : Int32))) d6_5 rfl rfl (by decide) rfl ?_
  refine A.ifF (q := 9) d6_6 rfl (by decide) ?_
  refine A.aloadN (q := 10) d6_9 rfl rfl rfl ?_
  refine A.getF (q := 13) (w := 18) (i := 0) (j := 3) d6_10 rfl rfl rfl rfl ?_
  intro T A
  refine A.iloadN (q := 14) d6_13 rfl rfl ?_
  refine A.baloadZ (q := 15) (i := 4) (v := (.int (1 : Int32))) d6_14 rfl rfl (by decide) rfl ?_
  refine A.ifT (r := 42) d6_15 (by decide) (by decide) ?_
  refine A.aloadN (q := 43) d6_42 rfl rfl rfl ?_
  refine A.getF (q := 46) (w := 11) (i := 0) (j := 0) d6_43 rfl rfl rfl rfl ?_
  intro T A
  refine A.iloadN (q := 47) d6_46 rfl rfl ?_
  refine A.baloadZ (q := 48) (i := 1) (v := (.int p5)) d6_47 rfl rfl (by decide) rfl ?_
  exact A.retZ (v := p5) d6_48 z_p5 (by decide) (by decide) ⟨rfl, rfl⟩
set_option maxRecDepth 65536 in
set_option maxHeartbeats 8000000 in
theorem rm9_10 (l : Launch) (Z : State) (a0 : Array Value) (hw : ∀ d ∈ tables_1, d.before a0 Z = true) (n0 : Nat) (r0 : Addr) (r1 : Addr) (r2 : Addr) (r3 : Addr) (r4 : Addr) (p5 : Int32) (RR : Obs) (z_p5 : nar .boolean p5 = p5) :
    Triple l Z n0 (⟨"com/example/proof_of_scan/proofofscan/Choices", "forgetTaken", "()V"⟩ : MethodName) prog_2_method_10_code 2 none ({ frames := 0, cells := 0, slots := 0, locals := 0 } : Room) 0 0 [(.ref r0)] ((r0, ob0 (.ref r1) (.ref r2) (.ref r3) (.ref r4) (.int (1 : Int32))) :: (r1, .inr (.boolean, [(.int (1 : Int32)), (.int (0 : Int32)), (.int p5)])) :: (r2, .inr (.int, [(.int (0 : Int32)), (.int (0 : Int32)), (.int (0 : Int32))])) :: (r3, .inr (.boolean, [(.int (1 : Int32)), (.int (0 : Int32)), (.int (0 : Int32))])) :: (r4, .inr (.boolean, [(.int (0 : Int32)), (.int (0 : Int32)), (.int (1 : Int32))])) :: RR) (fun v L' => v = none ∧ L' = ((r0, ob0 (.ref r1) (.ref r2) (.ref r3) (.ref r4) (.int (0 : Int32))) :: (r1, .inr (.boolean, [(.int (1 : Int32)), (.int (0 : Int32)), (.int p5)])) :: (r2, .inr (.int, [(.int (0 : Int32)), (.int (0 : Int32)), (.int (0 : Int32))])) :: (r3, .inr (.boolean, [(.int (0 : Int32)), (.int (0 : Int32)), (.int (0 : Int32))])) :: (r4, .inr (.boolean, [(.int (0 : Int32)), (.int (0 : Int32)), (.int (1 : Int32))])) :: RR)) := by
  refine Triple.of_body (tbl := tables_1) (a0 := a0) (Ls := #[.val (.ref r0), .unset]) pn_9 hw rfl ?_
  intro p e s m below meth c T A
  refine A.iconst (q := 1) (v := (0 : Int32)) d9_0 rfl (by decide) ?_
  refine A.istoreN (q := 2) (l' := #[.val (.ref r0), .val (.int (0 : Int32))]) d9_1 rfl rfl ?_
  refine A.iloadN (q := 3) d9_2 rfl rfl ?_
  refine A.aloadN (q := 4) d9_3 rfl rfl rfl ?_
  refine A.getF (q := 7) (w := 53) (i := 0) (j := 4) d9_4 rfl rfl rfl rfl ?_
  intro T A
  refine A.icmpF (q := 10) d9_7 rfl (by decide) ?_
  refine A.aloadN (q := 11) d9_10 rfl rfl rfl ?_
  refine A.getF (q := 14) (w := 16) (i := 0) (j := 2) d9_11 rfl rfl rfl rfl ?_
  intro T A
  refine A.aloadN (q := 15) d9_14 rfl rfl rfl ?_
  refine A.getF (q := 18) (w := 14) (i := 0) (j := 1) d9_15 rfl rfl rfl rfl ?_
  intro T A
  refine A.iloadN (q := 19) d9_18 rfl rfl ?_
  refine A.iaload (q := 20) (i := 2) (v := (.int (0 : Int32))) d9_19 rfl rfl (by decide) rfl ?_
  refine A.iconst (q := 21) (v := (0 : Int32)) d9_20 rfl (by decide) ?_
  refine A.bastoreZ (q := 22) (i := 3) (x' := (0 : Int32)) (L' := ((r0, ob0 (.ref r1) (.ref r2) (.ref r3) (.ref r4) (.int (1 : Int32))) :: (r1, .inr (.boolean, [(.int (1 : Int32)), (.int (0 : Int32)), (.int p5)])) :: (r2, .inr (.int, [(.int (0 : Int32)), (.int (0 : Int32)), (.int (0 : Int32))])) :: (r3, .inr (.boolean, [(.int (0 : Int32)), (.int (0 : Int32)), (.int (0 : Int32))])) :: (r4, .inr (.boolean, [(.int (0 : Int32)), (.int (0 : Int32)), (.int (1 : Int32))])) :: RR)) d9_21 rfl rfl (by decide) (by show Int32.toNatClampNeg (0 : Int32) < 3; decide) (by decide) rfl ?_
  intro T A
  refine A.iinc (q := 25) (v := (1 : Int32)) (l' := #[.val (.ref r0), .val (.int (1 : Int32))]) d9_22 rfl rfl (by decide) rfl ?_
  refine A.goto (r := 2) d9_25 (by decide) ?_
  refine A.iloadN (q := 3) d9_2 rfl rfl ?_
  refine A.aloadN (q := 4) d9_3 rfl rfl rfl ?_
  refine A.getF (q := 7) (w := 53) (i := 0) (j := 4) d9_4 rfl rfl rfl rfl ?_
  intro T A
  refine A.icmpT (r := 28) d9_7 (by decide) (by decide) ?_
  refine A.aloadN (q := 29) d9_28 rfl rfl rfl ?_
  refine A.iconst (q := 30) (v := (0 : Int32)) d9_29 rfl (by decide) ?_
  refine A.putF (q := 33) (w := 53) (w2 := 54) (w3 := 2) (i := 0) (j := 4) (ty := .int) (v' := (.int (0 : Int32))) (L' := ((r0, ob0 (.ref r1) (.ref r2) (.ref r3) (.ref r4) (.int (0 : Int32))) :: (r1, .inr (.boolean, [(.int (1 : Int32)), (.int (0 : Int32)), (.int p5)])) :: (r2, .inr (.int, [(.int (0 : Int32)), (.int (0 : Int32)), (.int (0 : Int32))])) :: (r3, .inr (.boolean, [(.int (0 : Int32)), (.int (0 : Int32)), (.int (0 : Int32))])) :: (r4, .inr (.boolean, [(.int (0 : Int32)), (.int (0 : Int32)), (.int (1 : Int32))])) :: RR)) d9_30 rfl rfl rfl rfl (lay_0 Z a0 hw) (Or.inl rfl) rfl (by decide) rfl rfl rfl ?_
  intro T A
  exact A.retV d9_33 (by decide) (by decide) ⟨rfl, rfl⟩
set_option maxRecDepth 65536 in
set_option maxHeartbeats 8000000 in
theorem rm7_7 (l : Launch) (Z : State) (a0 : Array Value) (hw : ∀ d ∈ tables_1, d.before a0 Z = true) (n0 : Nat) (r0 : Addr) (r1 : Addr) (r2 : Addr) (r3 : Addr) (r4 : Addr) (p5 : Int32) (RR : Obs) (z_p5 : nar .boolean p5 = p5) :
    Triple l Z n0 (⟨"com/example/proof_of_scan/proofofscan/Choices", "next", "()Z"⟩ : MethodName) prog_2_method_9_code 3 (some .boolean) ({ frames := 1, cells := 0, slots := 0, locals := 13 } : Room) 0 0 [(.ref r0)] ((r0, ob0 (.ref r1) (.ref r2) (.ref r3) (.ref r4) (.int (1 : Int32))) :: (r1, .inr (.boolean, [(.int (0 : Int32)), (.int (0 : Int32)), (.int p5)])) :: (r2, .inr (.int, [(.int (0 : Int32)), (.int (0 : Int32)), (.int (0 : Int32))])) :: (r3, .inr (.boolean, [(.int (1 : Int32)), (.int (0 : Int32)), (.int (0 : Int32))])) :: (r4, .inr (.boolean, [(.int (0 : Int32)), (.int (0 : Int32)), (.int (1 : Int32))])) :: RR) (fun v L' => v = some (.int (1 : Int32)) ∧ L' = ((r0, ob0 (.ref r1) (.ref r2) (.ref r3) (.ref r4) (.int (0 : Int32))) :: (r1, .inr (.boolean, [(.int (1 : Int32)), (.int (0 : Int32)), (.int p5)])) :: (r2, .inr (.int, [(.int (0 : Int32)), (.int (0 : Int32)), (.int (0 : Int32))])) :: (r3, .inr (.boolean, [(.int (0 : Int32)), (.int (0 : Int32)), (.int (0 : Int32))])) :: (r4, .inr (.boolean, [(.int (0 : Int32)), (.int (0 : Int32)), (.int (1 : Int32))])) :: RR)) := by
  refine Triple.of_body (tbl := tables_1) (a0 := a0) (Ls := #[.val (.ref r0), .unset, .unset]) pn_7 hw rfl ?_
  intro p e s m below meth c T A
  refine A.aloadN (q := 1) d7_0 rfl rfl rfl ?_
  refine A.getF (q := 4) (w := 53) (i := 0) (j := 4) d7_1 rfl rfl rfl rfl ?_
  intro T A
  refine A.iconst (q := 5) (v := (1 : Int32)) d7_4 rfl (by decide) ?_
  refine A.isub (q := 6) (v := (0 : Int32)) d7_5 rfl (by decide) ?_
  refine A.istoreN (q := 7) (l' := #[.val (.ref r0), .val (.int (0 : Int32)), .unset]) d7_6 rfl rfl ?_
  refine A.iloadN (q := 8) d7_7 rfl rfl ?_
  refine A.ifF (q := 11) d7_8 rfl (by decide) ?_
  refine A.aloadN (q := 12) d7_11 rfl rfl rfl ?_
  refine A.getF (q := 15) (w := 11) (i := 0) (j := 0) d7_12 rfl rfl rfl rfl ?_
  intro T A
  refine A.aloadN (q := 16) d7_15 rfl rfl rfl ?_
  refine A.getF (q := 19) (w := 14) (i := 0) (j := 1) d7_16 rfl rfl rfl rfl ?_
  intro T A
  refine A.iloadN (q := 20) d7_19 rfl rfl ?_
  refine A.iaload (q := 21) (i := 2) (v := (.int (0 : Int32))) d7_20 rfl rfl (by decide) rfl ?_
  refine A.baloadZ (q := 22) (i := 1) (v := (.int (0 : Int32))) d7_21 rfl rfl (by decide) rfl ?_
  refine A.ifT (r := 31) d7_22 (by decide) (by decide) ?_
  refine A.iloadN (q := 32) d7_31 rfl rfl ?_
  refine A.ifT (r := 37) d7_32 (by decide) (by decide) ?_
  refine A.aloadN (q := 38) d7_37 rfl rfl rfl ?_
  refine A.getF (q := 41) (w := 11) (i := 0) (j := 0) d7_38 rfl rfl rfl rfl ?_
  intro T A
  refine A.aloadN (q := 42) d7_41 rfl rfl rfl ?_
  refine A.getF (q := 45) (w := 14) (i := 0) (j := 1) d7_42 rfl rfl rfl rfl ?_
  intro T A
  refine A.iloadN (q := 46) d7_45 rfl rfl ?_
  refine A.iaload (q := 47) (i := 2) (v := (.int (0 : Int32))) d7_46 rfl rfl (by decide) rfl ?_
  refine A.iconst (q := 48) (v := (1 : Int32)) d7_47 rfl (by decide) ?_
  refine A.bastoreZ (q := 49) (i := 1) (x' := (1 : Int32)) (L' := ((r0, ob0 (.ref r1) (.ref r2) (.ref r3) (.ref r4) (.int (1 : Int32))) :: (r1, .inr (.boolean, [(.int (1 : Int32)), (.int (0 : Int32)), (.int p5)])) :: (r2, .inr (.int, [(.int (0 : Int32)), (.int (0 : Int32)), (.int (0 : Int32))])) :: (r3, .inr (.boolean, [(.int (1 : Int32)), (.int (0 : Int32)), (.int (0 : Int32))])) :: (r4, .inr (.boolean, [(.int (0 : Int32)), (.int (0 : Int32)), (.int (1 : Int32))])) :: RR)) d7_48 rfl rfl (by decide) (by show Int32.toNatClampNeg (0 : Int32) < 3; decide) (by decide) rfl ?_
  intro T A
  refine A.iloadN (q := 50) d7_49 rfl rfl ?_
  refine A.iconst (q := 51) (v := (1 : Int32)) d7_50 rfl (by decide) ?_
  refine A.iadd (q := 52) (v := (1 : Int32)) d7_51 rfl (by decide) ?_
  refine A.istoreN (q := 53) (l' := #[.val (.ref r0), .val (.int (0 : Int32)), .val (.int (1 : Int32))]) d7_52 rfl rfl ?_
  refine A.iloadN (q := 54) d7_53 rfl rfl ?_
  refine A.aloadN (q := 55) d7_54 rfl rfl rfl ?_
  refine A.getF (q := 58) (w := 53) (i := 0) (j := 4) d7_55 rfl rfl rfl rfl ?_
  intro T A
  refine A.icmpT (r := 79) d7_58 (by decide) (by decide) ?_
  refine A.aloadN (q := 80) d7_79 rfl rfl rfl ?_
  refine A.callP (q := 83) (i := 0) (w1 := 60) (w2 := 62) (w3 := 3) (w4 := 63) (w5 := 2) (w6 := 61) (a := r0) (as := []) (st := []) (W := 0) d7_80 rfl rfl rfl rfl rfl rfl rfl rfl (rm9_10 l Z a0 hw n0 r0 r1 r2 r3 r4 p5 _ z_p5) (by decide) ⟨_, _, pd_6, rfl⟩ rfl rfl rfl (by decide) (by decide) (by decide) (by decide) ?_
  rintro _ T _ ⟨rfl, rfl⟩ A
  show Go p e below _ (T.setTop (mkF m 83 #[.val (.ref r0), .val (.int (0 : Int32)), .val (.int (1 : Int32))] []))
  refine A.iconst (q := 84) (v := (1 : Int32)) d7_83 rfl (by decide) ?_
  exact A.retZ (v := (1 : Int32)) d7_84 (by decide) (by decide) (by decide) ⟨rfl, rfl⟩
set_option maxRecDepth 65536 in
set_option maxHeartbeats 8000000 in
theorem rm4_11 (l : Launch) (Z : State) (a0 : Array Value) (hw : ∀ d ∈ tables_1, d.before a0 Z = true) (n0 : Nat) (r0 : Addr) (r1 : Addr) (r2 : Addr) (r3 : Addr) (r4 : Addr) (p5 : Int32) (RR : Obs) (z_p5 : nar .boolean p5 = p5) :
    Triple l Z n0 (⟨"com/example/proof_of_scan/proofofscan/Choices", "values", "()[Z"⟩ : MethodName) prog_2_method_7_code 1 (some (.array .boolean)) ({ frames := 1, cells := 1, slots := 3, locals := 14 } : Room) 1 3 [(.ref r0)] ((r0, ob0 (.ref r1) (.ref r2) (.ref r3) (.ref r4) (.int (0 : Int32))) :: (r1, .inr (.boolean, [(.int (1 : Int32)), (.int (0 : Int32)), (.int p5)])) :: (r2, .inr (.int, [(.int (0 : Int32)), (.int (0 : Int32)), (.int (0 : Int32))])) :: (r3, .inr (.boolean, [(.int (0 : Int32)), (.int (0 : Int32)), (.int (0 : Int32))])) :: (r4, .inr (.boolean, [(.int (0 : Int32)), (.int (0 : Int32)), (.int (1 : Int32))])) :: RR) (fun v L' => ∃ b1 : Addr, v = some (.ref b1) ∧ L' = ((b1, .inr (.boolean, [(.int (1 : Int32)), (.int (0 : Int32)), (.int p5)])) :: (r0, ob0 (.ref r1) (.ref r2) (.ref r3) (.ref r4) (.int (0 : Int32))) :: (r1, .inr (.boolean, [(.int (1 : Int32)), (.int (0 : Int32)), (.int p5)])) :: (r2, .inr (.int, [(.int (0 : Int32)), (.int (0 : Int32)), (.int (0 : Int32))])) :: (r3, .inr (.boolean, [(.int (0 : Int32)), (.int (0 : Int32)), (.int (0 : Int32))])) :: (r4, .inr (.boolean, [(.int (0 : Int32)), (.int (0 : Int32)), (.int (1 : Int32))])) :: RR)) := by
  refine Triple.of_body (tbl := tables_1) (a0 := a0) (Ls := #[.val (.ref r0)]) pn_4 hw rfl ?_
  intro p e s m below meth c T A
  refine A.aloadN (q := 1) d4_0 rfl rfl rfl ?_
  refine A.getF (q := 4) (w := 11) (i := 0) (j := 0) d4_1 rfl rfl rfl rfl ?_
  intro T A
  refine A.clone (q := 7) (i := 1) (w1 := 30) (w2 := 31) (w3 := 35) (w4 := 33) (w5 := 34) (w6 := 36) (W := 0) (cap := 3) (ad := "[Z") d4_4 rfl rfl (by decide) rfl rfl rfl rfl rfl rfl rfl rfl (by decide) (by decide) (Nat.le_refl _) (by decide) (by decide) ?_
  intro T b1 A
  refine A.castArr (q := 10) (w := 37) (i := 0) d4_7 rfl rfl rfl (by decide) ?_
  intro T A
  exact A.retA d4_10 rfl rfl rfl (by decide) (by decide) ⟨b1, rfl, rfl⟩
set_option maxRecDepth 65536 in
set_option maxHeartbeats 8000000 in
theorem rm5_8 (l : Launch) (Z : State) (a0 : Array Value) (hw : ∀ d ∈ tables_1, d.before a0 Z = true) (n0 : Nat) (r0 : Addr) (p1 : Int32) (RR : Obs) (z_p1 : nar .boolean p1 = p1) :
    Triple l Z n0 (⟨"com/example/proof_of_scan/proofofscan/ChoicesHoldPinLaw", "same", "([ZIZI)Z"⟩ : MethodName) method_2_code 7 (some .boolean) ({ frames := 0, cells := 0, slots := 0, locals := 0 } : Room) 0 0 [(.ref r0), (.int (2 : Int32)), (.int p1), (.int (0 : Int32))] ((r0, .inr (.boolean, [(.int (1 : Int32)), (.int (0 : Int32)), (.int p1)])) :: RR) (fun v L' => v = some (.int (1 : Int32)) ∧ L' = ((r0, .inr (.boolean, [(.int (1 : Int32)), (.int (0 : Int32)), (.int p1)])) :: RR)) := by
  refine Triple.of_body (tbl := tables_1) (a0 := a0) (Ls := #[.val (.ref r0), .val (.int (2 : Int32)), .val (.int p1), .val (.int (0 : Int32)), .unset, .unset, .unset]) pn_5 hw rfl ?_
  intro p e s m below meth c T A
  refine A.aloadN (q := 1) d5_0 rfl rfl rfl ?_
  refine A.arraylength (q := 2) (i := 0) (v := (3 : Int32)) d5_1 rfl rfl (by show Nat.toInt32 3 = 3; decide) ?_
  refine A.iconst (q := 3) (v := (3 : Int32)) d5_2 rfl (by decide) ?_
  refine A.icmpT (r := 8) d5_3 (by decide) (by decide) ?_
  refine A.iconst (q := 9) (v := (0 : Int32)) d5_8 rfl (by decide) ?_
  refine A.iloadN (q := 10) d5_9 rfl rfl ?_
  refine A.icmpT (r := 17) d5_10 (by decide) (by decide) ?_
  refine A.iconst (q := 18) (v := (0 : Int32)) d5_17 rfl (by decide) ?_
  refine A.iloadN (q := 19) d5_18 rfl rfl ?_
  refine A.icmpF (q := 22) d5_19 rfl (by decide) ?_
  refine A.iconst (q := 23) (v := (1 : Int32)) d5_22 rfl (by decide) ?_
  refine A.goto (r := 27) d5_23 (by decide) ?_
  refine A.istore (q := 29) (l' := #[.val (.ref r0), .val (.int (2 : Int32)), .val (.int p1), .val (.int (0 : Int32)), .val (.int (1 : Int32)), .unset, .unset]) d5_27 rfl rfl ?_
  refine A.iconst (q := 30) (v := (1 : Int32)) d5_29 rfl (by decide) ?_
  refine A.iloadN (q := 31) d5_30 rfl rfl ?_
  refine A.icmpT (r := 38) d5_31 (by decide) (by decide) ?_
  refine A.iconst (q := 39) (v := (1 : Int32)) d5_38 rfl (by decide) ?_
  refine A.iloadN (q := 40) d5_39 rfl rfl ?_
  refine A.icmpT (r := 47) d5_40 (by decide) (by decide) ?_
  refine A.iconst (q := 48) (v := (0 : Int32)) d5_47 rfl (by decide) ?_
  refine A.istore (q := 50) (l' := #[.val (.ref r0), .val (.int (2 : Int32)), .val (.int p1), .val (.int (0 : Int32)), .val (.int (1 : Int32)), .val (.int (0 : Int32)), .unset]) d5_48 rfl rfl ?_
  refine A.iconst (q := 51) (v := (2 : Int32)) d5_50 rfl (by decide) ?_
  refine A.iloadN (q := 52) d5_51 rfl rfl ?_
  refine A.icmpF (q := 55) d5_52 rfl (by decide) ?_
  refine A.iloadN (q := 56) d5_55 rfl rfl ?_
  refine A.goto (r := 69) d5_56 (by decide) ?_
  refine A.istore (q := 71) (l' := #[.val (.ref r0), .val (.int (2 : Int32)), .val (.int p1), .val (.int (0 : Int32)), .val (.int (1 : Int32)), .val (.int (0 : Int32)), .val (.int p1)]) d5_69 rfl rfl ?_
  refine A.aloadN (q := 72) d5_71 rfl rfl rfl ?_
  refine A.iconst (q := 73) (v := (0 : Int32)) d5_72 rfl (by decide) ?_
  refine A.baloadZ (q := 74) (i := 0) (v := (.int (1 : Int32))) d5_73 rfl rfl (by decide) rfl ?_
  refine A.iload (q := 76) d5_74 rfl rfl ?_
  refine A.icmpF (q := 79) d5_76 rfl (by decide) ?_
  refine A.aloadN (q := 80) d5_79 rfl rfl rfl ?_
  refine A.iconst (q := 81) (v := (1 : Int32)) d5_80 rfl (by decide) ?_
  refine A.baloadZ (q := 82) (i := 0) (v := (.int (0 : Int32))) d5_81 rfl rfl (by decide) rfl ?_
  refine A.iload (q := 84) d5_82 rfl rfl ?_
  refine A.icmpF (q := 87) d5_84 rfl (by decide) ?_
  refine A.aloadN (q := 88) d5_87 rfl rfl rfl ?_
  refine A.iconst (q := 89) (v := (2 : Int32)) d5_88 rfl (by decide) ?_
  refine A.baloadZ (q := 90) (i := 0) (v := (.int p1)) d5_89 rfl rfl (by decide) rfl ?_
  refine A.iload (q := 92) d5_90 rfl rfl ?_
  refine A.icmpF (q := 95) d5_92 rfl (teq rfl).2 ?_
  refine A.iconst (q := 96) (v := (1 : Int32)) d5_95 rfl (by decide) ?_
  refine A.goto (r := 100) d5_96 (by decide) ?_
  exact A.retZ (v := (1 : Int32)) d5_100 (by decide) (by decide) (by decide) ⟨rfl, rfl⟩
set_option maxRecDepth 65536 in
set_option maxHeartbeats 8000000 in
theorem rm9_11 (l : Launch) (Z : State) (a0 : Array Value) (hw : ∀ d ∈ tables_1, d.before a0 Z = true) (n0 : Nat) (r0 : Addr) (r1 : Addr) (r2 : Addr) (r3 : Addr) (r4 : Addr) (p5 : Int32) (RR : Obs) (z_p5 : nar .boolean p5 = p5) :
    Triple l Z n0 (⟨"com/example/proof_of_scan/proofofscan/Choices", "forgetTaken", "()V"⟩ : MethodName) prog_2_method_10_code 2 none ({ frames := 0, cells := 0, slots := 0, locals := 0 } : Room) 0 0 [(.ref r0)] ((r0, ob0 (.ref r1) (.ref r2) (.ref r3) (.ref r4) (.int (0 : Int32))) :: (r1, .inr (.boolean, [(.int (0 : Int32)), (.int (0 : Int32)), (.int p5)])) :: (r2, .inr (.int, [(.int (0 : Int32)), (.int (0 : Int32)), (.int (0 : Int32))])) :: (r3, .inr (.boolean, [(.int (0 : Int32)), (.int (0 : Int32)), (.int (0 : Int32))])) :: (r4, .inr (.boolean, [(.int (0 : Int32)), (.int (0 : Int32)), (.int (1 : Int32))])) :: RR) (fun v L' => v = none ∧ L' = ((r0, ob0 (.ref r1) (.ref r2) (.ref r3) (.ref r4) (.int (0 : Int32))) :: (r1, .inr (.boolean, [(.int (0 : Int32)), (.int (0 : Int32)), (.int p5)])) :: (r2, .inr (.int, [(.int (0 : Int32)), (.int (0 : Int32)), (.int (0 : Int32))])) :: (r3, .inr (.boolean, [(.int (0 : Int32)), (.int (0 : Int32)), (.int (0 : Int32))])) :: (r4, .inr (.boolean, [(.int (0 : Int32)), (.int (0 : Int32)), (.int (1 : Int32))])) :: RR)) := by
  refine Triple.of_body (tbl := tables_1) (a0 := a0) (Ls := #[.val (.ref r0), .unset]) pn_9 hw rfl ?_
  intro p e s m below meth c T A
  refine A.iconst (q := 1) (v := (0 : Int32)) d9_0 rfl (by decide) ?_
  refine A.istoreN (q := 2) (l' := #[.val (.ref r0), .val (.int (0 : Int32))]) d9_1 rfl rfl ?_
  refine A.iloadN (q := 3) d9_2 rfl rfl ?_
  refine A.aloadN (q := 4) d9_3 rfl rfl rfl ?_
  refine A.getF (q := 7) (w := 53) (i := 0) (j := 4) d9_4 rfl rfl rfl rfl ?_
  intro T A
  refine A.icmpT (r := 28) d9_7 (by decide) (by decide) ?_
  refine A.aloadN (q := 29) d9_28 rfl rfl rfl ?_
  refine A.iconst (q := 30) (v := (0 : Int32)) d9_29 rfl (by decide) ?_
  refine A.putF (q := 33) (w := 53) (w2 := 54) (w3 := 2) (i := 0) (j := 4) (ty := .int) (v' := (.int (0 : Int32))) (L' := ((r0, ob0 (.ref r1) (.ref r2) (.ref r3) (.ref r4) (.int (0 : Int32))) :: (r1, .inr (.boolean, [(.int (0 : Int32)), (.int (0 : Int32)), (.int p5)])) :: (r2, .inr (.int, [(.int (0 : Int32)), (.int (0 : Int32)), (.int (0 : Int32))])) :: (r3, .inr (.boolean, [(.int (0 : Int32)), (.int (0 : Int32)), (.int (0 : Int32))])) :: (r4, .inr (.boolean, [(.int (0 : Int32)), (.int (0 : Int32)), (.int (1 : Int32))])) :: RR)) d9_30 rfl rfl rfl rfl (lay_0 Z a0 hw) (Or.inl rfl) rfl (by decide) rfl rfl rfl ?_
  intro T A
  exact A.retV d9_33 (by decide) (by decide) ⟨rfl, rfl⟩
set_option maxRecDepth 65536 in
set_option maxHeartbeats 8000000 in
theorem rm8_7 (l : Launch) (Z : State) (a0 : Array Value) (hw : ∀ d ∈ tables_1, d.before a0 Z = true) (n0 : Nat) (r0 : Addr) (r1 : Addr) (r2 : Addr) (r3 : Addr) (r4 : Addr) (p5 : Int32) (RR : Obs) (z_p5 : nar .boolean p5 = p5) :
    Triple l Z n0 (⟨"com/example/proof_of_scan/proofofscan/Choices", "reset", "()V"⟩ : MethodName) prog_2_method_8_code 2 none ({ frames := 1, cells := 0, slots := 0, locals := 13 } : Room) 0 0 [(.ref r0)] ((r0, ob0 (.ref r1) (.ref r2) (.ref r3) (.ref r4) (.int (0 : Int32))) :: (r1, .inr (.boolean, [(.int (1 : Int32)), (.int (0 : Int32)), (.int p5)])) :: (r2, .inr (.int, [(.int (0 : Int32)), (.int (0 : Int32)), (.int (0 : Int32))])) :: (r3, .inr (.boolean, [(.int (0 : Int32)), (.int (0 : Int32)), (.int (0 : Int32))])) :: (r4, .inr (.boolean, [(.int (0 : Int32)), (.int (0 : Int32)), (.int (1 : Int32))])) :: RR) (fun v L' => v = none ∧ L' = ((r0, ob0 (.ref r1) (.ref r2) (.ref r3) (.ref r4) (.int (0 : Int32))) :: (r1, .inr (.boolean, [(.int (0 : Int32)), (.int (0 : Int32)), (.int p5)])) :: (r2, .inr (.int, [(.int (0 : Int32)), (.int (0 : Int32)), (.int (0 : Int32))])) :: (r3, .inr (.boolean, [(.int (0 : Int32)), (.int (0 : Int32)), (.int (0 : Int32))])) :: (r4, .inr (.boolean, [(.int (0 : Int32)), (.int (0 : Int32)), (.int (1 : Int32))])) :: RR)) := by
  refine Triple.of_body (tbl := tables_1) (a0 := a0) (Ls := #[.val (.ref r0), .unset]) pn_8 hw rfl ?_
  intro p e s m below meth c T A
  refine A.iconst (q := 1) (v := (0 : Int32)) d8_0 rfl (by decide) ?_
  refine A.istoreN (q := 2) (l' := #[.val (.ref r0), .val (.int (0 : Int32))]) d8_1 rfl rfl ?_
  refine A.iloadN (q := 3) d8_2 rfl rfl ?_
  refine A.aloadN (q := 4) d8_3 rfl rfl rfl ?_
  refine A.getF (q := 7) (w := 11) (i := 0) (j := 0) d8_4 rfl rfl rfl rfl ?_
  intro T A
  refine A.arraylength (q := 8) (i := 1) (v := (3 : Int32)) d8_7 rfl rfl (by show Nat.toInt32 3 = 3; decide) ?_
  refine A.icmpF (q := 11) d8_8 rfl (by decide) ?_
  refine A.aloadN (q := 12) d8_11 rfl rfl rfl ?_
  refine A.getF (q := 15) (w := 11) (i := 0) (j := 0) d8_12 rfl rfl rfl rfl ?_
  intro T A
  refine A.iloadN (q := 16) d8_15 rfl rfl ?_
  refine A.dup2 (q := 17) d8_16 rfl rfl rfl ?_
  refine A.baloadZ (q := 18) (i := 1) (v := (.int (1 : Int32))) d8_17 rfl rfl (by decide) rfl ?_
  refine A.aloadN (q := 19) d8_18 rfl rfl rfl ?_
  refine A.getF (q := 22) (w := 18) (i := 0) (j := 3) d8_19 rfl rfl rfl rfl ?_
  intro T A
  refine A.iloadN (q := 23) d8_22 rfl rfl ?_
  refine A.baloadZ (q := 24) (i := 4) (v := (.int (0 : Int32))) d8_23 rfl rfl (by decide) rfl ?_
  refine A.iand (q := 25) (v := (0 : Int32)) d8_24 rfl (by decide) ?_
  refine A.bastoreZ (q := 26) (i := 1) (x' := (0 : Int32)) (L' := ((r0, ob0 (.ref r1) (.ref r2) (.ref r3) (.ref r4) (.int (0 : Int32))) :: (r1, .inr (.boolean, [(.int (0 : Int32)), (.int (0 : Int32)), (.int p5)])) :: (r2, .inr (.int, [(.int (0 : Int32)), (.int (0 : Int32)), (.int (0 : Int32))])) :: (r3, .inr (.boolean, [(.int (0 : Int32)), (.int (0 : Int32)), (.int (0 : Int32))])) :: (r4, .inr (.boolean, [(.int (0 : Int32)), (.int (0 : Int32)), (.int (1 : Int32))])) :: RR)) d8_25 rfl rfl (by decide) (by show Int32.toNatClampNeg (0 : Int32) < 3; decide) (by decide) rfl ?_
  intro T A
  refine A.iinc (q := 29) (v := (1 : Int32)) (l' := #[.val (.ref r0), .val (.int (1 : Int32))]) d8_26 rfl rfl (by decide) rfl ?_
  refine A.goto (r := 2) d8_29 (by decide) ?_
  refine A.iloadN (q := 3) d8_2 rfl rfl ?_
  refine A.aloadN (q := 4) d8_3 rfl rfl rfl ?_
  refine A.getF (q := 7) (w := 11) (i := 0) (j := 0) d8_4 rfl rfl rfl rfl ?_
  intro T A
  refine A.arraylength (q := 8) (i := 1) (v := (3 : Int32)) d8_7 rfl rfl (by show Nat.toInt32 3 = 3; decide) ?_
  refine A.icmpF (q := 11) d8_8 rfl (by decide) ?_
  refine A.aloadN (q := 12) d8_11 rfl rfl rfl ?_
  refine A.getF (q := 15) (w := 11) (i := 0) (j := 0) d8_12 rfl rfl rfl rfl ?_
  intro T A
  refine A.iloadN (q := 16) d8_15 rfl rfl ?_
  refine A.dup2 (q := 17) d8_16 rfl rfl rfl ?_
  refine A.baloadZ (q := 18) (i := 1) (v := (.int (0 : Int32))) d8_17 rfl rfl (by decide) rfl ?_
  refine A.aloadN (q := 19) d8_18 rfl rfl rfl ?_
  refine A.getF (q := 22) (w := 18) (i := 0) (j := 3) d8_19 rfl rfl rfl rfl ?_
  intro T A
  refine A.iloadN (q := 23) d8_22 rfl rfl ?_
  refine A.baloadZ (q := 24) (i := 4) (v := (.int (0 : Int32))) d8_23 rfl rfl (by decide) rfl ?_
  refine A.iand (q := 25) (v := (0 : Int32)) d8_24 rfl (by decide) ?_
  refine A.bastoreZ (q := 26) (i := 1) (x' := (0 : Int32)) (L' := ((r0, ob0 (.ref r1) (.ref r2) (.ref r3) (.ref r4) (.int (0 : Int32))) :: (r1, .inr (.boolean, [(.int (0 : Int32)), (.int (0 : Int32)), (.int p5)])) :: (r2, .inr (.int, [(.int (0 : Int32)), (.int (0 : Int32)), (.int (0 : Int32))])) :: (r3, .inr (.boolean, [(.int (0 : Int32)), (.int (0 : Int32)), (.int (0 : Int32))])) :: (r4, .inr (.boolean, [(.int (0 : Int32)), (.int (0 : Int32)), (.int (1 : Int32))])) :: RR)) d8_25 rfl rfl (by decide) (by show Int32.toNatClampNeg (1 : Int32) < 3; decide) (by decide) rfl ?_
  intro T A
  refine A.iinc (q := 29) (v := (2 : Int32)) (l' := #[.val (.ref r0), .val (.int (2 : Int32))]) d8_26 rfl rfl (by decide) rfl ?_
  refine A.goto (r := 2) d8_29 (by decide) ?_
  refine A.iloadN (q := 3) d8_2 rfl rfl ?_
  refine A.aloadN (q := 4) d8_3 rfl rfl rfl ?_
  refine A.getF (q := 7) (w := 11) (i := 0) (j := 0) d8_4 rfl rfl rfl rfl ?_
  intro T A
  refine A.arraylength (q := 8) (i := 1) (v := (3 : Int32)) d8_7 rfl rfl (by show Nat.toInt32 3 = 3; decide) ?_
  refine A.icmpF (q := 11) d8_8 rfl (by decide) ?_
  refine A.aloadN (q := 12) d8_11 rfl rfl rfl ?_
  refine A.getF (q := 15) (w := 11) (i := 0) (j := 0) d8_12 rfl rfl rfl rfl ?_
  intro T A
  refine A.iloadN (q := 16) d8_15 rfl rfl ?_
  refine A.dup2 (q := 17) d8_16 rfl rfl rfl ?_
  refine A.baloadZ (q := 18) (i := 1) (v := (.int p5)) d8_17 rfl rfl (by decide) rfl ?_
  refine A.aloadN (q := 19) d8_18 rfl rfl rfl ?_
  refine A.getF (q := 22) (w := 18) (i := 0) (j := 3) d8_19 rfl rfl rfl rfl ?_
  intro T A
  refine A.iloadN (q := 23) d8_22 rfl rfl ?_
  refine A.baloadZ (q := 24) (i := 4) (v := (.int (1 : Int32))) d8_23 rfl rfl (by decide) rfl ?_
  refine A.iand (q := 25) (v := p5) d8_24 rfl z_p5 ?_
  refine A.bastoreZ (q := 26) (i := 1) (x' := p5) (L' := ((r0, ob0 (.ref r1) (.ref r2) (.ref r3) (.ref r4) (.int (0 : Int32))) :: (r1, .inr (.boolean, [(.int (0 : Int32)), (.int (0 : Int32)), (.int p5)])) :: (r2, .inr (.int, [(.int (0 : Int32)), (.int (0 : Int32)), (.int (0 : Int32))])) :: (r3, .inr (.boolean, [(.int (0 : Int32)), (.int (0 : Int32)), (.int (0 : Int32))])) :: (r4, .inr (.boolean, [(.int (0 : Int32)), (.int (0 : Int32)), (.int (1 : Int32))])) :: RR)) d8_25 rfl rfl (by decide) (by show Int32.toNatClampNeg (2 : Int32) < 3; decide) z_p5 rfl ?_
  intro T A
  refine A.iinc (q := 29) (v := (3 : Int32)) (l' := #[.val (.ref r0), .val (.int (3 : Int32))]) d8_26 rfl rfl (by decide) rfl ?_
  refine A.goto (r := 2) d8_29 (by decide) ?_
  refine A.iloadN (q := 3) d8_2 rfl rfl ?_
  refine A.aloadN (q := 4) d8_3 rfl rfl rfl ?_
  refine A.getF (q := 7) (w := 11) (i := 0) (j := 0) d8_4 rfl rfl rfl rfl ?_
  intro T A
  refine A.arraylength (q := 8) (i := 1) (v := (3 : Int32)) d8_7 rfl rfl (by show Nat.toInt32 3 = 3; decide) ?_
  refine A.icmpT (r := 32) d8_8 (by decide) (by decide) ?_
  refine A.aloadN (q := 33) d8_32 rfl rfl rfl ?_
  refine A.callP (q := 36) (i := 0) (w1 := 60) (w2 := 62) (w3 := 3) (w4 := 63) (w5 := 2) (w6 := 61) (a := r0) (as := []) (st := []) (W := 0) d8_33 rfl rfl rfl rfl rfl rfl rfl rfl (rm9_11 l Z a0 hw n0 r0 r1 r2 r3 r4 p5 _ z_p5) (by decide) ⟨_, _, pd_6, rfl⟩ rfl rfl rfl (by decide) (by decide) (by decide) (by decide) ?_
  rintro _ T _ ⟨rfl, rfl⟩ A
  show Go p e below _ (T.setTop (mkF m 36 #[.val (.ref r0), .val (.int (3 : Int32))] []))
  exact A.retV d8_36 (by decide) (by decide) ⟨rfl, rfl⟩
set_option maxRecDepth 65536 in
set_option maxHeartbeats 8000000 in
theorem rm6_13 (l : Launch) (Z : State) (a0 : Array Value) (hw : ∀ d ∈ tables_1, d.before a0 Z = true) (n0 : Nat) (r0 : Addr) (r1 : Addr) (r2 : Addr) (r3 : Addr) (r4 : Addr) (p5 : Int32) (RR : Obs) (z_p5 : nar .boolean p5 = p5) :
    Triple l Z n0 (⟨"com/example/proof_of_scan/proofofscan/Choices", "take", "(I)Z"⟩ : MethodName) prog_2_method_3_code 2 (some .boolean) ({ frames := 0, cells := 0, slots := 0, locals := 0 } : Room) 0 0 [(.ref r0), (.int (1 : Int32))] ((r0, ob0 (.ref r1) (.ref r2) (.ref r3) (.ref r4) (.int (0 : Int32))) :: (r1, .inr (.boolean, [(.int (0 : Int32)), (.int (0 : Int32)), (.int p5)])) :: (r2, .inr (.int, [(.int (0 : Int32)), (.int (0 : Int32)), (.int (0 : Int32))])) :: (r3, .inr (.boolean, [(.int (0 : Int32)), (.int (0 : Int32)), (.int (0 : Int32))])) :: (r4, .inr (.boolean, [(.int (0 : Int32)), (.int (0 : Int32)), (.int (1 : Int32))])) :: RR) (fun v L' => v = some (.int (0 : Int32)) ∧ L' = ((r0, ob0 (.ref r1) (.ref r2) (.ref r3) (.ref r4) (.int (1 : Int32))) :: (r1, .inr (.boolean, [(.int (0 : Int32)), (.int (0 : Int32)), (.int p5)])) :: (r2, .inr (.int, [(.int (1 : Int32)), (.int (0 : Int32)), (.int (0 : Int32))])) :: (r3, .inr (.boolean, [(.int (0 : Int32)), (.int (1 : Int32)), (.int (0 : Int32))])) :: (r4, .inr (.boolean, [(.int (0 : Int32)), (.int (0 : Int32)), (.int (1 : Int32))])) :: RR)) := by
  refine Triple.of_body (tbl := tables_1) (a0 := a0) (Ls := #[.val (.ref r0), .val (.int (1 : Int32))]) pn_6 hw rfl ?_
  intro p e s m below meth c T A
  refine A.aloadN (q := 1) d6_0 rfl rfl rfl ?_
  refine A.getF (q := 4) (w := 16) (i := 0) (j := 2) d6_1 rfl rfl rfl rfl ?_
  intro T A
  refine A.iloadN (q := 5) d6_4 rfl rfl ?_
  refine A.baloadZ (q := 6) (i := 3) (v := (.int (0 : Int32))) d6_5 rfl rfl (by decide) rfl ?_
  refine A.ifF (q := 9) d6_6 rfl (by decide) ?_
  refine A.aloadN (q := 10) d6_9 rfl rfl rfl ?_
  refine A.getF (q := 13) (w := 18) (i := 0) (j := 3) d6_10 rfl rfl rfl rfl ?_
  intro T A
  refine A.iloadN (q := 14) d6_13 rfl rfl ?_
  refine A.baloadZ (q := 15) (i := 4) (v := (.int (0 : Int32))) d6_14 rfl rfl (by decide) rfl ?_
  refine A.ifF (q := 18) d6_15 rfl (by decide) ?_
  refine A.aloadN (q := 19) d6_18 rfl rfl rfl ?_
  refine A.getF (q := 22) (w := 16) (i := 0) (j := 2) d6_19 rfl rfl rfl rfl ?_
  intro T A
  refine A.iloadN (q := 23) d6_22 rfl rfl ?_
  refine A.iconst (q := 24) (v := (1 : Int32)) d6_23 rfl (by decide) ?_
  refine A.bastoreZ (q := 25) (i := 3) (x' := (1 : Int32)) (L' := ((r0, ob0 (.ref r1) (.ref r2) (.ref r3) (.ref r4) (.int (0 : Int32))) :: (r1, .inr (.boolean, [(.int (0 : Int32)), (.int (0 : Int32)), (.int p5)])) :: (r2, .inr (.int, [(.int (0 : Int32)), (.int (0 : Int32)), (.int (0 : Int32))])) :: (r3, .inr (.boolean, [(.int (0 : Int32)), (.int (1 : Int32)), (.int (0 : Int32))])) :: (r4, .inr (.boolean, [(.int (0 : Int32)), (.int (0 : Int32)), (.int (1 : Int32))])) :: RR)) d6_24 rfl rfl (by decide) (by show Int32.toNatClampNeg (1 : Int32) < 3; decide) (by decide) rfl ?_
  intro T A
  refine A.aloadN (q := 26) d6_25 rfl rfl rfl ?_
  refine A.getF (q := 29) (w := 14) (i := 0) (j := 1) d6_26 rfl rfl rfl rfl ?_
  intro T A
  refine A.aloadN (q := 30) d6_29 rfl rfl rfl ?_
  refine A.dup (q := 31) d6_30 rfl rfl ?_
  refine A.getF (q := 34) (w := 53) (i := 0) (j := 4) d6_31 rfl rfl rfl rfl ?_
  intro T A
  refine A.dup_x1 (q := 35) d6_34 rfl rfl rfl ?_
  refine A.iconst (q := 36) (v := (1 : Int32)) d6_35 rfl (by decide) ?_
  refine A.iadd (q := 37) (v := (1 : Int32)) d6_36 rfl (by decide) ?_
  refine A.putF (q := 40) (w := 53) (w2 := 54) (w3 := 2) (i := 0) (j := 4) (ty := .int) (v' := (.int (1 : Int32))) (L' := ((r0, ob0 (.ref r1) (.ref r2) (.ref r3) (.ref r4) (.int (1 : Int32))) :: (r1, .inr (.boolean, [(.int (0 : Int32)), (.int (0 : Int32)), (.int p5)])) :: (r2, .inr (.int, [(.int (0 : Int32)), (.int (0 : Int32)), (.int (0 : Int32))])) :: (r3, .inr (.boolean, [(.int (0 : Int32)), (.int (1 : Int32)), (.int (0 : Int32))])) :: (r4, .inr (.boolean, [(.int (0 : Int32)), (.int (0 : Int32)), (.int (1 : Int32))])) :: RR)) d6_37 rfl rfl rfl rfl (lay_0 Z a0 hw) (Or.inl rfl) rfl (by decide) rfl rfl rfl ?_
  intro T A
  refine A.iloadN (q := 41) d6_40 rfl rfl ?_
  refine A.iastore (q := 42) (i := 2) (x' := (1 : Int32)) (L' := ((r0, ob0 (.ref r1) (.ref r2) (.ref r3) (.ref r4) (.int (1 : Int32))) :: (r1, .inr (.boolean, [(.int (0 : Int32)), (.int (0 : Int32)), (.int p5)])) :: (r2, .inr (.int, [(.int (1 : Int32)), (.int (0 : Int32)), (.int (0 : Int32))])) :: (r3, .inr (.boolean, [(.int (0 : Int32)), (.int (1 : Int32)), (.int (0 : Int32))])) :: (r4, .inr (.boolean, [(.int (0 : Int32)), (.int (0 : Int32)), (.int (1 : Int32))])) :: RR)) d6_41 rfl rfl (by decide) (by show Int32.toNatClampNeg (0 : Int32) < 3; decide) rfl rfl ?_
  intro T A
  refine A.aloadN (q := 43) d6_42 rfl rfl rfl ?_
  refine A.getF (q := 46) (w := 11) (i := 0) (j := 0) d6_43 rfl rfl rfl rfl ?_
  intro T A
  refine A.iloadN (q := 47) d6_46 rfl rfl ?_
  refine A.baloadZ (q := 48) (i := 1) (v := (.int (0 : Int32))) d6_47 rfl rfl (by decide) rfl ?_
  exact A.retZ (v := (0 : Int32)) d6_48 (by decide) (by decide) (by decide) ⟨rfl, rfl⟩
set_option maxRecDepth 65536 in
set_option maxHeartbeats 8000000 in
theorem rm6_14 (l : Launch) (Z : State) (a0 : Array Value) (hw : ∀ d ∈ tables_1, d.before a0 Z = true) (n0 : Nat) (r0 : Addr) (r1 : Addr) (r2 : Addr) (r3 : Addr) (r4 : Addr) (p5 : Int32) (RR : Obs) (z_p5 : nar .boolean p5 = p5) :
    Triple l Z n0 (⟨"com/example/proof_of_scan/proofofscan/Choices", "take", "(I)Z"⟩ : MethodName) prog_2_method_3_code 2 (some .boolean) ({ frames := 0, cells := 0, slots := 0, locals := 0 } : Room) 0 0 [(.ref r0), (.int (2 : Int32))] ((r0, ob0 (.ref r1) (.ref r2) (.ref r3) (.ref r4) (.int (1 : Int32))) :: (r1, .inr (.boolean, [(.int (0 : Int32)), (.int (0 : Int32)), (.int p5)])) :: (r2, .inr (.int, [(.int (1 : Int32)), (.int (0 : Int32)), (.int (0 : Int32))])) :: (r3, .inr (.boolean, [(.int (0 : Int32)), (.int (1 : Int32)), (.int (0 : Int32))])) :: (r4, .inr (.boolean, [(.int (0 : Int32)), (.int (0 : Int32)), (.int (1 : Int32))])) :: RR) (fun v L' => v = some (.int p5) ∧ L' = ((r0, ob0 (.ref r1) (.ref r2) (.ref r3) (.ref r4) (.int (1 : Int32))) :: (r1, .inr (.boolean, [(.int (0 : Int32)), (.int (0 : Int32)), (.int p5)])) :: (r2, .inr (.int, [(.int (1 : Int32)), (.int (0 : Int32)), (.int (0 : Int32))])) :: (r3, .inr (.boolean, [(.int (0 : Int32)), (.int (1 : Int32)), (.int (0 : Int32))])) :: (r4, .inr (.boolean, [(.int (0 : Int32)), (.int (0 : Int32)), (.int (1 : Int32))])) :: RR)) := by
  refine Triple.of_body (tbl := tables_1) (a0 := a0) (Ls := #[.val (.ref r0), .val (.int (2 : Int32))]) pn_6 hw rfl ?_
  intro p e s m below meth c T A
  refine A.aloadN (q := 1) d6_0 rfl rfl rfl ?_
  refine A.getF (q := 4) (w := 16) (i := 0) (j := 2) d6_1 rfl rfl rfl rfl ?_
  intro T A
  refine A.iloadN (q := 5) d6_4 rfl rfl ?_
  refine A.baloadZ (q := 6) (i := 3) (v := (.int (0 : Int32))) d6_5 rfl rfl (by decide) rfl ?_
  refine A.ifF (q := 9) d6_6 rfl (by decide) ?_
  refine A.aloadN (q := 10) d6_9 rfl rfl rfl ?_
  refine A.getF (q := 13) (w := 18) (i := 0) (j := 3) d6_10 rfl rfl rfl rfl ?_
  intro T A
  refine A.iloadN (q := 14) d6_13 rfl rfl ?_
  refine A.baloadZ (q := 15) (i := 4) (v := (.int (1 : Int32))) d6_14 rfl rfl (by decide) rfl ?_
  refine A.ifT (r := 42) d6_15 (by decide) (by decide) ?_
  refine A.aloadN (q := 43) d6_42 rfl rfl rfl ?_
  refine A.getF (q := 46) (w := 11) (i := 0) (j := 0) d6_43 rfl rfl rfl rfl ?_
  intro T A
  refine A.iloadN (q := 47) d6_46 rfl rfl ?_
  refine A.baloadZ (q := 48) (i := 1) (v := (.int p5)) d6_47 rfl rfl (by decide) rfl ?_
  exact A.retZ (v := p5) d6_48 z_p5 (by decide) (by decide) ⟨rfl, rfl⟩
set_option maxRecDepth 65536 in
set_option maxHeartbeats 8000000 in
theorem rm9_12 (l : Launch) (Z : State) (a0 : Array Value) (hw : ∀ d ∈ tables_1, d.before a0 Z = true) (n0 : Nat) (r0 : Addr) (r1 : Addr) (r2 : Addr) (r3 : Addr) (r4 : Addr) (p5 : Int32) (RR : Obs) (z_p5 : nar .boolean p5 = p5) :
    Triple l Z n0 (⟨"com/example/proof_of_scan/proofofscan/Choices", "forgetTaken", "()V"⟩ : MethodName) prog_2_method_10_code 2 none ({ frames := 0, cells := 0, slots := 0, locals := 0 } : Room) 0 0 [(.ref r0)] ((r0, ob0 (.ref r1) (.ref r2) (.ref r3) (.ref r4) (.int (1 : Int32))) :: (r1, .inr (.boolean, [(.int (0 : Int32)), (.int (1 : Int32)), (.int p5)])) :: (r2, .inr (.int, [(.int (1 : Int32)), (.int (0 : Int32)), (.int (0 : Int32))])) :: (r3, .inr (.boolean, [(.int (0 : Int32)), (.int (1 : Int32)), (.int (0 : Int32))])) :: (r4, .inr (.boolean, [(.int (0 : Int32)), (.int (0 : Int32)), (.int (1 : Int32))])) :: RR) (fun v L' => v = none ∧ L' = ((r0, ob0 (.ref r1) (.ref r2) (.ref r3) (.ref r4) (.int (0 : Int32))) :: (r1, .inr (.boolean, [(.int (0 : Int32)), (.int (1 : Int32)), (.int p5)])) :: (r2, .inr (.int, [(.int (1 : Int32)), (.int (0 : Int32)), (.int (0 : Int32))])) :: (r3, .inr (.boolean, [(.int (0 : Int32)), (.int (0 : Int32)), (.int (0 : Int32))])) :: (r4, .inr (.boolean, [(.int (0 : Int32)), (.int (0 : Int32)), (.int (1 : Int32))])) :: RR)) := by
  refine Triple.of_body (tbl := tables_1) (a0 := a0) (Ls := #[.val (.ref r0), .unset]) pn_9 hw rfl ?_
  intro p e s m below meth c T A
  refine A.iconst (q := 1) (v := (0 : Int32)) d9_0 rfl (by decide) ?_
  refine A.istoreN (q := 2) (l' := #[.val (.ref r0), .val (.int (0 : Int32))]) d9_1 rfl rfl ?_
  refine A.iloadN (q := 3) d9_2 rfl rfl ?_
  refine A.aloadN (q := 4) d9_3 rfl rfl rfl ?_
  refine A.getF (q := 7) (w := 53) (i := 0) (j := 4) d9_4 rfl rfl rfl rfl ?_
  intro T A
  refine A.icmpF (q := 10) d9_7 rfl (by decide) ?_
  refine A.aloadN (q := 11) d9_10 rfl rfl rfl ?_
  refine A.getF (q := 14) (w := 16) (i := 0) (j := 2) d9_11 rfl rfl rfl rfl ?_
  intro T A
  refine A.aloadN (q := 15) d9_14 rfl rfl rfl ?_
  refine A.getF (q := 18) (w := 14) (i := 0) (j := 1) d9_15 rfl rfl rfl rfl ?_
  intro T A
  refine A.iloadN (q := 19) d9_18 rfl rfl ?_
  refine A.iaload (q := 20) (i := 2) (v := (.int (1 : Int32))) d9_19 rfl rfl (by decide) rfl ?_
  refine A.iconst (q := 21) (v := (0 : Int32)) d9_20 rfl (by decide) ?_
  refine A.bastoreZ (q := 22) (i := 3) (x' := (0 : Int32)) (L' := ((r0, ob0 (.ref r1) (.ref r2) (.ref r3) (.ref r4) (.int (1 : Int32))) :: (r1, .inr (.boolean, [(.int (0 : Int32)), (.int (1 : Int32)), (.int p5)])) :: (r2, .inr (.int, [(.int (1 : Int32)), (.int (0 : Int32)), (.int (0 : Int32))])) :: (r3, .inr (.boolean, [(.int (0 : Int32)), (.int (0 : Int32)), (.int (0 : Int32))])) :: (r4, .inr (.boolean, [(.int (0 : Int32)), (.int (0 : Int32)), (.int (1 : Int32))])) :: RR)) d9_21 rfl rfl (by decide) (by show Int32.toNatClampNeg (1 : Int32) < 3; decide) (by decide) rfl ?_
  intro T A
  refine A.iinc (q := 25) (v := (1 : Int32)) (l' := #[.val (.ref r0), .val (.int (1 : Int32))]) d9_22 rfl rfl (by decide) rfl ?_
  refine A.goto (r := 2) d9_25 (by decide) ?_
  refine A.iloadN (q := 3) d9_2 rfl rfl ?_
  refine A.aloadN (q := 4) d9_3 rfl rfl rfl ?_
  refine A.getF (q := 7) (w := 53) (i := 0) (j := 4) d9_4 rfl rfl rfl rfl ?_
  intro T A
  refine A.icmpT (r := 28) d9_7 (by decide) (by decide) ?_
  refine A.aloadN (q := 29) d9_28 rfl rfl rfl ?_
  refine A.iconst (q := 30) (v := (0 : Int32)) d9_29 rfl (by decide) ?_
  refine A.putF (q := 33) (w := 53) (w2 := 54) (w3 := 2) (i := 0) (j := 4) (ty := .int) (v' := (.int (0 : Int32))) (L' := ((r0, ob0 (.ref r1) (.ref r2) (.ref r3) (.ref r4) (.int (0 : Int32))) :: (r1, .inr (.boolean, [(.int (0 : Int32)), (.int (1 : Int32)), (.int p5)])) :: (r2, .inr (.int, [(.int (1 : Int32)), (.int (0 : Int32)), (.int (0 : Int32))])) :: (r3, .inr (.boolean, [(.int (0 : Int32)), (.int (0 : Int32)), (.int (0 : Int32))])) :: (r4, .inr (.boolean, [(.int (0 : Int32)), (.int (0 : Int32)), (.int (1 : Int32))])) :: RR)) d9_30 rfl rfl rfl rfl (lay_0 Z a0 hw) (Or.inl rfl) rfl (by decide) rfl rfl rfl ?_
  intro T A
  exact A.retV d9_33 (by decide) (by decide) ⟨rfl, rfl⟩
set_option maxRecDepth 65536 in
set_option maxHeartbeats 8000000 in
theorem rm7_8 (l : Launch) (Z : State) (a0 : Array Value) (hw : ∀ d ∈ tables_1, d.before a0 Z = true) (n0 : Nat) (r0 : Addr) (r1 : Addr) (r2 : Addr) (r3 : Addr) (r4 : Addr) (p5 : Int32) (RR : Obs) (z_p5 : nar .boolean p5 = p5) :
    Triple l Z n0 (⟨"com/example/proof_of_scan/proofofscan/Choices", "next", "()Z"⟩ : MethodName) prog_2_method_9_code 3 (some .boolean) ({ frames := 1, cells := 0, slots := 0, locals := 13 } : Room) 0 0 [(.ref r0)] ((r0, ob0 (.ref r1) (.ref r2) (.ref r3) (.ref r4) (.int (1 : Int32))) :: (r1, .inr (.boolean, [(.int (0 : Int32)), (.int (0 : Int32)), (.int p5)])) :: (r2, .inr (.int, [(.int (1 : Int32)), (.int (0 : Int32)), (.int (0 : Int32))])) :: (r3, .inr (.boolean, [(.int (0 : Int32)), (.int (1 : Int32)), (.int (0 : Int32))])) :: (r4, .inr (.boolean, [(.int (0 : Int32)), (.int (0 : Int32)), (.int (1 : Int32))])) :: RR) (fun v L' => v = some (.int (1 : Int32)) ∧ L' = ((r0, ob0 (.ref r1) (.ref r2) (.ref r3) (.ref r4) (.int (0 : Int32))) :: (r1, .inr (.boolean, [(.int (0 : Int32)), (.int (1 : Int32)), (.int p5)])) :: (r2, .inr (.int, [(.int (1 : Int32)), (.int (0 : Int32)), (.int (0 : Int32))])) :: (r3, .inr (.boolean, [(.int (0 : Int32)), (.int (0 : Int32)), (.int (0 : Int32))])) :: (r4, .inr (.boolean, [(.int (0 : Int32)), (.int (0 : Int32)), (.int (1 : Int32))])) :: RR)) := by
  refine Triple.of_body (tbl := tables_1) (a0 := a0) (Ls := #[.val (.ref r0), .unset, .unset]) pn_7 hw rfl ?_
  intro p e s m below meth c T A
  refine A.aloadN (q := 1) d7_0 rfl rfl rfl ?_
  refine A.getF (q := 4) (w := 53) (i := 0) (j := 4) d7_1 rfl rfl rfl rfl ?_
  intro T A
  refine A.iconst (q := 5) (v := (1 : Int32)) d7_4 rfl (by decide) ?_
  refine A.isub (q := 6) (v := (0 : Int32)) d7_5 rfl (by decide) ?_
  refine A.istoreN (q := 7) (l' := #[.val (.ref r0), .val (.int (0 : Int32)), .unset]) d7_6 rfl rfl ?_
  refine A.iloadN (q := 8) d7_7 rfl rfl ?_
  refine A.ifF (q := 11) d7_8 rfl (by decide) ?_
  refine A.aloadN (q := 12) d7_11 rfl rfl rfl ?_
  refine A.getF (q := 15) (w := 11) (i := 0) (j := 0) d7_12 rfl rfl rfl rfl ?_
  intro T A
  refine A.aloadN (q := 16) d7_15 rfl rfl rfl ?_
  refine A.getF (q := 19) (w := 14) (i := 0) (j := 1) d7_16 rfl rfl rfl rfl ?_
  intro T A
  refine A.iloadN (q := 20) d7_19 rfl rfl ?_
  refine A.iaload (q := 21) (i := 2) (v := (.int (1 : Int32))) d7_20 rfl rfl (by decide) rfl ?_
  refine A.baloadZ (q := 22) (i := 1) (v := (.int (0 : Int32))) d7_21 rfl rfl (by decide) rfl ?_
  refine A.ifT (r := 31) d7_22 (by decide) (by decide) ?_
  refine A.iloadN (q := 32) d7_31 rfl rfl ?_
  refine A.ifT (r := 37) d7_32 (by decide) (by decide) ?_
  refine A.aloadN (q := 38) d7_37 rfl rfl rfl ?_
  refine A.getF (q := 41) (w := 11) (i := 0) (j := 0) d7_38 rfl rfl rfl rfl ?_
  intro T A
  refine A.aloadN (q := 42) d7_41 rfl rfl rfl ?_
  refine A.getF (q := 45) (w := 14) (i := 0) (j := 1) d7_42 rfl rfl rfl rfl ?_
  intro T A
  refine A.iloadN (q := 46) d7_45 rfl rfl ?_
  refine A.iaload (q := 47) (i := 2) (v := (.int (1 : Int32))) d7_46 rfl rfl (by decide) rfl ?_
  refine A.iconst (q := 48) (v := (1 : Int32)) d7_47 rfl (by decide) ?_
  refine A.bastoreZ (q := 49) (i := 1) (x' := (1 : Int32)) (L' := ((r0, ob0 (.ref r1) (.ref r2) (.ref r3) (.ref r4) (.int (1 : Int32))) :: (r1, .inr (.boolean, [(.int (0 : Int32)), (.int (1 : Int32)), (.int p5)])) :: (r2, .inr (.int, [(.int (1 : Int32)), (.int (0 : Int32)), (.int (0 : Int32))])) :: (r3, .inr (.boolean, [(.int (0 : Int32)), (.int (1 : Int32)), (.int (0 : Int32))])) :: (r4, .inr (.boolean, [(.int (0 : Int32)), (.int (0 : Int32)), (.int (1 : Int32))])) :: RR)) d7_48 rfl rfl (by decide) (by show Int32.toNatClampNeg (1 : Int32) < 3; decide) (by decide) rfl ?_
  intro T A
  refine A.iloadN (q := 50) d7_49 rfl rfl ?_
  refine A.iconst (q := 51) (v := (1 : Int32)) d7_50 rfl (by decide) ?_
  refine A.iadd (q := 52) (v := (1 : Int32)) d7_51 rfl (by decide) ?_
  refine A.istoreN (q := 53) (l' := #[.val (.ref r0), .val (.int (0 : Int32)), .val (.int (1 : Int32))]) d7_52 rfl rfl ?_
  refine A.iloadN (q := 54) d7_53 rfl rfl ?_
  refine A.aloadN (q := 55) d7_54 rfl rfl rfl ?_
  refine A.getF (q := 58) (w := 53) (i := 0) (j := 4) d7_55 rfl rfl rfl rfl ?_
  intro T A
  refine A.icmpT (r := 79) d7_58 (by decide) (by decide) ?_
  refine A.aloadN (q := 80) d7_79 rfl rfl rfl ?_
  refine A.callP (q := 83) (i := 0) (w1 := 60) (w2 := 62) (w3 := 3) (w4 := 63) (w5 := 2) (w6 := 61) (a := r0) (as := []) (st := []) (W := 0) d7_80 rfl rfl rfl rfl rfl rfl rfl rfl (rm9_12 l Z a0 hw n0 r0 r1 r2 r3 r4 p5 _ z_p5) (by decide) ⟨_, _, pd_6, rfl⟩ rfl rfl rfl (by decide) (by decide) (by decide) (by decide) ?_
  rintro _ T _ ⟨rfl, rfl⟩ A
  show Go p e below _ (T.setTop (mkF m 83 #[.val (.ref r0), .val (.int (0 : Int32)), .val (.int (1 : Int32))] []))
  refine A.iconst (q := 84) (v := (1 : Int32)) d7_83 rfl (by decide) ?_
  exact A.retZ (v := (1 : Int32)) d7_84 (by decide) (by decide) (by decide) ⟨rfl, rfl⟩
set_option maxRecDepth 65536 in
set_option maxHeartbeats 8000000 in
theorem rm4_12 (l : Launch) (Z : State) (a0 : Array Value) (hw : ∀ d ∈ tables_1, d.before a0 Z = true) (n0 : Nat) (r0 : Addr) (r1 : Addr) (r2 : Addr) (r3 : Addr) (r4 : Addr) (p5 : Int32) (RR : Obs) (z_p5 : nar .boolean p5 = p5) :
    Triple l Z n0 (⟨"com/example/proof_of_scan/proofofscan/Choices", "values", "()[Z"⟩ : MethodName) prog_2_method_7_code 1 (some (.array .boolean)) ({ frames := 1, cells := 1, slots := 3, locals := 14 } : Room) 1 3 [(.ref r0)] ((r0, ob0 (.ref r1) (.ref r2) (.ref r3) (.ref r4) (.int (0 : Int32))) :: (r1, .inr (.boolean, [(.int (0 : Int32)), (.int (1 : Int32)), (.int p5)])) :: (r2, .inr (.int, [(.int (1 : Int32)), (.int (0 : Int32)), (.int (0 : Int32))])) :: (r3, .inr (.boolean, [(.int (0 : Int32)), (.int (0 : Int32)), (.int (0 : Int32))])) :: (r4, .inr (.boolean, [(.int (0 : Int32)), (.int (0 : Int32)), (.int (1 : Int32))])) :: RR) (fun v L' => ∃ b1 : Addr, v = some (.ref b1) ∧ L' = ((b1, .inr (.boolean, [(.int (0 : Int32)), (.int (1 : Int32)), (.int p5)])) :: (r0, ob0 (.ref r1) (.ref r2) (.ref r3) (.ref r4) (.int (0 : Int32))) :: (r1, .inr (.boolean, [(.int (0 : Int32)), (.int (1 : Int32)), (.int p5)])) :: (r2, .inr (.int, [(.int (1 : Int32)), (.int (0 : Int32)), (.int (0 : Int32))])) :: (r3, .inr (.boolean, [(.int (0 : Int32)), (.int (0 : Int32)), (.int (0 : Int32))])) :: (r4, .inr (.boolean, [(.int (0 : Int32)), (.int (0 : Int32)), (.int (1 : Int32))])) :: RR)) := by
  refine Triple.of_body (tbl := tables_1) (a0 := a0) (Ls := #[.val (.ref r0)]) pn_4 hw rfl ?_
  intro p e s m below meth c T A
  refine A.aloadN (q := 1) d4_0 rfl rfl rfl ?_
  refine A.getF (q := 4) (w := 11) (i := 0) (j := 0) d4_1 rfl rfl rfl rfl ?_
  intro T A
  refine A.clone (q := 7) (i := 1) (w1 := 30) (w2 := 31) (w3 := 35) (w4 := 33) (w5 := 34) (w6 := 36) (W := 0) (cap := 3) (ad := "[Z") d4_4 rfl rfl (by decide) rfl rfl rfl rfl rfl rfl rfl rfl (by decide) (by decide) (Nat.le_refl _) (by decide) (by decide) ?_
  intro T b1 A
  refine A.castArr (q := 10) (w := 37) (i := 0) d4_7 rfl rfl rfl (by decide) ?_
  intro T A
  exact A.retA d4_10 rfl rfl rfl (by decide) (by decide) ⟨b1, rfl, rfl⟩
set_option maxRecDepth 65536 in
set_option maxHeartbeats 8000000 in
theorem rm5_9 (l : Launch) (Z : State) (a0 : Array Value) (hw : ∀ d ∈ tables_1, d.before a0 Z = true) (n0 : Nat) (r0 : Addr) (p1 : Int32) (RR : Obs) (z_p1 : nar .boolean p1 = p1) :
    Triple l Z n0 (⟨"com/example/proof_of_scan/proofofscan/ChoicesHoldPinLaw", "same", "([ZIZI)Z"⟩ : MethodName) method_2_code 7 (some .boolean) ({ frames := 0, cells := 0, slots := 0, locals := 0 } : Room) 0 0 [(.ref r0), (.int (2 : Int32)), (.int p1), (.int (1 : Int32))] ((r0, .inr (.boolean, [(.int (0 : Int32)), (.int (1 : Int32)), (.int p1)])) :: RR) (fun v L' => v = some (.int (1 : Int32)) ∧ L' = ((r0, .inr (.boolean, [(.int (0 : Int32)), (.int (1 : Int32)), (.int p1)])) :: RR)) := by
  refine Triple.of_body (tbl := tables_1) (a0 := a0) (Ls := #[.val (.ref r0), .val (.int (2 : Int32)), .val (.int p1), .val (.int (1 : Int32)), .unset, .unset, .unset]) pn_5 hw rfl ?_
  intro p e s m below meth c T A
  refine A.aloadN (q := 1) d5_0 rfl rfl rfl ?_
  refine A.arraylength (q := 2) (i := 0) (v := (3 : Int32)) d5_1 rfl rfl (by show Nat.toInt32 3 = 3; decide) ?_
  refine A.iconst (q := 3) (v := (3 : Int32)) d5_2 rfl (by decide) ?_
  refine A.icmpT (r := 8) d5_3 (by decide) (by decide) ?_
  refine A.iconst (q := 9) (v := (0 : Int32)) d5_8 rfl (by decide) ?_
  refine A.iloadN (q := 10) d5_9 rfl rfl ?_
  refine A.icmpT (r := 17) d5_10 (by decide) (by decide) ?_
  refine A.iconst (q := 18) (v := (0 : Int32)) d5_17 rfl (by decide) ?_
  refine A.iloadN (q := 19) d5_18 rfl rfl ?_
  refine A.icmpT (r := 26) d5_19 (by decide) (by decide) ?_
  refine A.iconst (q := 27) (v := (0 : Int32)) d5_26 rfl (by decide) ?_
  refine A.istore (q := 29) (l' := #[.val (.ref r0), .val (.int (2 : Int32)), .val (.int p1), .val (.int (1 : Int32)), .val (.int (0 : Int32)), .unset, .unset]) d5_27 rfl rfl ?_
  refine A.iconst (q := 30) (v := (1 : Int32)) d5_29 rfl (by decide) ?_
  refine A.iloadN (q := 31) d5_30 rfl rfl ?_
  refine A.icmpT (r := 38) d5_31 (by decide) (by decide) ?_
  refine A.iconst (q := 39) (v := (1 : Int32)) d5_38 rfl (by decide) ?_
  refine A.iloadN (q := 40) d5_39 rfl rfl ?_
  refine A.icmpF (q := 43) d5_40 rfl (by decide) ?_
  refine A.iconst (q := 44) (v := (1 : Int32)) d5_43 rfl (by decide) ?_
  refine A.goto (r := 48) d5_44 (by decide) ?_
  refine A.istore (q := 50) (l' := #[.val (.ref r0), .val (.int (2 : Int32)), .val (.int p1), .val (.int (1 : Int32)), .val (.int (0 : Int32)), .val (.int (1 : Int32)), .unset]) d5_48 rfl rfl ?_
  refine A.iconst (q := 51) (v := (2 : Int32)) d5_50 rfl (by decide) ?_
  refine A.iloadN (q := 52) d5_51 rfl rfl ?_
  refine A.icmpF (q := 55) d5_52 rfl (by decide) ?_
  refine A.iloadN (q := 56) d5_55 rfl rfl ?_
  refine A.goto (r := 69) d5_56 (by decide) ?_
  refine A.istore (q := 71) (l' := #[.val (.ref r0), .val (.int (2 : Int32)), .val (.int p1), .val (.int (1 : Int32)), .val (.int (0 : Int32)), .val (.int (1 : Int32)), .val (.int p1)]) d5_69 rfl rfl ?_
  refine A.aloadN (q := 72) d5_71 rfl rfl rfl ?_
  refine A.iconst (q := 73) (v := (0 : Int32)) d5_72 rfl (by decide) ?_
  refine A.baloadZ (q := 74) (i := 0) (v := (.int (0 : Int32))) d5_73 rfl rfl (by decide) rfl ?_
  refine A.iload (q := 76) d5_74 rfl rfl ?_
  refine A.icmpF (q := 79) d5_76 rfl (by decide) ?_
  refine A.aloadN (q := 80) d5_79 rfl rfl rfl ?_
  refine A.iconst (q := 81) (v := (1 : Int32)) d5_80 rfl (by decide) ?_
  refine A.baloadZ (q := 82) (i := 0) (v := (.int (1 : Int32))) d5_81 rfl rfl (by decide) rfl ?_
  refine A.iload (q := 84) d5_82 rfl rfl ?_
  refine A.icmpF (q := 87) d5_84 rfl (by decide) ?_
  refine A.aloadN (q := 88) d5_87 rfl rfl rfl ?_
  refine A.iconst (q := 89) (v := (2 : Int32)) d5_88 rfl (by decide) ?_
  refine A.baloadZ (q := 90) (i := 0) (v := (.int p1)) d5_89 rfl rfl (by decide) rfl ?_
  refine A.iload (q := 92) d5_90 rfl rfl ?_
  refine A.icmpF (q := 95) d5_92 rfl (teq rfl).2 ?_
  refine A.iconst (q := 96) (v := (1 : Int32)) d5_95 rfl (by decide) ?_
  refine A.goto (r := 100) d5_96 (by decide) ?_
  exact A.retZ (v := (1 : Int32)) d5_100 (by decide) (by decide) (by decide) ⟨rfl, rfl⟩
set_option maxRecDepth 65536 in
set_option maxHeartbeats 8000000 in
theorem rm9_13 (l : Launch) (Z : State) (a0 : Array Value) (hw : ∀ d ∈ tables_1, d.before a0 Z = true) (n0 : Nat) (r0 : Addr) (r1 : Addr) (r2 : Addr) (r3 : Addr) (r4 : Addr) (p5 : Int32) (RR : Obs) (z_p5 : nar .boolean p5 = p5) :
    Triple l Z n0 (⟨"com/example/proof_of_scan/proofofscan/Choices", "forgetTaken", "()V"⟩ : MethodName) prog_2_method_10_code 2 none ({ frames := 0, cells := 0, slots := 0, locals := 0 } : Room) 0 0 [(.ref r0)] ((r0, ob0 (.ref r1) (.ref r2) (.ref r3) (.ref r4) (.int (0 : Int32))) :: (r1, .inr (.boolean, [(.int (0 : Int32)), (.int (0 : Int32)), (.int p5)])) :: (r2, .inr (.int, [(.int (1 : Int32)), (.int (0 : Int32)), (.int (0 : Int32))])) :: (r3, .inr (.boolean, [(.int (0 : Int32)), (.int (0 : Int32)), (.int (0 : Int32))])) :: (r4, .inr (.boolean, [(.int (0 : Int32)), (.int (0 : Int32)), (.int (1 : Int32))])) :: RR) (fun v L' => v = none ∧ L' = ((r0, ob0 (.ref r1) (.ref r2) (.ref r3) (.ref r4) (.int (0 : Int32))) :: (r1, .inr (.boolean, [(.int (0 : Int32)), (.int (0 : Int32)), (.int p5)])) :: (r2, .inr (.int, [(.int (1 : Int32)), (.int (0 : Int32)), (.int (0 : Int32))])) :: (r3, .inr (.boolean, [(.int (0 : Int32)), (.int (0 : Int32)), (.int (0 : Int32))])) :: (r4, .inr (.boolean, [(.int (0 : Int32)), (.int (0 : Int32)), (.int (1 : Int32))])) :: RR)) := by
  refine Triple.of_body (tbl := tables_1) (a0 := a0) (Ls := #[.val (.ref r0), .unset]) pn_9 hw rfl ?_
  intro p e s m below meth c T A
  refine A.iconst (q := 1) (v := (0 : Int32)) d9_0 rfl (by decide) ?_
  refine A.istoreN (q := 2) (l' := #[.val (.ref r0), .val (.int (0 : Int32))]) d9_1 rfl rfl ?_
  refine A.iloadN (q := 3) d9_2 rfl rfl ?_
  refine A.aloadN (q := 4) d9_3 rfl rfl rfl ?_
  refine A.getF (q := 7) (w := 53) (i := 0) (j := 4) d9_4 rfl rfl rfl rfl ?_
  intro T A
  refine A.icmpT (r := 28) d9_7 (by decide) (by decide) ?_
  refine A.aloadN (q := 29) d9_28 rfl rfl rfl ?_
  refine A.iconst (q := 30) (v := (0 : Int32)) d9_29 rfl (by decide) ?_
  refine A.putF (q := 33) (w := 53) (w2 := 54) (w3 := 2) (i := 0) (j := 4) (ty := .int) (v' := (.int (0 : Int32))) (L' := ((r0, ob0 (.ref r1) (.ref r2) (.ref r3) (.ref r4) (.int (0 : Int32))) :: (r1, .inr (.boolean, [(.int (0 : Int32)), (.int (0 : Int32)), (.int p5)])) :: (r2, .inr (.int, [(.int (1 : Int32)), (.int (0 : Int32)), (.int (0 : Int32))])) :: (r3, .inr (.boolean, [(.int (0 : Int32)), (.int (0 : Int32)), (.int (0 : Int32))])) :: (r4, .inr (.boolean, [(.int (0 : Int32)), (.int (0 : Int32)), (.int (1 : Int32))])) :: RR)) d9_30 rfl rfl rfl rfl (lay_0 Z a0 hw) (Or.inl rfl) rfl (by decide) rfl rfl rfl ?_
  intro T A
  exact A.retV d9_33 (by decide) (by decide) ⟨rfl, rfl⟩
set_option maxRecDepth 65536 in
set_option maxHeartbeats 8000000 in
theorem rm8_8 (l : Launch) (Z : State) (a0 : Array Value) (hw : ∀ d ∈ tables_1, d.before a0 Z = true) (n0 : Nat) (r0 : Addr) (r1 : Addr) (r2 : Addr) (r3 : Addr) (r4 : Addr) (p5 : Int32) (RR : Obs) (z_p5 : nar .boolean p5 = p5) :
    Triple l Z n0 (⟨"com/example/proof_of_scan/proofofscan/Choices", "reset", "()V"⟩ : MethodName) prog_2_method_8_code 2 none ({ frames := 1, cells := 0, slots := 0, locals := 13 } : Room) 0 0 [(.ref r0)] ((r0, ob0 (.ref r1) (.ref r2) (.ref r3) (.ref r4) (.int (0 : Int32))) :: (r1, .inr (.boolean, [(.int (0 : Int32)), (.int (1 : Int32)), (.int p5)])) :: (r2, .inr (.int, [(.int (1 : Int32)), (.int (0 : Int32)), (.int (0 : Int32))])) :: (r3, .inr (.boolean, [(.int (0 : Int32)), (.int (0 : Int32)), (.int (0 : Int32))])) :: (r4, .inr (.boolean, [(.int (0 : Int32)), (.int (0 : Int32)), (.int (1 : Int32))])) :: RR) (fun v L' => v = none ∧ L' = ((r0, ob0 (.ref r1) (.ref r2) (.ref r3) (.ref r4) (.int (0 : Int32))) :: (r1, .inr (.boolean, [(.int (0 : Int32)), (.int (0 : Int32)), (.int p5)])) :: (r2, .inr (.int, [(.int (1 : Int32)), (.int (0 : Int32)), (.int (0 : Int32))])) :: (r3, .inr (.boolean, [(.int (0 : Int32)), (.int (0 : Int32)), (.int (0 : Int32))])) :: (r4, .inr (.boolean, [(.int (0 : Int32)), (.int (0 : Int32)), (.int (1 : Int32))])) :: RR)) := by
  refine Triple.of_body (tbl := tables_1) (a0 := a0) (Ls := #[.val (.ref r0), .unset]) pn_8 hw rfl ?_
  intro p e s m below meth c T A
  refine A.iconst (q := 1) (v := (0 : Int32)) d8_0 rfl (by decide) ?_
  refine A.istoreN (q := 2) (l' := #[.val (.ref r0), .val (.int (0 : Int32))]) d8_1 rfl rfl ?_
  refine A.iloadN (q := 3) d8_2 rfl rfl ?_
  refine A.aloadN (q := 4) d8_3 rfl rfl rfl ?_
  refine A.getF (q := 7) (w := 11) (i := 0) (j := 0) d8_4 rfl rfl rfl rfl ?_
  intro T A
  refine A.arraylength (q := 8) (i := 1) (v := (3 : Int32)) d8_7 rfl rfl (by show Nat.toInt32 3 = 3; decide) ?_
  refine A.icmpF (q := 11) d8_8 rfl (by decide) ?_
  refine A.aloadN (q := 12) d8_11 rfl rfl rfl ?_
  refine A.getF (q := 15) (w := 11) (i := 0) (j := 0) d8_12 rfl rfl rfl rfl ?_
  intro T A
  refine A.iloadN (q := 16) d8_15 rfl rfl ?_
  refine A.dup2 (q := 17) d8_16 rfl rfl rfl ?_
  refine A.baloadZ (q := 18) (i := 1) (v := (.int (0 : Int32))) d8_17 rfl rfl (by decide) rfl ?_
  refine A.aloadN (q := 19) d8_18 rfl rfl rfl ?_
  refine A.getF (q := 22) (w := 18) (i := 0) (j := 3) d8_19 rfl rfl rfl rfl ?_
  intro T A
  refine A.iloadN (q := 23) d8_22 rfl rfl ?_
  refine A.baloadZ (q := 24) (i := 4) (v := (.int (0 : Int32))) d8_23 rfl rfl (by decide) rfl ?_
  refine A.iand (q := 25) (v := (0 : Int32)) d8_24 rfl (by decide) ?_
  refine A.bastoreZ (q := 26) (i := 1) (x' := (0 : Int32)) (L' := ((r0, ob0 (.ref r1) (.ref r2) (.ref r3) (.ref r4) (.int (0 : Int32))) :: (r1, .inr (.boolean, [(.int (0 : Int32)), (.int (1 : Int32)), (.int p5)])) :: (r2, .inr (.int, [(.int (1 : Int32)), (.int (0 : Int32)), (.int (0 : Int32))])) :: (r3, .inr (.boolean, [(.int (0 : Int32)), (.int (0 : Int32)), (.int (0 : Int32))])) :: (r4, .inr (.boolean, [(.int (0 : Int32)), (.int (0 : Int32)), (.int (1 : Int32))])) :: RR)) d8_25 rfl rfl (by decide) (by show Int32.toNatClampNeg (0 : Int32) < 3; decide) (by decide) rfl ?_
  intro T A
  refine A.iinc (q := 29) (v := (1 : Int32)) (l' := #[.val (.ref r0), .val (.int (1 : Int32))]) d8_26 rfl rfl (by decide) rfl ?_
  refine A.goto (r := 2) d8_29 (by decide) ?_
  refine A.iloadN (q := 3) d8_2 rfl rfl ?_
  refine A.aloadN (q := 4) d8_3 rfl rfl rfl ?_
  refine A.getF (q := 7) (w := 11) (i := 0) (j := 0) d8_4 rfl rfl rfl rfl ?_
  intro T A
  refine A.arraylength (q := 8) (i := 1) (v := (3 : Int32)) d8_7 rfl rfl (by show Nat.toInt32 3 = 3; decide) ?_
  refine A.icmpF (q := 11) d8_8 rfl (by decide) ?_
  refine A.aloadN (q := 12) d8_11 rfl rfl rfl ?_
  refine A.getF (q := 15) (w := 11) (i := 0) (j := 0) d8_12 rfl rfl rfl rfl ?_
  intro T A
  refine A.iloadN (q := 16) d8_15 rfl rfl ?_
  refine A.dup2 (q := 17) d8_16 rfl rfl rfl ?_
  refine A.baloadZ (q := 18) (i := 1) (v := (.int (1 : Int32))) d8_17 rfl rfl (by decide) rfl ?_
  refine A.aloadN (q := 19) d8_18 rfl rfl rfl ?_
  refine A.getF (q := 22) (w := 18) (i := 0) (j := 3) d8_19 rfl rfl rfl rfl ?_
  intro T A
  refine A.iloadN (q := 23) d8_22 rfl rfl ?_
  refine A.baloadZ (q := 24) (i := 4) (v := (.int (0 : Int32))) d8_23 rfl rfl (by decide) rfl ?_
  refine A.iand (q := 25) (v := (0 : Int32)) d8_24 rfl (by decide) ?_
  refine A.bastoreZ (q := 26) (i := 1) (x' := (0 : Int32)) (L' := ((r0, ob0 (.ref r1) (.ref r2) (.ref r3) (.ref r4) (.int (0 : Int32))) :: (r1, .inr (.boolean, [(.int (0 : Int32)), (.int (0 : Int32)), (.int p5)])) :: (r2, .inr (.int, [(.int (1 : Int32)), (.int (0 : Int32)), (.int (0 : Int32))])) :: (r3, .inr (.boolean, [(.int (0 : Int32)), (.int (0 : Int32)), (.int (0 : Int32))])) :: (r4, .inr (.boolean, [(.int (0 : Int32)), (.int (0 : Int32)), (.int (1 : Int32))])) :: RR)) d8_25 rfl rfl (by decide) (by show Int32.toNatClampNeg (1 : Int32) < 3; decide) (by decide) rfl ?_
  intro T A
  refine A.iinc (q := 29) (v := (2 : Int32)) (l' := #[.val (.ref r0), .val (.int (2 : Int32))]) d8_26 rfl rfl (by decide) rfl ?_
  refine A.goto (r := 2) d8_29 (by decide) ?_
  refine A.iloadN (q := 3) d8_2 rfl rfl ?_
  refine A.aloadN (q := 4) d8_3 rfl rfl rfl ?_
  refine A.getF (q := 7) (w := 11) (i := 0) (j := 0) d8_4 rfl rfl rfl rfl ?_
  intro T A
  refine A.arraylength (q := 8) (i := 1) (v := (3 : Int32)) d8_7 rfl rfl (by show Nat.toInt32 3 = 3; decide) ?_
  refine A.icmpF (q := 11) d8_8 rfl (by decide) ?_
  refine A.aloadN (q := 12) d8_11 rfl rfl rfl ?_
  refine A.getF (q := 15) (w := 11) (i := 0) (j := 0) d8_12 rfl rfl rfl rfl ?_
  intro T A
  refine A.iloadN (q := 16) d8_15 rfl rfl ?_
  refine A.dup2 (q := 17) d8_16 rfl rfl rfl ?_
  refine A.baloadZ (q := 18) (i := 1) (v := (.int p5)) d8_17 rfl rfl (by decide) rfl ?_
  refine A.aloadN (q := 19) d8_18 rfl rfl rfl ?_
  refine A.getF (q := 22) (w := 18) (i := 0) (j := 3) d8_19 rfl rfl rfl rfl ?_
  intro T A
  refine A.iloadN (q := 23) d8_22 rfl rfl ?_
  refine A.baloadZ (q := 24) (i := 4) (v := (.int (1 : Int32))) d8_23 rfl rfl (by decide) rfl ?_
  refine A.iand (q := 25) (v := p5) d8_24 rfl z_p5 ?_
  refine A.bastoreZ (q := 26) (i := 1) (x' := p5) (L' := ((r0, ob0 (.ref r1) (.ref r2) (.ref r3) (.ref r4) (.int (0 : Int32))) :: (r1, .inr (.boolean, [(.int (0 : Int32)), (.int (0 : Int32)), (.int p5)])) :: (r2, .inr (.int, [(.int (1 : Int32)), (.int (0 : Int32)), (.int (0 : Int32))])) :: (r3, .inr (.boolean, [(.int (0 : Int32)), (.int (0 : Int32)), (.int (0 : Int32))])) :: (r4, .inr (.boolean, [(.int (0 : Int32)), (.int (0 : Int32)), (.int (1 : Int32))])) :: RR)) d8_25 rfl rfl (by decide) (by show Int32.toNatClampNeg (2 : Int32) < 3; decide) z_p5 rfl ?_
  intro T A
  refine A.iinc (q := 29) (v := (3 : Int32)) (l' := #[.val (.ref r0), .val (.int (3 : Int32))]) d8_26 rfl rfl (by decide) rfl ?_
  refine A.goto (r := 2) d8_29 (by decide) ?_
  refine A.iloadN (q := 3) d8_2 rfl rfl ?_
  refine A.aloadN (q := 4) d8_3 rfl rfl rfl ?_
  refine A.getF (q := 7) (w := 11) (i := 0) (j := 0) d8_4 rfl rfl rfl rfl ?_
  intro T A
  refine A.arraylength (q := 8) (i := 1) (v := (3 : Int32)) d8_7 rfl rfl (by show Nat.toInt32 3 = 3; decide) ?_
  refine A.icmpT (r := 32) d8_8 (by decide) (by decide) ?_
  refine A.aloadN (q := 33) d8_32 rfl rfl rfl ?_
  refine A.callP (q := 36) (i := 0) (w1 := 60) (w2 := 62) (w3 := 3) (w4 := 63) (w5 := 2) (w6 := 61) (a := r0) (as := []) (st := []) (W := 0) d8_33 rfl rfl rfl rfl rfl rfl rfl rfl (rm9_13 l Z a0 hw n0 r0 r1 r2 r3 r4 p5 _ z_p5) (by decide) ⟨_, _, pd_6, rfl⟩ rfl rfl rfl (by decide) (by decide) (by decide) (by decide) ?_
  rintro _ T _ ⟨rfl, rfl⟩ A
  show Go p e below _ (T.setTop (mkF m 36 #[.val (.ref r0), .val (.int (3 : Int32))] []))
  exact A.retV d8_36 (by decide) (by decide) ⟨rfl, rfl⟩
set_option maxRecDepth 65536 in
set_option maxHeartbeats 8000000 in
theorem rm4_13 (l : Launch) (Z : State) (a0 : Array Value) (hw : ∀ d ∈ tables_1, d.before a0 Z = true) (n0 : Nat) (r0 : Addr) (r1 : Addr) (r2 : Addr) (r3 : Addr) (r4 : Addr) (p5 : Int32) (RR : Obs) (z_p5 : nar .boolean p5 = p5) :
    Triple l Z n0 (⟨"com/example/proof_of_scan/proofofscan/Choices", "values", "()[Z"⟩ : MethodName) prog_2_method_7_code 1 (some (.array .boolean)) ({ frames := 1, cells := 1, slots := 3, locals := 14 } : Room) 1 3 [(.ref r0)] ((r0, ob0 (.ref r1) (.ref r2) (.ref r3) (.ref r4) (.int (0 : Int32))) :: (r1, .inr (.boolean, [(.int (0 : Int32)), (.int (0 : Int32)), (.int p5)])) :: (r2, .inr (.int, [(.int (1 : Int32)), (.int (0 : Int32)), (.int (0 : Int32))])) :: (r3, .inr (.boolean, [(.int (0 : Int32)), (.int (0 : Int32)), (.int (0 : Int32))])) :: (r4, .inr (.boolean, [(.int (0 : Int32)), (.int (0 : Int32)), (.int (1 : Int32))])) :: RR) (fun v L' => ∃ b1 : Addr, v = some (.ref b1) ∧ L' = ((b1, .inr (.boolean, [(.int (0 : Int32)), (.int (0 : Int32)), (.int p5)])) :: (r0, ob0 (.ref r1) (.ref r2) (.ref r3) (.ref r4) (.int (0 : Int32))) :: (r1, .inr (.boolean, [(.int (0 : Int32)), (.int (0 : Int32)), (.int p5)])) :: (r2, .inr (.int, [(.int (1 : Int32)), (.int (0 : Int32)), (.int (0 : Int32))])) :: (r3, .inr (.boolean, [(.int (0 : Int32)), (.int (0 : Int32)), (.int (0 : Int32))])) :: (r4, .inr (.boolean, [(.int (0 : Int32)), (.int (0 : Int32)), (.int (1 : Int32))])) :: RR)) := by
  refine Triple.of_body (tbl := tables_1) (a0 := a0) (Ls := #[.val (.ref r0)]) pn_4 hw rfl ?_
  intro p e s m below meth c T A
  refine A.aloadN (q := 1) d4_0 rfl rfl rfl ?_
  refine A.getF (q := 4) (w := 11) (i := 0) (j := 0) d4_1 rfl rfl rfl rfl ?_
  intro T A
  refine A.clone (q := 7) (i := 1) (w1 := 30) (w2 := 31) (w3 := 35) (w4 := 33) (w5 := 34) (w6 := 36) (W := 0) (cap := 3) (ad := "[Z") d4_4 rfl rfl (by decide) rfl rfl rfl rfl rfl rfl rfl rfl (by decide) (by decide) (Nat.le_refl _) (by decide) (by decide) ?_
  intro T b1 A
  refine A.castArr (q := 10) (w := 37) (i := 0) d4_7 rfl rfl rfl (by decide) ?_
  intro T A
  exact A.retA d4_10 rfl rfl rfl (by decide) (by decide) ⟨b1, rfl, rfl⟩
set_option maxRecDepth 65536 in
set_option maxHeartbeats 8000000 in
theorem rm6_15 (l : Launch) (Z : State) (a0 : Array Value) (hw : ∀ d ∈ tables_1, d.before a0 Z = true) (n0 : Nat) (r0 : Addr) (r1 : Addr) (r2 : Addr) (r3 : Addr) (r4 : Addr) (p5 : Int32) (RR : Obs) (z_p5 : nar .boolean p5 = p5) :
    Triple l Z n0 (⟨"com/example/proof_of_scan/proofofscan/Choices", "take", "(I)Z"⟩ : MethodName) prog_2_method_3_code 2 (some .boolean) ({ frames := 0, cells := 0, slots := 0, locals := 0 } : Room) 0 0 [(.ref r0), (.int (2 : Int32))] ((r0, ob0 (.ref r1) (.ref r2) (.ref r3) (.ref r4) (.int (0 : Int32))) :: (r1, .inr (.boolean, [(.int (0 : Int32)), (.int (0 : Int32)), (.int p5)])) :: (r2, .inr (.int, [(.int (0 : Int32)), (.int (0 : Int32)), (.int (0 : Int32))])) :: (r3, .inr (.boolean, [(.int (0 : Int32)), (.int (0 : Int32)), (.int (0 : Int32))])) :: (r4, .inr (.boolean, [(.int (0 : Int32)), (.int (0 : Int32)), (.int (1 : Int32))])) :: RR) (fun v L' => v = some (.int p5) ∧ L' = ((r0, ob0 (.ref r1) (.ref r2) (.ref r3) (.ref r4) (.int (0 : Int32))) :: (r1, .inr (.boolean, [(.int (0 : Int32)), (.int (0 : Int32)), (.int p5)])) :: (r2, .inr (.int, [(.int (0 : Int32)), (.int (0 : Int32)), (.int (0 : Int32))])) :: (r3, .inr (.boolean, [(.int (0 : Int32)), (.int (0 : Int32)), (.int (0 : Int32))])) :: (r4, .inr (.boolean, [(.int (0 : Int32)), (.int (0 : Int32)), (.int (1 : Int32))])) :: RR)) := by
  refine Triple.of_body (tbl := tables_1) (a0 := a0) (Ls := #[.val (.ref r0), .val (.int (2 : Int32))]) pn_6 hw rfl ?_
  intro p e s m below meth c T A
  refine A.aloadN (q := 1) d6_0 rfl rfl rfl ?_
  refine A.getF (q := 4) (w := 16) (i := 0) (j := 2) d6_1 rfl rfl rfl rfl ?_
  intro T A
  refine A.iloadN (q := 5) d6_4 rfl rfl ?_
  refine A.baloadZ (q := 6) (i := 3) (v := (.int (0 : Int32))) d6_5 rfl rfl (by decide) rfl ?_
  refine A.ifF (q := 9) d6_6 rfl (by decide) ?_
  refine A.aloadN (q := 10) d6_9 rfl rfl rfl ?_
  refine A.getF (q := 13) (w := 18) (i := 0) (j := 3) d6_10 rfl rfl rfl rfl ?_
  intro T A
  refine A.iloadN (q := 14) d6_13 rfl rfl ?_
  refine A.baloadZ (q := 15) (i := 4) (v := (.int (1 : Int32))) d6_14 rfl rfl (by decide) rfl ?_
  refine A.ifT (r := 42) d6_15 (by decide) (by decide) ?_
  refine A.aloadN (q := 43) d6_42 rfl rfl rfl ?_
  refine A.getF (q := 46) (w := 11) (i := 0) (j := 0) d6_43 rfl rfl rfl rfl ?_
  intro T A
  refine A.iloadN (q := 47) d6_46 rfl rfl ?_
  refine A.baloadZ (q := 48) (i := 1) (v := (.int p5)) d6_47 rfl rfl (by decide) rfl ?_
  exact A.retZ (v := p5) d6_48 z_p5 (by decide) (by decide) ⟨rfl, rfl⟩
set_option maxRecDepth 65536 in
set_option maxHeartbeats 8000000 in
theorem rm7_9 (l : Launch) (Z : State) (a0 : Array Value) (hw : ∀ d ∈ tables_1, d.before a0 Z = true) (n0 : Nat) (r0 : Addr) (r1 : Addr) (r2 : Addr) (r3 : Addr) (r4 : Addr) (p5 : Int32) (RR : Obs) (z_p5 : nar .boolean p5 = p5) :
    Triple l Z n0 (⟨"com/example/proof_of_scan/proofofscan/Choices", "next", "()Z"⟩ : MethodName) prog_2_method_9_code 3 (some .boolean) ({ frames := 0, cells := 0, slots := 0, locals := 0 } : Room) 0 0 [(.ref r0)] ((r0, ob0 (.ref r1) (.ref r2) (.ref r3) (.ref r4) (.int (0 : Int32))) :: (r1, .inr (.boolean, [(.int (0 : Int32)), (.int (0 : Int32)), (.int p5)])) :: (r2, .inr (.int, [(.int (0 : Int32)), (.int (0 : Int32)), (.int (0 : Int32))])) :: (r3, .inr (.boolean, [(.int (0 : Int32)), (.int (0 : Int32)), (.int (0 : Int32))])) :: (r4, .inr (.boolean, [(.int (0 : Int32)), (.int (0 : Int32)), (.int (1 : Int32))])) :: RR) (fun v L' => v = some (.int (0 : Int32)) ∧ L' = ((r0, ob0 (.ref r1) (.ref r2) (.ref r3) (.ref r4) (.int (0 : Int32))) :: (r1, .inr (.boolean, [(.int (0 : Int32)), (.int (0 : Int32)), (.int p5)])) :: (r2, .inr (.int, [(.int (0 : Int32)), (.int (0 : Int32)), (.int (0 : Int32))])) :: (r3, .inr (.boolean, [(.int (0 : Int32)), (.int (0 : Int32)), (.int (0 : Int32))])) :: (r4, .inr (.boolean, [(.int (0 : Int32)), (.int (0 : Int32)), (.int (1 : Int32))])) :: RR)) := by
  refine Triple.of_body (tbl := tables_1) (a0 := a0) (Ls := #[.val (.ref r0), .unset, .unset]) pn_7 hw rfl ?_
  intro p e s m below meth c T A
  refine A.aloadN (q := 1) d7_0 rfl rfl rfl ?_
  refine A.getF (q := 4) (w := 53) (i := 0) (j := 4) d7_1 rfl rfl rfl rfl ?_
  intro T A
  refine A.iconst (q := 5) (v := (1 : Int32)) d7_4 rfl (by decide) ?_
  refine A.isub (q := 6) (v := (-1 : Int32)) d7_5 rfl (by decide) ?_
  refine A.istoreN (q := 7) (l' := #[.val (.ref r0), .val (.int (-1 : Int32)), .unset]) d7_6 rfl rfl ?_
  refine A.iloadN (q := 8) d7_7 rfl rfl ?_
  refine A.ifT (r := 31) d7_8 (by decide) (by decide) ?_
  refine A.iloadN (q := 32) d7_31 rfl rfl ?_
  refine A.ifF (q := 35) d7_32 rfl (by decide) ?_
  refine A.iconst (q := 36) (v := (0 : Int32)) d7_35 rfl (by decide) ?_
  exact A.retZ (v := (0 : Int32)) d7_36 (by decide) (by decide) (by decide) ⟨rfl, rfl⟩
set_option maxRecDepth 65536 in
set_option maxHeartbeats 8000000 in
theorem rm8_9 (l : Launch) (Z : State) (a0 : Array Value) (hw : ∀ d ∈ tables_1, d.before a0 Z = true) (n0 : Nat) (r0 : Addr) (r1 : Addr) (r2 : Addr) (r3 : Addr) (r4 : Addr) (p5 : Int32) (RR : Obs) (z_p5 : nar .boolean p5 = p5) :
    Triple l Z n0 (⟨"com/example/proof_of_scan/proofofscan/Choices", "reset", "()V"⟩ : MethodName) prog_2_method_8_code 2 none ({ frames := 1, cells := 0, slots := 0, locals := 13 } : Room) 0 0 [(.ref r0)] ((r0, ob0 (.ref r1) (.ref r2) (.ref r3) (.ref r4) (.int (0 : Int32))) :: (r1, .inr (.boolean, [(.int (0 : Int32)), (.int (0 : Int32)), (.int p5)])) :: (r2, .inr (.int, [(.int (0 : Int32)), (.int (0 : Int32)), (.int (0 : Int32))])) :: (r3, .inr (.boolean, [(.int (0 : Int32)), (.int (0 : Int32)), (.int (0 : Int32))])) :: (r4, .inr (.boolean, [(.int (0 : Int32)), (.int (0 : Int32)), (.int (1 : Int32))])) :: RR) (fun v L' => v = none ∧ L' = ((r0, ob0 (.ref r1) (.ref r2) (.ref r3) (.ref r4) (.int (0 : Int32))) :: (r1, .inr (.boolean, [(.int (0 : Int32)), (.int (0 : Int32)), (.int p5)])) :: (r2, .inr (.int, [(.int (0 : Int32)), (.int (0 : Int32)), (.int (0 : Int32))])) :: (r3, .inr (.boolean, [(.int (0 : Int32)), (.int (0 : Int32)), (.int (0 : Int32))])) :: (r4, .inr (.boolean, [(.int (0 : Int32)), (.int (0 : Int32)), (.int (1 : Int32))])) :: RR)) := by
  refine Triple.of_body (tbl := tables_1) (a0 := a0) (Ls := #[.val (.ref r0), .unset]) pn_8 hw rfl ?_
  intro p e s m below meth c T A
  refine A.iconst (q := 1) (v := (0 : Int32)) d8_0 rfl (by decide) ?_
  refine A.istoreN (q := 2) (l' := #[.val (.ref r0), .val (.int (0 : Int32))]) d8_1 rfl rfl ?_
  refine A.iloadN (q := 3) d8_2 rfl rfl ?_
  refine A.aloadN (q := 4) d8_3 rfl rfl rfl ?_
  refine A.getF (q := 7) (w := 11) (i := 0) (j := 0) d8_4 rfl rfl rfl rfl ?_
  intro T A
  refine A.arraylength (q := 8) (i := 1) (v := (3 : Int32)) d8_7 rfl rfl (by show Nat.toInt32 3 = 3; decide) ?_
  refine A.icmpF (q := 11) d8_8 rfl (by decide) ?_
  refine A.aloadN (q := 12) d8_11 rfl rfl rfl ?_
  refine A.getF (q := 15) (w := 11) (i := 0) (j := 0) d8_12 rfl rfl rfl rfl ?_
  intro T A
  refine A.iloadN (q := 16) d8_15 rfl rfl ?_
  refine A.dup2 (q := 17) d8_16 rfl rfl rfl ?_
  refine A.baloadZ (q := 18) (i := 1) (v := (.int (0 : Int32))) d8_17 rfl rfl (by decide) rfl ?_
  refine A.aloadN (q := 19) d8_18 rfl rfl rfl ?_
  refine A.getF (q := 22) (w := 18) (i := 0) (j := 3) d8_19 rfl rfl rfl rfl ?_
  intro T A
  refine A.iloadN (q := 23) d8_22 rfl rfl ?_
  refine A.baloadZ (q := 24) (i := 4) (v := (.int (0 : Int32))) d8_23 rfl rfl (by decide) rfl ?_
  refine A.iand (q := 25) (v := (0 : Int32)) d8_24 rfl (by decide) ?_
  refine A.bastoreZ (q := 26) (i := 1) (x' := (0 : Int32)) (L' := ((r0, ob0 (.ref r1) (.ref r2) (.ref r3) (.ref r4) (.int (0 : Int32))) :: (r1, .inr (.boolean, [(.int (0 : Int32)), (.int (0 : Int32)), (.int p5)])) :: (r2, .inr (.int, [(.int (0 : Int32)), (.int (0 : Int32)), (.int (0 : Int32))])) :: (r3, .inr (.boolean, [(.int (0 : Int32)), (.int (0 : Int32)), (.int (0 : Int32))])) :: (r4, .inr (.boolean, [(.int (0 : Int32)), (.int (0 : Int32)), (.int (1 : Int32))])) :: RR)) d8_25 rfl rfl (by decide) (by show Int32.toNatClampNeg (0 : Int32) < 3; decide) (by decide) rfl ?_
  intro T A
  refine A.iinc (q := 29) (v := (1 : Int32)) (l' := #[.val (.ref r0), .val (.int (1 : Int32))]) d8_26 rfl rfl (by decide) rfl ?_
  refine A.goto (r := 2) d8_29 (by decide) ?_
  refine A.iloadN (q := 3) d8_2 rfl rfl ?_
  refine A.aloadN (q := 4) d8_3 rfl rfl rfl ?_
  refine A.getF (q := 7) (w := 11) (i := 0) (j := 0) d8_4 rfl rfl rfl rfl ?_
  intro T A
  refine A.arraylength (q := 8) (i := 1) (v := (3 : Int32)) d8_7 rfl rfl (by show Nat.toInt32 3 = 3; decide) ?_
  refine A.icmpF (q := 11) d8_8 rfl (by decide) ?_
  refine A.aloadN (q := 12) d8_11 rfl rfl rfl ?_
  refine A.getF (q := 15) (w := 11) (i := 0) (j := 0) d8_12 rfl rfl rfl rfl ?_
  intro T A
  refine A.iloadN (q := 16) d8_15 rfl rfl ?_
  refine A.dup2 (q := 17) d8_16 rfl rfl rfl ?_
  refine A.baloadZ (q := 18) (i := 1) (v := (.int (0 : Int32))) d8_17 rfl rfl (by decide) rfl ?_
  refine A.aloadN (q := 19) d8_18 rfl rfl rfl ?_
  refine A.getF (q := 22) (w := 18) (i := 0) (j := 3) d8_19 rfl rfl rfl rfl ?_
  intro T A
  refine A.iloadN (q := 23) d8_22 rfl rfl ?_
  refine A.baloadZ (q := 24) (i := 4) (v := (.int (0 : Int32))) d8_23 rfl rfl (by decide) rfl ?_
  refine A.iand (q := 25) (v := (0 : Int32)) d8_24 rfl (by decide) ?_
  refine A.bastoreZ (q := 26) (i := 1) (x' := (0 : Int32)) (L' := ((r0, ob0 (.ref r1) (.ref r2) (.ref r3) (.ref r4) (.int (0 : Int32))) :: (r1, .inr (.boolean, [(.int (0 : Int32)), (.int (0 : Int32)), (.int p5)])) :: (r2, .inr (.int, [(.int (0 : Int32)), (.int (0 : Int32)), (.int (0 : Int32))])) :: (r3, .inr (.boolean, [(.int (0 : Int32)), (.int (0 : Int32)), (.int (0 : Int32))])) :: (r4, .inr (.boolean, [(.int (0 : Int32)), (.int (0 : Int32)), (.int (1 : Int32))])) :: RR)) d8_25 rfl rfl (by decide) (by show Int32.toNatClampNeg (1 : Int32) < 3; decide) (by decide) rfl ?_
  intro T A
  refine A.iinc (q := 29) (v := (2 : Int32)) (l' := #[.val (.ref r0), .val (.int (2 : Int32))]) d8_26 rfl rfl (by decide) rfl ?_
  refine A.goto (r := 2) d8_29 (by decide) ?_
  refine A.iloadN (q := 3) d8_2 rfl rfl ?_
  refine A.aloadN (q := 4) d8_3 rfl rfl rfl ?_
  refine A.getF (q := 7) (w := 11) (i := 0) (j := 0) d8_4 rfl rfl rfl rfl ?_
  intro T A
  refine A.arraylength (q := 8) (i := 1) (v := (3 : Int32)) d8_7 rfl rfl (by show Nat.toInt32 3 = 3; decide) ?_
  refine A.icmpF (q := 11) d8_8 rfl (by decide) ?_
  refine A.aloadN (q := 12) d8_11 rfl rfl rfl ?_
  refine A.getF (q := 15) (w := 11) (i := 0) (j := 0) d8_12 rfl rfl rfl rfl ?_
  intro T A
  refine A.iloadN (q := 16) d8_15 rfl rfl ?_
  refine A.dup2 (q := 17) d8_16 rfl rfl rfl ?_
  refine A.baloadZ (q := 18) (i := 1) (v := (.int p5)) d8_17 rfl rfl (by decide) rfl ?_
  refine A.aloadN (q := 19) d8_18 rfl rfl rfl ?_
  refine A.getF (q := 22) (w := 18) (i := 0) (j := 3) d8_19 rfl rfl rfl rfl ?_
  intro T A
  refine A.iloadN (q := 23) d8_22 rfl rfl ?_
  refine A.baloadZ (q := 24) (i := 4) (v := (.int (1 : Int32))) d8_23 rfl rfl (by decide) rfl ?_
  refine A.iand (q := 25) (v := p5) d8_24 rfl z_p5 ?_
  refine A.bastoreZ (q := 26) (i := 1) (x' := p5) (L' := ((r0, ob0 (.ref r1) (.ref r2) (.ref r3) (.ref r4) (.int (0 : Int32))) :: (r1, .inr (.boolean, [(.int (0 : Int32)), (.int (0 : Int32)), (.int p5)])) :: (r2, .inr (.int, [(.int (0 : Int32)), (.int (0 : Int32)), (.int (0 : Int32))])) :: (r3, .inr (.boolean, [(.int (0 : Int32)), (.int (0 : Int32)), (.int (0 : Int32))])) :: (r4, .inr (.boolean, [(.int (0 : Int32)), (.int (0 : Int32)), (.int (1 : Int32))])) :: RR)) d8_25 rfl rfl (by decide) (by show Int32.toNatClampNeg (2 : Int32) < 3; decide) z_p5 rfl ?_
  intro T A
  refine A.iinc (q := 29) (v := (3 : Int32)) (l' := #[.val (.ref r0), .val (.int (3 : Int32))]) d8_26 rfl rfl (by decide) rfl ?_
  refine A.goto (r := 2) d8_29 (by decide) ?_
  refine A.iloadN (q := 3) d8_2 rfl rfl ?_
  refine A.aloadN (q := 4) d8_3 rfl rfl rfl ?_
  refine A.getF (q := 7) (w := 11) (i := 0) (j := 0) d8_4 rfl rfl rfl rfl ?_
  intro T A
  refine A.arraylength (q := 8) (i := 1) (v := (3 : Int32)) d8_7 rfl rfl (by show Nat.toInt32 3 = 3; decide) ?_
  refine A.icmpT (r := 32) d8_8 (by decide) (by decide) ?_
  refine A.aloadN (q := 33) d8_32 rfl rfl rfl ?_
  refine A.callP (q := 36) (i := 0) (w1 := 60) (w2 := 62) (w3 := 3) (w4 := 63) (w5 := 2) (w6 := 61) (a := r0) (as := []) (st := []) (W := 0) d8_33 rfl rfl rfl rfl rfl rfl rfl rfl (rm9_11 l Z a0 hw n0 r0 r1 r2 r3 r4 p5 _ z_p5) (by decide) ⟨_, _, pd_6, rfl⟩ rfl rfl rfl (by decide) (by decide) (by decide) (by decide) ?_
  rintro _ T _ ⟨rfl, rfl⟩ A
  show Go p e below _ (T.setTop (mkF m 36 #[.val (.ref r0), .val (.int (3 : Int32))] []))
  exact A.retV d8_36 (by decide) (by decide) ⟨rfl, rfl⟩
theorem pn_0 : plainFor (⟨"com/example/proof_of_scan/proofofscan/ChoicesHoldPinLaw", "law", "(III)Z"⟩ : MethodName) = true := plainFor_of_name (by first | (simp [plainName, overriddenIn]; done) | decide +kernel)
set_option maxRecDepth 65536 in
set_option maxHeartbeats 8000000 in
theorem rm0 (l : Launch) (Z : State) (a0 : Array Value) (hw : ∀ d ∈ tables_1, d.before a0 Z = true) (n0 : Nat) (a b fl : Int32) :
    Triple l Z n0 x code 12 (some .boolean) room_1 24 128 [(.int a), (.int b), (.int fl)] [] (fun v _ => v = some (.int 1)) := by
  refine Triple.of_body (tbl := tables_1) (a0 := a0) (Ls := #[.val (.int a), .val (.int b), .val (.int fl), .unset, .unset, .unset, .unset, .unset, .unset, .unset, .unset, .unset]) pn_0 hw rfl ?_
  intro p e s m below meth c T A
  refine A.iloadN (q := 1) at_0 rfl rfl ?_
  refine A.ldc (q := 3) (v := (2147483647 : Int32)) (w := 0) at_1 rfl rfl ?_
  obtain ⟨v1, e1⟩ : ∃ v : Int32, a &&& (2147483647 : Int32) = v := ⟨_, rfl⟩
  refine A.iand (q := 4) at_3 rfl e1 ?_
  refine A.iconst (q := 5) (v := (3 : Int32)) at_4 rfl (by decide) ?_
  obtain ⟨v2, e2⟩ : ∃ v : Int32, v1 % (3 : Int32) = v := ⟨_, rfl⟩
  refine A.irem (q := 6) at_5 rfl (by decide) e2 ?_
  refine A.istoreN (q := 7) (l' := #[.val (.int a), .val (.int b), .val (.int fl), .val (.int v2), .unset, .unset, .unset, .unset, .unset, .unset, .unset, .unset]) at_6 rfl rfl ?_
  have hn : v2 = 0 ∨ v2 = 1 ∨ v2 = 2 := by subst e1 e2; exact own_mod3 _
  rcases hn with rfl | rfl | rfl
  · refine A.iloadN (q := 8) at_7 rfl rfl ?_
    refine A.ldc (q := 10) (v := (2147483647 : Int32)) (w := 0) at_8 rfl rfl ?_
    obtain ⟨v3, e3⟩ : ∃ v : Int32, b &&& (2147483647 : Int32) = v := ⟨_, rfl⟩
    refine A.iand (q := 11) at_10 rfl e3 ?_
    refine A.iconst (q := 12) (v := (3 : Int32)) at_11 rfl (by decide) ?_
    obtain ⟨v4, e4⟩ : ∃ v : Int32, v3 % (3 : Int32) = v := ⟨_, rfl⟩
    refine A.irem (q := 13) at_12 rfl (by decide) e4 ?_
    refine A.istore (q := 15) (l' := #[.val (.int a), .val (.int b), .val (.int fl), .val (.int (0 : Int32)), .val (.int v4), .unset, .unset, .unset, .unset, .unset, .unset, .unset]) at_13 rfl rfl ?_
    have hn : v4 = 0 ∨ v4 = 1 ∨ v4 = 2 := by subst e1 e3 e4; exact own_mod3 _
    rcases hn with rfl | rfl | rfl
    · have J15_7 : ∀ (T : State) (j7 : Int32), j7 = (if (fl &&& (1 : Int32)) = (0 : Int32) then (0 : Int32) else (1 : Int32)) → Here p l e room_1 s m ([(.int a), (.int b), (.int fl)] : List Value).toArray below meth c Z a0 tables_1 x.cls x.name code 12 (some .boolean) n0 T [] 0 0 → Go p e below (EndS below s n0 Z 24 128 (fun v _ => v = some (.int 1))) (T.setTop (mkF m 26 #[.val (.int a), .val (.int b), .val (.int fl), .val (.int (0 : Int32)), .val (.int (0 : Int32)), .unset, .unset, .unset, .unset, .unset, .unset, .unset] [(.int j7)])) := by
       intro T j7 ej7 A
       have z_j7 : nar .boolean j7 = j7 := by rw [ej7]; (repeat' split) <;> first | decide | assumption
       refine A.istore (q := 28) (l' := #[.val (.int a), .val (.int b), .val (.int fl), .val (.int (0 : Int32)), .val (.int (0 : Int32)), .val (.int j7), .unset, .unset, .unset, .unset, .unset, .unset]) at_26 rfl rfl ?_
       have J28_11 : ∀ (T : State) (j11 : Int32), j11 = (if (fl &&& (2 : Int32)) = (0 : Int32) then (0 : Int32) else (1 : Int32)) → Here p l e room_1 s m ([(.int a), (.int b), (.int fl)] : List Value).toArray below meth c Z a0 tables_1 x.cls x.name code 12 (some .boolean) n0 T [] 0 0 → Go p e below (EndS below s n0 Z 24 128 (fun v _ => v = some (.int 1))) (T.setTop (mkF m 39 #[.val (.int a), .val (.int b), .val (.int fl), .val (.int (0 : Int32)), .val (.int (0 : Int32)), .val (.int j7), .unset, .unset, .unset, .unset, .unset, .unset] [(.int j11)])) := by
        intro T j11 ej11 A
        have z_j11 : nar .boolean j11 = j11 := by rw [ej11]; (repeat' split) <;> first | decide | assumption
        refine A.istore (q := 41) (l' := #[.val (.int a), .val (.int b), .val (.int fl), .val (.int (0 : Int32)), .val (.int (0 : Int32)), .val (.int j7), .val (.int j11), .unset, .unset, .unset, .unset, .unset]) at_39 rfl rfl ?_
        refine A.newO (q := 44) (w1 := 1) (w2 := 2) (w3 := 3) (n := 6) (fs := [(("com/example/proof_of_scan/proofofscan/Choices", "values", "[Z"), .null), (("com/example/proof_of_scan/proofofscan/Choices", "taken", "[I"), .null), (("com/example/proof_of_scan/proofofscan/Choices", "isTaken", "[Z"), .null), (("com/example/proof_of_scan/proofofscan/Choices", "isHeld", "[Z"), .null), (("com/example/proof_of_scan/proofofscan/Choices", "takenCount", "I"), (.int (0 : Int32)))]) at_41 rfl rfl rfl rfl (lay_0 Z a0 hw) (by decide) (by decide) (by decide) ?_
        intro T b13 A
        refine A.dup (q := 45) at_44 rfl rfl ?_
        refine A.iconst (q := 46) (v := (3 : Int32)) at_45 rfl (by decide) ?_
        refine A.callI (q := 49) (w1 := 4) (w2 := 5) (w3 := 3) (w4 := 6) (a := b13) (as := [(.int (3 : Int32))]) (st := [(.ref b13)]) (W := 1) at_46 rfl rfl rfl rfl rfl rfl (rm1_1 l Z a0 hw n0 b13 _) (by decide) ⟨_, _, pd_0, rfl⟩ rfl rfl rfl (by decide) (by decide) (by decide) (by decide) ?_
        rintro _ T _ ⟨b14, b15, b16, b17, rfl, rfl⟩ A
        show Go p e below _ (T.setTop (mkF m 49 #[.val (.int a), .val (.int b), .val (.int fl), .val (.int (0 : Int32)), .val (.int (0 : Int32)), .val (.int j7), .val (.int j11), .unset, .unset, .unset, .unset, .unset] [(.ref b13)]))
        refine A.astore (q := 51) (l' := #[.val (.int a), .val (.int b), .val (.int fl), .val (.int (0 : Int32)), .val (.int (0 : Int32)), .val (.int j7), .val (.int j11), .val (.ref b13), .unset, .unset, .unset, .unset]) at_49 rfl rfl rfl ?_
        have J51_23 : ∀ (T : State) (j22 : Int32) (j23 : Int32), j22 = (if j11 = (0 : Int32) then (0 : Int32) else (1 : Int32)) → j23 = (if j11 = (0 : Int32) then (0 : Int32) else ((if j7 = (0 : Int32) then (1 : Int32) else (0 : Int32)))) → Here p l e room_1 s m ([(.int a), (.int b), (.int fl)] : List Value).toArray below meth c Z a0 tables_1 x.cls x.name code 12 (some .boolean) n0 T [(b14, .inr (.boolean, [(.int j22), (.int (0 : Int32)), (.int (0 : Int32))])), (b15, .inr (.boolean, [(.int (0 : Int32)), (.int (0 : Int32)), (.int (0 : Int32))])), (b16, .inr (.int, [(.int (0 : Int32)), (.int (0 : Int32)), (.int (0 : Int32))])), (b17, .inr (.boolean, [(.int j23), (.int (0 : Int32)), (.int (0 : Int32))])), (b13, ob0 (.ref b17) (.ref b16) (.ref b15) (.ref b14) (.int (0 : Int32)))] 5 18 → Go p e below (EndS below s n0 Z 24 128 (fun v _ => v = some (.int 1))) (T.setTop (mkF m 72 #[.val (.int a), .val (.int b), .val (.int fl), .val (.int (0 : Int32)), .val (.int (0 : Int32)), .val (.int j7), .val (.int j11), .val (.ref b13), .unset, .unset, .unset, .unset] [])) := by
         intro T j22 j23 ej22 ej23 A
         have z_j22 : nar .boolean j22 = j22 := by rw [ej22]; (repeat' split) <;> first | decide | assumption
         have z_j23 : nar .boolean j23 = j23 := by rw [ej23]; (repeat' split) <;> first | decide | assumption
         refine A.aload (q := 74) at_72 rfl rfl rfl ?_
         refine A.iloadN (q := 75) at_74 rfl rfl ?_
         refine A.iload (q := 77) at_75 rfl rfl ?_
         have A := A.front (i := 1) rfl rfl
         have A := A.front (i := 2) rfl rfl
         have A := A.front (i := 3) rfl rfl
         have A := A.front (i := 4) (L' := [(b13, ob0 (.ref b17) (.ref b16) (.ref b15) (.ref b14) (.int (0 : Int32))), (b17, .inr (.boolean, [(.int j23), (.int (0 : Int32)), (.int (0 : Int32))])), (b16, .inr (.int, [(.int (0 : Int32)), (.int (0 : Int32)), (.int (0 : Int32))])), (b15, .inr (.boolean, [(.int (0 : Int32)), (.int (0 : Int32)), (.int (0 : Int32))])), (b14, .inr (.boolean, [(.int j22), (.int (0 : Int32)), (.int (0 : Int32))]))]) rfl rfl
         refine A.callV (q := 80) (i := 0) (w1 := 20) (w2 := 21) (w3 := 3) (w4 := 24) (w5 := 23) (w6 := 22) (a := b13) (as := [(.int (0 : Int32)), (.int j7)]) (st := []) (W := 0) at_77 rfl rfl rfl rfl rfl rfl rfl rfl (rm3_2 l Z a0 hw n0 b13 j7 b17 b16 b15 b14 j23 j22 _ z_j7 z_j23 z_j22) (by decide) ⟨_, _, pd_1, rfl⟩ rfl rfl rfl (by decide) (by decide) (by decide) (by decide) ?_
         rintro _ T _ ⟨rfl, rfl⟩ A
         show Go p e below _ (T.setTop (mkF m 80 #[.val (.int a), .val (.int b), .val (.int fl), .val (.int (0 : Int32)), .val (.int (0 : Int32)), .val (.int j7), .val (.int j11), .val (.ref b13), .unset, .unset, .unset, .unset] []))
         refine A.aload (q := 82) at_80 rfl rfl rfl ?_
         refine A.callV (q := 85) (i := 0) (w1 := 25) (w2 := 26) (w3 := 3) (w4 := 29) (w5 := 28) (w6 := 27) (a := b13) (as := []) (st := []) (W := 0) at_82 rfl rfl rfl rfl rfl rfl rfl rfl (rm4_1 l Z a0 hw n0 b13 b17 b16 b15 b14 j7 _ z_j7) (by decide) ⟨_, _, pd_2, rfl⟩ rfl rfl rfl (by decide) (by decide) (by decide) (by decide) ?_
         rintro _ T _ ⟨b25, rfl, rfl⟩ A
         show Go p e below _ (T.setTop (mkF m 85 #[.val (.int a), .val (.int b), .val (.int fl), .val (.int (0 : Int32)), .val (.int (0 : Int32)), .val (.int j7), .val (.int j11), .val (.ref b13), .unset, .unset, .unset, .unset] [(.ref b25)]))
         refine A.iloadN (q := 86) at_85 rfl rfl ?_
         refine A.iload (q := 88) at_86 rfl rfl ?_
         refine A.iconst (q := 89) (v := (-1 : Int32)) at_88 rfl (by decide) ?_
         refine A.callS (q := 92) (w1 := 39) (w2 := 40) (w3 := 41) (w4 := 42) (as := [(.ref b25), (.int (0 : Int32)), (.int j7), (.int (-1 : Int32))]) (st := []) (W := 0) at_89 rfl rfl rfl rfl rfl (rm5_1 l Z a0 hw n0 b25 j7 _ z_j7) (by decide) ⟨_, _, pd_3, rfl⟩ rfl rfl rfl (by decide) (by decide) (by decide) (by decide) ?_
         rintro _ T _ ⟨rfl, rfl⟩ A
         show Go p e below _ (T.setTop (mkF m 92 #[.val (.int a), .val (.int b), .val (.int fl), .val (.int (0 : Int32)), .val (.int (0 : Int32)), .val (.int j7), .val (.int j11), .val (.ref b13), .unset, .unset, .unset, .unset] [(.int (1 : Int32))]))
         refine A.istore (q := 94) (l' := #[.val (.int a), .val (.int b), .val (.int fl), .val (.int (0 : Int32)), .val (.int (0 : Int32)), .val (.int j7), .val (.int j11), .val (.ref b13), .val (.int (1 : Int32)), .unset, .unset, .unset]) at_92 rfl rfl ?_
         refine A.aload (q := 96) at_94 rfl rfl rfl ?_
         refine A.iload (q := 98) at_96 rfl rfl ?_
         have A := A.front (i := 5) rfl rfl
         have A := A.front (i := 5) rfl rfl
         have A := A.front (i := 5) rfl rfl
         have A := A.front (i := 5) rfl rfl
         have A := A.front (i := 5) (L' := [(b13, ob0 (.ref b17) (.ref b16) (.ref b15) (.ref b14) (.int (0 : Int32))), (b17, .inr (.boolean, [(.int j7), (.int (0 : Int32)), (.int (0 : Int32))])), (b16, .inr (.int, [(.int (0 : Int32)), (.int (0 : Int32)), (.int (0 : Int32))])), (b15, .inr (.boolean, [(.int (0 : Int32)), (.int (0 : Int32)), (.int (0 : Int32))])), (b14, .inr (.boolean, [(.int (1 : Int32)), (.int (0 : Int32)), (.int (0 : Int32))])), (b25, .inr (.boolean, [(.int j7), (.int (0 : Int32)), (.int (0 : Int32))]))]) rfl rfl
         refine A.callV (q := 101) (i := 0) (w1 := 43) (w2 := 44) (w3 := 3) (w4 := 47) (w5 := 46) (w6 := 45) (a := b13) (as := [(.int (0 : Int32))]) (st := []) (W := 0) at_98 rfl rfl rfl rfl rfl rfl rfl rfl (rm6_1 l Z a0 hw n0 b13 b17 b16 b15 b14 j7 _ z_j7) (by decide) ⟨_, _, pd_4, rfl⟩ rfl rfl rfl (by decide) (by decide) (by decide) (by decide) ?_
         rintro _ T _ ⟨rfl, rfl⟩ A
         show Go p e below _ (T.setTop (mkF m 101 #[.val (.int a), .val (.int b), .val (.int fl), .val (.int (0 : Int32)), .val (.int (0 : Int32)), .val (.int j7), .val (.int j11), .val (.ref b13), .val (.int (1 : Int32)), .unset, .unset, .unset] [(.int j7)]))
         refine A.istore (q := 103) (l' := #[.val (.int a), .val (.int b), .val (.int fl), .val (.int (0 : Int32)), .val (.int (0 : Int32)), .val (.int j7), .val (.int j11), .val (.ref b13), .val (.int (1 : Int32)), .val (.int j7), .unset, .unset]) at_101 rfl rfl ?_
         refine A.aload (q := 105) at_103 rfl rfl rfl ?_
         refine A.iloadN (q := 106) at_105 rfl rfl ?_
         refine A.callV (q := 109) (i := 0) (w1 := 43) (w2 := 44) (w3 := 3) (w4 := 47) (w5 := 46) (w6 := 45) (a := b13) (as := [(.int (0 : Int32))]) (st := []) (W := 0) at_106 rfl rfl rfl rfl rfl rfl rfl rfl (rm6_1 l Z a0 hw n0 b13 b17 b16 b15 b14 j7 _ z_j7) (by decide) ⟨_, _, pd_4, rfl⟩ rfl rfl rfl (by decide) (by decide) (by decide) (by decide) ?_
         rintro _ T _ ⟨rfl, rfl⟩ A
         show Go p e below _ (T.setTop (mkF m 109 #[.val (.int a), .val (.int b), .val (.int fl), .val (.int (0 : Int32)), .val (.int (0 : Int32)), .val (.int j7), .val (.int j11), .val (.ref b13), .val (.int (1 : Int32)), .val (.int j7), .unset, .unset] [(.int j7)]))
         refine A.istore (q := 111) (l' := #[.val (.int a), .val (.int b), .val (.int fl), .val (.int (0 : Int32)), .val (.int (0 : Int32)), .val (.int j7), .val (.int j11), .val (.ref b13), .val (.int (1 : Int32)), .val (.int j7), .val (.int j7), .unset]) at_109 rfl rfl ?_
         refine A.iload (q := 113) at_111 rfl rfl ?_
         refine A.ifF (q := 116) at_113 rfl (by decide) ?_
         refine A.iload (q := 118) at_116 rfl rfl ?_
         refine A.iload (q := 120) at_118 rfl rfl ?_
         refine A.icmpF (q := 123) at_120 rfl (teq rfl).2 ?_
         refine A.iload (q := 125) at_123 rfl rfl ?_
         refine A.iload (q := 127) at_125 rfl rfl ?_
         refine A.iloadN (q := 128) at_127 rfl rfl ?_
         refine A.icmpF (q := 131) at_128 rfl (by decide) ?_
         refine A.iload (q := 133) at_131 rfl rfl ?_
         refine A.goto (r := 137) at_133 (by decide) ?_
         refine A.icmpF (q := 140) at_137 rfl (teq rfl).2 ?_
         refine A.iconst (q := 141) (v := (1 : Int32)) at_140 rfl (by decide) ?_
         refine A.goto (r := 145) at_141 (by decide) ?_
         refine A.istore (q := 147) (l' := #[.val (.int a), .val (.int b), .val (.int fl), .val (.int (0 : Int32)), .val (.int (0 : Int32)), .val (.int j7), .val (.int j11), .val (.ref b13), .val (.int (1 : Int32)), .val (.int j7), .val (.int j7), .unset]) at_145 rfl rfl ?_
         refine A.aload (q := 149) at_147 rfl rfl rfl ?_
         refine A.callV (q := 152) (i := 0) (w1 := 48) (w2 := 49) (w3 := 3) (w4 := 52) (w5 := 51) (w6 := 50) (a := b13) (as := []) (st := []) (W := 0) at_149 rfl rfl rfl rfl rfl rfl rfl rfl (rm7_1 l Z a0 hw n0 b13 b17 b16 b15 b14 j7 _ z_j7) (by decide) ⟨_, _, pd_5, rfl⟩ rfl rfl rfl (by decide) (by decide) (by decide) (by decide) ?_
         rintro _ T _ ⟨rfl, rfl⟩ A
         show Go p e below _ (T.setTop (mkF m 152 #[.val (.int a), .val (.int b), .val (.int fl), .val (.int (0 : Int32)), .val (.int (0 : Int32)), .val (.int j7), .val (.int j11), .val (.ref b13), .val (.int (1 : Int32)), .val (.int j7), .val (.int j7), .unset] [(.int (0 : Int32))]))
         refine A.istore (q := 154) (l' := #[.val (.int a), .val (.int b), .val (.int fl), .val (.int (0 : Int32)), .val (.int (0 : Int32)), .val (.int j7), .val (.int j11), .val (.ref b13), .val (.int (1 : Int32)), .val (.int j7), .val (.int j7), .val (.int (0 : Int32))]) at_152 rfl rfl ?_
         refine A.iload (q := 156) at_154 rfl rfl ?_
         refine A.ifF (q := 159) at_156 rfl (by decide) ?_
         refine A.iload (q := 161) at_159 rfl rfl ?_
         refine A.iload (q := 163) at_161 rfl rfl ?_
         refine A.iloadN (q := 164) at_163 rfl rfl ?_
         refine A.icmpT (r := 171) at_164 (by decide) (by decide) ?_
         refine A.iconst (q := 172) (v := (0 : Int32)) at_171 rfl (by decide) ?_
         refine A.icmpF (q := 175) at_172 rfl (by decide) ?_
         refine A.aload (q := 177) at_175 rfl rfl rfl ?_
         refine A.callV (q := 180) (i := 0) (w1 := 25) (w2 := 26) (w3 := 3) (w4 := 29) (w5 := 28) (w6 := 27) (a := b13) (as := []) (st := []) (W := 0) at_177 rfl rfl rfl rfl rfl rfl rfl rfl (rm4_1 l Z a0 hw n0 b13 b17 b16 b15 b14 j7 _ z_j7) (by decide) ⟨_, _, pd_2, rfl⟩ rfl rfl rfl (by decide) (by decide) (by decide) (by decide) ?_
         rintro _ T _ ⟨b26, rfl, rfl⟩ A
         show Go p e below _ (T.setTop (mkF m 180 #[.val (.int a), .val (.int b), .val (.int fl), .val (.int (0 : Int32)), .val (.int (0 : Int32)), .val (.int j7), .val (.int j11), .val (.ref b13), .val (.int (1 : Int32)), .val (.int j7), .val (.int j7), .val (.int (0 : Int32))] [(.ref b26)]))
         refine A.iloadN (q := 181) at_180 rfl rfl ?_
         refine A.iload (q := 183) at_181 rfl rfl ?_
         refine A.iload (q := 185) at_183 rfl rfl ?_
         refine A.iloadN (q := 186) at_185 rfl rfl ?_
         refine A.icmpT (r := 194) at_186 (by decide) (by decide) ?_
         refine A.iconst (q := 195) (v := (-1 : Int32)) at_194 rfl (by decide) ?_
         refine A.callS (q := 198) (w1 := 39) (w2 := 40) (w3 := 41) (w4 := 42) (as := [(.ref b26), (.int (0 : Int32)), (.int j7), (.int (-1 : Int32))]) (st := []) (W := 0) at_195 rfl rfl rfl rfl rfl (rm5_1 l Z a0 hw n0 b26 j7 _ z_j7) (by decide) ⟨_, _, pd_3, rfl⟩ rfl rfl rfl (by decide) (by decide) (by decide) (by decide) ?_
         rintro _ T _ ⟨rfl, rfl⟩ A
         show Go p e below _ (T.setTop (mkF m 198 #[.val (.int a), .val (.int b), .val (.int fl), .val (.int (0 : Int32)), .val (.int (0 : Int32)), .val (.int j7), .val (.int j11), .val (.ref b13), .val (.int (1 : Int32)), .val (.int j7), .val (.int j7), .val (.int (0 : Int32))] [(.int (1 : Int32))]))
         refine A.ifF (q := 201) at_198 rfl (by decide) ?_
         refine A.iconst (q := 202) (v := (1 : Int32)) at_201 rfl (by decide) ?_
         refine A.goto (r := 206) at_202 (by decide) ?_
         refine A.istore (q := 208) (l' := #[.val (.int a), .val (.int b), .val (.int fl), .val (.int (0 : Int32)), .val (.int (0 : Int32)), .val (.int j7), .val (.int j11), .val (.ref b13), .val (.int (1 : Int32)), .val (.int j7), .val (.int j7), .val (.int (0 : Int32))]) at_206 rfl rfl ?_
         refine A.aload (q := 210) at_208 rfl rfl rfl ?_
         have A := A.front (i := 5) rfl rfl
         have A := A.front (i := 5) rfl rfl
         have A := A.front (i := 5) rfl rfl
         have A := A.front (i := 5) rfl rfl
         have A := A.front (i := 5) (L' := [(b13, ob0 (.ref b17) (.ref b16) (.ref b15) (.ref b14) (.int (0 : Int32))), (b17, .inr (.boolean, [(.int j7), (.int (0 : Int32)), (.int (0 : Int32))])), (b16, .inr (.int, [(.int (0 : Int32)), (.int (0 : Int32)), (.int (0 : Int32))])), (b15, .inr (.boolean, [(.int (0 : Int32)), (.int (0 : Int32)), (.int (0 : Int32))])), (b14, .inr (.boolean, [(.int (1 : Int32)), (.int (0 : Int32)), (.int (0 : Int32))])), (b26, .inr (.boolean, [(.int j7), (.int (0 : Int32)), (.int (0 : Int32))])), (b25, .inr (.boolean, [(.int j7), (.int (0 : Int32)), (.int (0 : Int32))]))]) rfl rfl
         refine A.callV (q := 213) (i := 0) (w1 := 55) (w2 := 56) (w3 := 3) (w4 := 59) (w5 := 58) (w6 := 57) (a := b13) (as := []) (st := []) (W := 0) at_210 rfl rfl rfl rfl rfl rfl rfl rfl (rm8_1 l Z a0 hw n0 b13 b17 b16 b15 b14 j7 _ z_j7) (by decide) ⟨_, _, pd_6, rfl⟩ rfl rfl rfl (by decide) (by decide) (by decide) (by decide) ?_
         rintro _ T _ ⟨rfl, rfl⟩ A
         show Go p e below _ (T.setTop (mkF m 213 #[.val (.int a), .val (.int b), .val (.int fl), .val (.int (0 : Int32)), .val (.int (0 : Int32)), .val (.int j7), .val (.int j11), .val (.ref b13), .val (.int (1 : Int32)), .val (.int j7), .val (.int j7), .val (.int (0 : Int32))] []))
         refine A.iload (q := 215) at_213 rfl rfl ?_
         refine A.ifF (q := 218) at_215 rfl (by decide) ?_
         refine A.aload (q := 220) at_218 rfl rfl rfl ?_
         refine A.callV (q := 223) (i := 0) (w1 := 25) (w2 := 26) (w3 := 3) (w4 := 29) (w5 := 28) (w6 := 27) (a := b13) (as := []) (st := []) (W := 0) at_220 rfl rfl rfl rfl rfl rfl rfl rfl (rm4_1 l Z a0 hw n0 b13 b17 b16 b15 b14 j7 _ z_j7) (by decide) ⟨_, _, pd_2, rfl⟩ rfl rfl rfl (by decide) (by decide) (by decide) (by decide) ?_
         rintro _ T _ ⟨b27, rfl, rfl⟩ A
         show Go p e below _ (T.setTop (mkF m 223 #[.val (.int a), .val (.int b), .val (.int fl), .val (.int (0 : Int32)), .val (.int (0 : Int32)), .val (.int j7), .val (.int j11), .val (.ref b13), .val (.int (1 : Int32)), .val (.int j7), .val (.int j7), .val (.int (0 : Int32))] [(.ref b27)]))
         refine A.iloadN (q := 224) at_223 rfl rfl ?_
         refine A.iload (q := 226) at_224 rfl rfl ?_
         refine A.iconst (q := 227) (v := (-1 : Int32)) at_226 rfl (by decide) ?_
         refine A.callS (q := 230) (w1 := 39) (w2 := 40) (w3 := 41) (w4 := 42) (as := [(.ref b27), (.int (0 : Int32)), (.int j7), (.int (-1 : Int32))]) (st := []) (W := 0) at_227 rfl rfl rfl rfl rfl (rm5_1 l Z a0 hw n0 b27 j7 _ z_j7) (by decide) ⟨_, _, pd_3, rfl⟩ rfl rfl rfl (by decide) (by decide) (by decide) (by decide) ?_
         rintro _ T _ ⟨rfl, rfl⟩ A
         show Go p e below _ (T.setTop (mkF m 230 #[.val (.int a), .val (.int b), .val (.int fl), .val (.int (0 : Int32)), .val (.int (0 : Int32)), .val (.int j7), .val (.int j11), .val (.ref b13), .val (.int (1 : Int32)), .val (.int j7), .val (.int j7), .val (.int (0 : Int32))] [(.int (1 : Int32))]))
         refine A.ifF (q := 233) at_230 rfl (by decide) ?_
         refine A.iconst (q := 234) (v := (1 : Int32)) at_233 rfl (by decide) ?_
         refine A.goto (r := 238) at_234 (by decide) ?_
         refine A.istore (q := 240) (l' := #[.val (.int a), .val (.int b), .val (.int fl), .val (.int (0 : Int32)), .val (.int (0 : Int32)), .val (.int j7), .val (.int j11), .val (.ref b13), .val (.int (1 : Int32)), .val (.int j7), .val (.int j7), .val (.int (0 : Int32))]) at_238 rfl rfl ?_
         refine A.iload (q := 242) at_240 rfl rfl ?_
         exact A.retZ (v := 1) at_242 (by decide) (by decide) (by decide) rfl
        refine A.iload (q := 53) at_51 rfl rfl ?_
        refine A.if_eq (q := 56) (r := 72) at_53 rfl (by decide) (fun h18 => ?_) (fun h18 => ?_)
        · exact J51_23 T _ _ (by simp only [if_pos h18]) (by simp only [if_pos h18]) A
        · refine A.aload (q := 58) at_56 rfl rfl rfl ?_
          refine A.iloadN (q := 59) at_58 rfl rfl ?_
          have J59_20 : ∀ (T : State) (j20 : Int32), j20 = (if j7 = (0 : Int32) then (1 : Int32) else (0 : Int32)) → Here p l e room_1 s m ([(.int a), (.int b), (.int fl)] : List Value).toArray below meth c Z a0 tables_1 x.cls x.name code 12 (some .boolean) n0 T [(b14, .inr (.boolean, [(.int (0 : Int32)), (.int (0 : Int32)), (.int (0 : Int32))])), (b15, .inr (.boolean, [(.int (0 : Int32)), (.int (0 : Int32)), (.int (0 : Int32))])), (b16, .inr (.int, [(.int (0 : Int32)), (.int (0 : Int32)), (.int (0 : Int32))])), (b17, .inr (.boolean, [(.int (0 : Int32)), (.int (0 : Int32)), (.int (0 : Int32))])), (b13, ob0 (.ref b17) (.ref b16) (.ref b15) (.ref b14) (.int (0 : Int32)))] 5 18 → Go p e below (EndS below s n0 Z 24 128 (fun v _ => v = some (.int 1))) (T.setTop (mkF m 69 #[.val (.int a), .val (.int b), .val (.int fl), .val (.int (0 : Int32)), .val (.int (0 : Int32)), .val (.int j7), .val (.int j11), .val (.ref b13), .unset, .unset, .unset, .unset] [(.int j20), (.int (0 : Int32)), (.ref b13)])) := by
           intro T j20 ej20 A
           have z_j20 : nar .boolean j20 = j20 := by rw [ej20]; (repeat' split) <;> first | decide | assumption
           have A := A.front (i := 1) rfl rfl
           have A := A.front (i := 2) rfl rfl
           have A := A.front (i := 3) rfl rfl
           have A := A.front (i := 4) (L' := [(b13, ob0 (.ref b17) (.ref b16) (.ref b15) (.ref b14) (.int (0 : Int32))), (b17, .inr (.boolean, [(.int (0 : Int32)), (.int (0 : Int32)), (.int (0 : Int32))])), (b16, .inr (.int, [(.int (0 : Int32)), (.int (0 : Int32)), (.int (0 : Int32))])), (b15, .inr (.boolean, [(.int (0 : Int32)), (.int (0 : Int32)), (.int (0 : Int32))])), (b14, .inr (.boolean, [(.int (0 : Int32)), (.int (0 : Int32)), (.int (0 : Int32))]))]) rfl rfl
           refine A.callV (q := 72) (i := 0) (w1 := 20) (w2 := 21) (w3 := 3) (w4 := 24) (w5 := 23) (w6 := 22) (a := b13) (as := [(.int (0 : Int32)), (.int j20)]) (st := []) (W := 0) at_69 rfl rfl rfl rfl rfl rfl rfl rfl (rm3_1 l Z a0 hw n0 b13 j20 b17 b16 b15 b14 _ z_j20) (by decide) ⟨_, _, pd_1, rfl⟩ rfl rfl rfl (by decide) (by decide) (by decide) (by decide) ?_
           rintro _ T _ ⟨rfl, rfl⟩ A
           show Go p e below _ (T.setTop (mkF m 72 #[.val (.int a), .val (.int b), .val (.int fl), .val (.int (0 : Int32)), .val (.int (0 : Int32)), .val (.int j7), .val (.int j11), .val (.ref b13), .unset, .unset, .unset, .unset] []))
           have A := A.front (i := 1) rfl rfl
           have A := A.front (i := 2) rfl rfl
           have A := A.front (i := 3) rfl rfl
           have A := A.front (i := 4) (L' := [(b14, .inr (.boolean, [(.int (1 : Int32)), (.int (0 : Int32)), (.int (0 : Int32))])), (b15, .inr (.boolean, [(.int (0 : Int32)), (.int (0 : Int32)), (.int (0 : Int32))])), (b16, .inr (.int, [(.int (0 : Int32)), (.int (0 : Int32)), (.int (0 : Int32))])), (b17, .inr (.boolean, [(.int j20), (.int (0 : Int32)), (.int (0 : Int32))])), (b13, ob0 (.ref b17) (.ref b16) (.ref b15) (.ref b14) (.int (0 : Int32)))]) rfl rfl
           exact J51_23 T _ _ (by simp only [ej20, if_neg h18]) (by simp only [ej20, if_neg h18]) A
          refine A.iload (q := 61) at_59 rfl rfl ?_
          refine A.if_ne (q := 64) (r := 68) at_61 rfl (by decide) (fun h19 => ?_) (fun h19 => ?_)
          · refine A.iconst (q := 69) (v := (0 : Int32)) at_68 rfl (by decide) ?_
            exact J59_20 T _ (by simp only [if_neg h19]) A
          · refine A.iconst (q := 65) (v := (1 : Int32)) at_64 rfl (by decide) ?_
            refine A.goto (r := 69) at_65 (by decide) ?_
            exact J59_20 T _ (by simp only [if_pos h19]) A
       refine A.iloadN (q := 29) at_28 rfl rfl ?_
       refine A.iconst (q := 30) (v := (2 : Int32)) at_29 rfl (by decide) ?_
       obtain ⟨v9, e9⟩ : ∃ v : Int32, fl &&& (2 : Int32) = v := ⟨_, rfl⟩
       refine A.iand (q := 31) at_30 rfl e9 ?_
       refine A.if_eq (q := 34) (r := 38) at_31 rfl (by decide) (fun h10 => ?_) (fun h10 => ?_)
       · refine A.iconst (q := 39) (v := (0 : Int32)) at_38 rfl (by decide) ?_
         exact J28_11 T _ (by simp only [e9, if_pos h10]) A
       · refine A.iconst (q := 35) (v := (1 : Int32)) at_34 rfl (by decide) ?_
         refine A.goto (r := 39) at_35 (by decide) ?_
         exact J28_11 T _ (by simp only [e9, if_neg h10]) A
      refine A.iloadN (q := 16) at_15 rfl rfl ?_
      refine A.iconst (q := 17) (v := (1 : Int32)) at_16 rfl (by decide) ?_
      obtain ⟨v5, e5⟩ : ∃ v : Int32, fl &&& (1 : Int32) = v := ⟨_, rfl⟩
      refine A.iand (q := 18) at_17 rfl e5 ?_
      refine A.if_eq (q := 21) (r := 25) at_18 rfl (by decide) (fun h6 => ?_) (fun h6 => ?_)
      · refine A.iconst (q := 26) (v := (0 : Int32)) at_25 rfl (by decide) ?_
        exact J15_7 T _ (by simp only [e5, if_pos h6]) A
      · refine A.iconst (q := 22) (v := (1 : Int32)) at_21 rfl (by decide) ?_
        refine A.goto (r := 26) at_22 (by decide) ?_
        exact J15_7 T _ (by simp only [e5, if_neg h6]) A
    · have J15_30 : ∀ (T : State) (j30 : Int32), j30 = (if (fl &&& (1 : Int32)) = (0 : Int32) then (0 : Int32) else (1 : Int32)) → Here p l e room_1 s m ([(.int a), (.int b), (.int fl)] : List Value).toArray below meth c Z a0 tables_1 x.cls x.name code 12 (some .boolean) n0 T [] 0 0 → Go p e below (EndS below s n0 Z 24 128 (fun v _ => v = some (.int 1))) (T.setTop (mkF m 26 #[.val (.int a), .val (.int b), .val (.int fl), .val (.int (0 : Int32)), .val (.int (1 : Int32)), .unset, .unset, .unset, .unset, .unset, .unset, .unset] [(.int j30)])) := by
       intro T j30 ej30 A
       have z_j30 : nar .boolean j30 = j30 := by rw [ej30]; (repeat' split) <;> first | decide | assumption
       refine A.istore (q := 28) (l' := #[.val (.int a), .val (.int b), .val (.int fl), .val (.int (0 : Int32)), .val (.int (1 : Int32)), .val (.int j30), .unset, .unset, .unset, .unset, .unset, .unset]) at_26 rfl rfl ?_
       have J28_34 : ∀ (T : State) (j34 : Int32), j34 = (if (fl &&& (2 : Int32)) = (0 : Int32) then (0 : Int32) else (1 : Int32)) → Here p l e room_1 s m ([(.int a), (.int b), (.int fl)] : List Value).toArray below meth c Z a0 tables_1 x.cls x.name code 12 (some .boolean) n0 T [] 0 0 → Go p e below (EndS below s n0 Z 24 128 (fun v _ => v = some (.int 1))) (T.setTop (mkF m 39 #[.val (.int a), .val (.int b), .val (.int fl), .val (.int (0 : Int32)), .val (.int (1 : Int32)), .val (.int j30), .unset, .unset, .unset, .unset, .unset, .unset] [(.int j34)])) := by
        intro T j34 ej34 A
        have z_j34 : nar .boolean j34 = j34 := by rw [ej34]; (repeat' split) <;> first | decide | assumption
        refine A.istore (q := 41) (l' := #[.val (.int a), .val (.int b), .val (.int fl), .val (.int (0 : Int32)), .val (.int (1 : Int32)), .val (.int j30), .val (.int j34), .unset, .unset, .unset, .unset, .unset]) at_39 rfl rfl ?_
        refine A.newO (q := 44) (w1 := 1) (w2 := 2) (w3 := 3) (n := 6) (fs := [(("com/example/proof_of_scan/proofofscan/Choices", "values", "[Z"), .null), (("com/example/proof_of_scan/proofofscan/Choices", "taken", "[I"), .null), (("com/example/proof_of_scan/proofofscan/Choices", "isTaken", "[Z"), .null), (("com/example/proof_of_scan/proofofscan/Choices", "isHeld", "[Z"), .null), (("com/example/proof_of_scan/proofofscan/Choices", "takenCount", "I"), (.int (0 : Int32)))]) at_41 rfl rfl rfl rfl (lay_0 Z a0 hw) (by decide) (by decide) (by decide) ?_
        intro T b36 A
        refine A.dup (q := 45) at_44 rfl rfl ?_
        refine A.iconst (q := 46) (v := (3 : Int32)) at_45 rfl (by decide) ?_
        refine A.callI (q := 49) (w1 := 4) (w2 := 5) (w3 := 3) (w4 := 6) (a := b36) (as := [(.int (3 : Int32))]) (st := [(.ref b36)]) (W := 1) at_46 rfl rfl rfl rfl rfl rfl (rm1_1 l Z a0 hw n0 b36 _) (by decide) ⟨_, _, pd_0, rfl⟩ rfl rfl rfl (by decide) (by decide) (by decide) (by decide) ?_
        rintro _ T _ ⟨b37, b38, b39, b40, rfl, rfl⟩ A
        show Go p e below _ (T.setTop (mkF m 49 #[.val (.int a), .val (.int b), .val (.int fl), .val (.int (0 : Int32)), .val (.int (1 : Int32)), .val (.int j30), .val (.int j34), .unset, .unset, .unset, .unset, .unset] [(.ref b36)]))
        refine A.astore (q := 51) (l' := #[.val (.int a), .val (.int b), .val (.int fl), .val (.int (0 : Int32)), .val (.int (1 : Int32)), .val (.int j30), .val (.int j34), .val (.ref b36), .unset, .unset, .unset, .unset]) at_49 rfl rfl rfl ?_
        have J51_46 : ∀ (T : State) (j45 : Int32) (j46 : Int32), j45 = (if j34 = (0 : Int32) then (0 : Int32) else (1 : Int32)) → j46 = (if j34 = (0 : Int32) then (0 : Int32) else ((if j30 = (0 : Int32) then (1 : Int32) else (0 : Int32)))) → Here p l e room_1 s m ([(.int a), (.int b), (.int fl)] : List Value).toArray below meth c Z a0 tables_1 x.cls x.name code 12 (some .boolean) n0 T [(b37, .inr (.boolean, [(.int j45), (.int (0 : Int32)), (.int (0 : Int32))])), (b38, .inr (.boolean, [(.int (0 : Int32)), (.int (0 : Int32)), (.int (0 : Int32))])), (b39, .inr (.int, [(.int (0 : Int32)), (.int (0 : Int32)), (.int (0 : Int32))])), (b40, .inr (.boolean, [(.int j46), (.int (0 : Int32)), (.int (0 : Int32))])), (b36, ob0 (.ref b40) (.ref b39) (.ref b38) (.ref b37) (.int (0 : Int32)))] 5 18 → Go p e below (EndS below s n0 Z 24 128 (fun v _ => v = some (.int 1))) (T.setTop (mkF m 72 #[.val (.int a), .val (.int b), .val (.int fl), .val (.int (0 : Int32)), .val (.int (1 : Int32)), .val (.int j30), .val (.int j34), .val (.ref b36), .unset, .unset, .unset, .unset] [])) := by
         intro T j45 j46 ej45 ej46 A
         have z_j45 : nar .boolean j45 = j45 := by rw [ej45]; (repeat' split) <;> first | decide | assumption
         have z_j46 : nar .boolean j46 = j46 := by rw [ej46]; (repeat' split) <;> first | decide | assumption
         refine A.aload (q := 74) at_72 rfl rfl rfl ?_
         refine A.iloadN (q := 75) at_74 rfl rfl ?_
         refine A.iload (q := 77) at_75 rfl rfl ?_
         have A := A.front (i := 1) rfl rfl
         have A := A.front (i := 2) rfl rfl
         have A := A.front (i := 3) rfl rfl
         have A := A.front (i := 4) (L' := [(b36, ob0 (.ref b40) (.ref b39) (.ref b38) (.ref b37) (.int (0 : Int32))), (b40, .inr (.boolean, [(.int j46), (.int (0 : Int32)), (.int (0 : Int32))])), (b39, .inr (.int, [(.int (0 : Int32)), (.int (0 : Int32)), (.int (0 : Int32))])), (b38, .inr (.boolean, [(.int (0 : Int32)), (.int (0 : Int32)), (.int (0 : Int32))])), (b37, .inr (.boolean, [(.int j45), (.int (0 : Int32)), (.int (0 : Int32))]))]) rfl rfl
         refine A.callV (q := 80) (i := 0) (w1 := 20) (w2 := 21) (w3 := 3) (w4 := 24) (w5 := 23) (w6 := 22) (a := b36) (as := [(.int (0 : Int32)), (.int j30)]) (st := []) (W := 0) at_77 rfl rfl rfl rfl rfl rfl rfl rfl (rm3_2 l Z a0 hw n0 b36 j30 b40 b39 b38 b37 j46 j45 _ z_j30 z_j46 z_j45) (by decide) ⟨_, _, pd_1, rfl⟩ rfl rfl rfl (by decide) (by decide) (by decide) (by decide) ?_
         rintro _ T _ ⟨rfl, rfl⟩ A
         show Go p e below _ (T.setTop (mkF m 80 #[.val (.int a), .val (.int b), .val (.int fl), .val (.int (0 : Int32)), .val (.int (1 : Int32)), .val (.int j30), .val (.int j34), .val (.ref b36), .unset, .unset, .unset, .unset] []))
         refine A.aload (q := 82) at_80 rfl rfl rfl ?_
         refine A.callV (q := 85) (i := 0) (w1 := 25) (w2 := 26) (w3 := 3) (w4 := 29) (w5 := 28) (w6 := 27) (a := b36) (as := []) (st := []) (W := 0) at_82 rfl rfl rfl rfl rfl rfl rfl rfl (rm4_1 l Z a0 hw n0 b36 b40 b39 b38 b37 j30 _ z_j30) (by decide) ⟨_, _, pd_2, rfl⟩ rfl rfl rfl (by decide) (by decide) (by decide) (by decide) ?_
         rintro _ T _ ⟨b48, rfl, rfl⟩ A
         show Go p e below _ (T.setTop (mkF m 85 #[.val (.int a), .val (.int b), .val (.int fl), .val (.int (0 : Int32)), .val (.int (1 : Int32)), .val (.int j30), .val (.int j34), .val (.ref b36), .unset, .unset, .unset, .unset] [(.ref b48)]))
         refine A.iloadN (q := 86) at_85 rfl rfl ?_
         refine A.iload (q := 88) at_86 rfl rfl ?_
         refine A.iconst (q := 89) (v := (-1 : Int32)) at_88 rfl (by decide) ?_
         refine A.callS (q := 92) (w1 := 39) (w2 := 40) (w3 := 41) (w4 := 42) (as := [(.ref b48), (.int (0 : Int32)), (.int j30), (.int (-1 : Int32))]) (st := []) (W := 0) at_89 rfl rfl rfl rfl rfl (rm5_1 l Z a0 hw n0 b48 j30 _ z_j30) (by decide) ⟨_, _, pd_3, rfl⟩ rfl rfl rfl (by decide) (by decide) (by decide) (by decide) ?_
         rintro _ T _ ⟨rfl, rfl⟩ A
         show Go p e below _ (T.setTop (mkF m 92 #[.val (.int a), .val (.int b), .val (.int fl), .val (.int (0 : Int32)), .val (.int (1 : Int32)), .val (.int j30), .val (.int j34), .val (.ref b36), .unset, .unset, .unset, .unset] [(.int (1 : Int32))]))
         refine A.istore (q := 94) (l' := #[.val (.int a), .val (.int b), .val (.int fl), .val (.int (0 : Int32)), .val (.int (1 : Int32)), .val (.int j30), .val (.int j34), .val (.ref b36), .val (.int (1 : Int32)), .unset, .unset, .unset]) at_92 rfl rfl ?_
         refine A.aload (q := 96) at_94 rfl rfl rfl ?_
         refine A.iload (q := 98) at_96 rfl rfl ?_
         have A := A.front (i := 5) rfl rfl
         have A := A.front (i := 5) rfl rfl
         have A := A.front (i := 5) rfl rfl
         have A := A.front (i := 5) rfl rfl
         have A := A.front (i := 5) (L' := [(b36, ob0 (.ref b40) (.ref b39) (.ref b38) (.ref b37) (.int (0 : Int32))), (b40, .inr (.boolean, [(.int j30), (.int (0 : Int32)), (.int (0 : Int32))])), (b39, .inr (.int, [(.int (0 : Int32)), (.int (0 : Int32)), (.int (0 : Int32))])), (b38, .inr (.boolean, [(.int (0 : Int32)), (.int (0 : Int32)), (.int (0 : Int32))])), (b37, .inr (.boolean, [(.int (1 : Int32)), (.int (0 : Int32)), (.int (0 : Int32))])), (b48, .inr (.boolean, [(.int j30), (.int (0 : Int32)), (.int (0 : Int32))]))]) rfl rfl
         refine A.callV (q := 101) (i := 0) (w1 := 43) (w2 := 44) (w3 := 3) (w4 := 47) (w5 := 46) (w6 := 45) (a := b36) (as := [(.int (1 : Int32))]) (st := []) (W := 0) at_98 rfl rfl rfl rfl rfl rfl rfl rfl (rm6_2 l Z a0 hw n0 b36 b40 b39 b38 b37 j30 _ z_j30) (by decide) ⟨_, _, pd_4, rfl⟩ rfl rfl rfl (by decide) (by decide) (by decide) (by decide) ?_
         rintro _ T _ ⟨rfl, rfl⟩ A
         show Go p e below _ (T.setTop (mkF m 101 #[.val (.int a), .val (.int b), .val (.int fl), .val (.int (0 : Int32)), .val (.int (1 : Int32)), .val (.int j30), .val (.int j34), .val (.ref b36), .val (.int (1 : Int32)), .unset, .unset, .unset] [(.int (0 : Int32))]))
         refine A.istore (q := 103) (l' := #[.val (.int a), .val (.int b), .val (.int fl), .val (.int (0 : Int32)), .val (.int (1 : Int32)), .val (.int j30), .val (.int j34), .val (.ref b36), .val (.int (1 : Int32)), .val (.int (0 : Int32)), .unset, .unset]) at_101 rfl rfl ?_
         refine A.aload (q := 105) at_103 rfl rfl rfl ?_
         refine A.iloadN (q := 106) at_105 rfl rfl ?_
         refine A.callV (q := 109) (i := 0) (w1 := 43) (w2 := 44) (w3 := 3) (w4 := 47) (w5 := 46) (w6 := 45) (a := b36) (as := [(.int (0 : Int32))]) (st := []) (W := 0) at_106 rfl rfl rfl rfl rfl rfl rfl rfl (rm6_3 l Z a0 hw n0 b36 b40 b39 b38 b37 j30 _ z_j30) (by decide) ⟨_, _, pd_4, rfl⟩ rfl rfl rfl (by decide) (by decide) (by decide) (by decide) ?_
         rintro _ T _ ⟨rfl, rfl⟩ A
         show Go p e below _ (T.setTop (mkF m 109 #[.val (.int a), .val (.int b), .val (.int fl), .val (.int (0 : Int32)), .val (.int (1 : Int32)), .val (.int j30), .val (.int j34), .val (.ref b36), .val (.int (1 : Int32)), .val (.int (0 : Int32)), .unset, .unset] [(.int j30)]))
         refine A.istore (q := 111) (l' := #[.val (.int a), .val (.int b), .val (.int fl), .val (.int (0 : Int32)), .val (.int (1 : Int32)), .val (.int j30), .val (.int j34), .val (.ref b36), .val (.int (1 : Int32)), .val (.int (0 : Int32)), .val (.int j30), .unset]) at_109 rfl rfl ?_
         refine A.iload (q := 113) at_111 rfl rfl ?_
         refine A.ifF (q := 116) at_113 rfl (by decide) ?_
         refine A.iload (q := 118) at_116 rfl rfl ?_
         refine A.iload (q := 120) at_118 rfl rfl ?_
         refine A.icmpF (q := 123) at_120 rfl (teq rfl).2 ?_
         refine A.iload (q := 125) at_123 rfl rfl ?_
         refine A.iload (q := 127) at_125 rfl rfl ?_
         refine A.iloadN (q := 128) at_127 rfl rfl ?_
         refine A.icmpT (r := 136) at_128 (by decide) (by decide) ?_
         refine A.iconst (q := 137) (v := (0 : Int32)) at_136 rfl (by decide) ?_
         refine A.icmpF (q := 140) at_137 rfl (by decide) ?_
         refine A.iconst (q := 141) (v := (1 : Int32)) at_140 rfl (by decide) ?_
         refine A.goto (r := 145) at_141 (by decide) ?_
         refine A.istore (q := 147) (l' := #[.val (.int a), .val (.int b), .val (.int fl), .val (.int (0 : Int32)), .val (.int (1 : Int32)), .val (.int j30), .val (.int j34), .val (.ref b36), .val (.int (1 : Int32)), .val (.int (0 : Int32)), .val (.int j30), .unset]) at_145 rfl rfl ?_
         refine A.aload (q := 149) at_147 rfl rfl rfl ?_
         refine A.callV (q := 152) (i := 0) (w1 := 48) (w2 := 49) (w3 := 3) (w4 := 52) (w5 := 51) (w6 := 50) (a := b36) (as := []) (st := []) (W := 0) at_149 rfl rfl rfl rfl rfl rfl rfl rfl (rm7_2 l Z a0 hw n0 b36 b40 b39 b38 b37 j30 _ z_j30) (by decide) ⟨_, _, pd_5, rfl⟩ rfl rfl rfl (by decide) (by decide) (by decide) (by decide) ?_
         rintro _ T _ ⟨rfl, rfl⟩ A
         show Go p e below _ (T.setTop (mkF m 152 #[.val (.int a), .val (.int b), .val (.int fl), .val (.int (0 : Int32)), .val (.int (1 : Int32)), .val (.int j30), .val (.int j34), .val (.ref b36), .val (.int (1 : Int32)), .val (.int (0 : Int32)), .val (.int j30), .unset] [(.int (1 : Int32))]))
         refine A.istore (q := 154) (l' := #[.val (.int a), .val (.int b), .val (.int fl), .val (.int (0 : Int32)), .val (.int (1 : Int32)), .val (.int j30), .val (.int j34), .val (.ref b36), .val (.int (1 : Int32)), .val (.int (0 : Int32)), .val (.int j30), .val (.int (1 : Int32))]) at_152 rfl rfl ?_
         refine A.iload (q := 156) at_154 rfl rfl ?_
         refine A.ifF (q := 159) at_156 rfl (by decide) ?_
         refine A.iload (q := 161) at_159 rfl rfl ?_
         refine A.iload (q := 163) at_161 rfl rfl ?_
         refine A.iloadN (q := 164) at_163 rfl rfl ?_
         refine A.icmpF (q := 167) at_164 rfl (by decide) ?_
         refine A.iconst (q := 168) (v := (1 : Int32)) at_167 rfl (by decide) ?_
         refine A.goto (r := 172) at_168 (by decide) ?_
         refine A.icmpF (q := 175) at_172 rfl (by decide) ?_
         refine A.aload (q := 177) at_175 rfl rfl rfl ?_
         refine A.callV (q := 180) (i := 0) (w1 := 25) (w2 := 26) (w3 := 3) (w4 := 29) (w5 := 28) (w6 := 27) (a := b36) (as := []) (st := []) (W := 0) at_177 rfl rfl rfl rfl rfl rfl rfl rfl (rm4_2 l Z a0 hw n0 b36 b40 b39 b38 b37 j30 _ z_j30) (by decide) ⟨_, _, pd_2, rfl⟩ rfl rfl rfl (by decide) (by decide) (by decide) (by decide) ?_
         rintro _ T _ ⟨b49, rfl, rfl⟩ A
         show Go p e below _ (T.setTop (mkF m 180 #[.val (.int a), .val (.int b), .val (.int fl), .val (.int (0 : Int32)), .val (.int (1 : Int32)), .val (.int j30), .val (.int j34), .val (.ref b36), .val (.int (1 : Int32)), .val (.int (0 : Int32)), .val (.int j30), .val (.int (1 : Int32))] [(.ref b49)]))
         refine A.iloadN (q := 181) at_180 rfl rfl ?_
         refine A.iload (q := 183) at_181 rfl rfl ?_
         refine A.iload (q := 185) at_183 rfl rfl ?_
         refine A.iloadN (q := 186) at_185 rfl rfl ?_
         refine A.icmpF (q := 189) at_186 rfl (by decide) ?_
         refine A.iload (q := 191) at_189 rfl rfl ?_
         refine A.goto (r := 195) at_191 (by decide) ?_
         refine A.callS (q := 198) (w1 := 39) (w2 := 40) (w3 := 41) (w4 := 42) (as := [(.ref b49), (.int (0 : Int32)), (.int j30), (.int (1 : Int32))]) (st := []) (W := 0) at_195 rfl rfl rfl rfl rfl (rm5_2 l Z a0 hw n0 b49 j30 _ z_j30) (by decide) ⟨_, _, pd_3, rfl⟩ rfl rfl rfl (by decide) (by decide) (by decide) (by decide) ?_
         rintro _ T _ ⟨rfl, rfl⟩ A
         show Go p e below _ (T.setTop (mkF m 198 #[.val (.int a), .val (.int b), .val (.int fl), .val (.int (0 : Int32)), .val (.int (1 : Int32)), .val (.int j30), .val (.int j34), .val (.ref b36), .val (.int (1 : Int32)), .val (.int (0 : Int32)), .val (.int j30), .val (.int (1 : Int32))] [(.int (1 : Int32))]))
         refine A.ifF (q := 201) at_198 rfl (by decide) ?_
         refine A.iconst (q := 202) (v := (1 : Int32)) at_201 rfl (by decide) ?_
         refine A.goto (r := 206) at_202 (by decide) ?_
         refine A.istore (q := 208) (l' := #[.val (.int a), .val (.int b), .val (.int fl), .val (.int (0 : Int32)), .val (.int (1 : Int32)), .val (.int j30), .val (.int j34), .val (.ref b36), .val (.int (1 : Int32)), .val (.int (0 : Int32)), .val (.int j30), .val (.int (1 : Int32))]) at_206 rfl rfl ?_
         refine A.aload (q := 210) at_208 rfl rfl rfl ?_
         have A := A.front (i := 5) rfl rfl
         have A := A.front (i := 5) rfl rfl
         have A := A.front (i := 5) rfl rfl
         have A := A.front (i := 5) rfl rfl
         have A := A.front (i := 5) (L' := [(b36, ob0 (.ref b40) (.ref b39) (.ref b38) (.ref b37) (.int (0 : Int32))), (b40, .inr (.boolean, [(.int j30), (.int (1 : Int32)), (.int (0 : Int32))])), (b39, .inr (.int, [(.int (1 : Int32)), (.int (0 : Int32)), (.int (0 : Int32))])), (b38, .inr (.boolean, [(.int (0 : Int32)), (.int (0 : Int32)), (.int (0 : Int32))])), (b37, .inr (.boolean, [(.int (1 : Int32)), (.int (0 : Int32)), (.int (0 : Int32))])), (b49, .inr (.boolean, [(.int j30), (.int (1 : Int32)), (.int (0 : Int32))])), (b48, .inr (.boolean, [(.int j30), (.int (0 : Int32)), (.int (0 : Int32))]))]) rfl rfl
         refine A.callV (q := 213) (i := 0) (w1 := 55) (w2 := 56) (w3 := 3) (w4 := 59) (w5 := 58) (w6 := 57) (a := b36) (as := []) (st := []) (W := 0) at_210 rfl rfl rfl rfl rfl rfl rfl rfl (rm8_2 l Z a0 hw n0 b36 b40 b39 b38 b37 j30 _ z_j30) (by decide) ⟨_, _, pd_6, rfl⟩ rfl rfl rfl (by decide) (by decide) (by decide) (by decide) ?_
         rintro _ T _ ⟨rfl, rfl⟩ A
         show Go p e below _ (T.setTop (mkF m 213 #[.val (.int a), .val (.int b), .val (.int fl), .val (.int (0 : Int32)), .val (.int (1 : Int32)), .val (.int j30), .val (.int j34), .val (.ref b36), .val (.int (1 : Int32)), .val (.int (0 : Int32)), .val (.int j30), .val (.int (1 : Int32))] []))
         refine A.iload (q := 215) at_213 rfl rfl ?_
         refine A.ifF (q := 218) at_215 rfl (by decide) ?_
         refine A.aload (q := 220) at_218 rfl rfl rfl ?_
         refine A.callV (q := 223) (i := 0) (w1 := 25) (w2 := 26) (w3 := 3) (w4 := 29) (w5 := 28) (w6 := 27) (a := b36) (as := []) (st := []) (W := 0) at_220 rfl rfl rfl rfl rfl rfl rfl rfl (rm4_3 l Z a0 hw n0 b36 b40 b39 b38 b37 j30 _ z_j30) (by decide) ⟨_, _, pd_2, rfl⟩ rfl rfl rfl (by decide) (by decide) (by decide) (by decide) ?_
         rintro _ T _ ⟨b50, rfl, rfl⟩ A
         show Go p e below _ (T.setTop (mkF m 223 #[.val (.int a), .val (.int b), .val (.int fl), .val (.int (0 : Int32)), .val (.int (1 : Int32)), .val (.int j30), .val (.int j34), .val (.ref b36), .val (.int (1 : Int32)), .val (.int (0 : Int32)), .val (.int j30), .val (.int (1 : Int32))] [(.ref b50)]))
         refine A.iloadN (q := 224) at_223 rfl rfl ?_
         refine A.iload (q := 226) at_224 rfl rfl ?_
         refine A.iconst (q := 227) (v := (-1 : Int32)) at_226 rfl (by decide) ?_
         refine A.callS (q := 230) (w1 := 39) (w2 := 40) (w3 := 41) (w4 := 42) (as := [(.ref b50), (.int (0 : Int32)), (.int j30), (.int (-1 : Int32))]) (st := []) (W := 0) at_227 rfl rfl rfl rfl rfl (rm5_1 l Z a0 hw n0 b50 j30 _ z_j30) (by decide) ⟨_, _, pd_3, rfl⟩ rfl rfl rfl (by decide) (by decide) (by decide) (by decide) ?_
         rintro _ T _ ⟨rfl, rfl⟩ A
         show Go p e below _ (T.setTop (mkF m 230 #[.val (.int a), .val (.int b), .val (.int fl), .val (.int (0 : Int32)), .val (.int (1 : Int32)), .val (.int j30), .val (.int j34), .val (.ref b36), .val (.int (1 : Int32)), .val (.int (0 : Int32)), .val (.int j30), .val (.int (1 : Int32))] [(.int (1 : Int32))]))
         refine A.ifF (q := 233) at_230 rfl (by decide) ?_
         refine A.iconst (q := 234) (v := (1 : Int32)) at_233 rfl (by decide) ?_
         refine A.goto (r := 238) at_234 (by decide) ?_
         refine A.istore (q := 240) (l' := #[.val (.int a), .val (.int b), .val (.int fl), .val (.int (0 : Int32)), .val (.int (1 : Int32)), .val (.int j30), .val (.int j34), .val (.ref b36), .val (.int (1 : Int32)), .val (.int (0 : Int32)), .val (.int j30), .val (.int (1 : Int32))]) at_238 rfl rfl ?_
         refine A.iload (q := 242) at_240 rfl rfl ?_
         exact A.retZ (v := 1) at_242 (by decide) (by decide) (by decide) rfl
        refine A.iload (q := 53) at_51 rfl rfl ?_
        refine A.if_eq (q := 56) (r := 72) at_53 rfl (by decide) (fun h41 => ?_) (fun h41 => ?_)
        · exact J51_46 T _ _ (by simp only [if_pos h41]) (by simp only [if_pos h41]) A
        · refine A.aload (q := 58) at_56 rfl rfl rfl ?_
          refine A.iloadN (q := 59) at_58 rfl rfl ?_
          have J59_43 : ∀ (T : State) (j43 : Int32), j43 = (if j30 = (0 : Int32) then (1 : Int32) else (0 : Int32)) → Here p l e room_1 s m ([(.int a), (.int b), (.int fl)] : List Value).toArray below meth c Z a0 tables_1 x.cls x.name code 12 (some .boolean) n0 T [(b37, .inr (.boolean, [(.int (0 : Int32)), (.int (0 : Int32)), (.int (0 : Int32))])), (b38, .inr (.boolean, [(.int (0 : Int32)), (.int (0 : Int32)), (.int (0 : Int32))])), (b39, .inr (.int, [(.int (0 : Int32)), (.int (0 : Int32)), (.int (0 : Int32))])), (b40, .inr (.boolean, [(.int (0 : Int32)), (.int (0 : Int32)), (.int (0 : Int32))])), (b36, ob0 (.ref b40) (.ref b39) (.ref b38) (.ref b37) (.int (0 : Int32)))] 5 18 → Go p e below (EndS below s n0 Z 24 128 (fun v _ => v = some (.int 1))) (T.setTop (mkF m 69 #[.val (.int a), .val (.int b), .val (.int fl), .val (.int (0 : Int32)), .val (.int (1 : Int32)), .val (.int j30), .val (.int j34), .val (.ref b36), .unset, .unset, .unset, .unset] [(.int j43), (.int (0 : Int32)), (.ref b36)])) := by
           intro T j43 ej43 A
           have z_j43 : nar .boolean j43 = j43 := by rw [ej43]; (repeat' split) <;> first | decide | assumption
           have A := A.front (i := 1) rfl rfl
           have A := A.front (i := 2) rfl rfl
           have A := A.front (i := 3) rfl rfl
           have A := A.front (i := 4) (L' := [(b36, ob0 (.ref b40) (.ref b39) (.ref b38) (.ref b37) (.int (0 : Int32))), (b40, .inr (.boolean, [(.int (0 : Int32)), (.int (0 : Int32)), (.int (0 : Int32))])), (b39, .inr (.int, [(.int (0 : Int32)), (.int (0 : Int32)), (.int (0 : Int32))])), (b38, .inr (.boolean, [(.int (0 : Int32)), (.int (0 : Int32)), (.int (0 : Int32))])), (b37, .inr (.boolean, [(.int (0 : Int32)), (.int (0 : Int32)), (.int (0 : Int32))]))]) rfl rfl
           refine A.callV (q := 72) (i := 0) (w1 := 20) (w2 := 21) (w3 := 3) (w4 := 24) (w5 := 23) (w6 := 22) (a := b36) (as := [(.int (0 : Int32)), (.int j43)]) (st := []) (W := 0) at_69 rfl rfl rfl rfl rfl rfl rfl rfl (rm3_1 l Z a0 hw n0 b36 j43 b40 b39 b38 b37 _ z_j43) (by decide) ⟨_, _, pd_1, rfl⟩ rfl rfl rfl (by decide) (by decide) (by decide) (by decide) ?_
           rintro _ T _ ⟨rfl, rfl⟩ A
           show Go p e below _ (T.setTop (mkF m 72 #[.val (.int a), .val (.int b), .val (.int fl), .val (.int (0 : Int32)), .val (.int (1 : Int32)), .val (.int j30), .val (.int j34), .val (.ref b36), .unset, .unset, .unset, .unset] []))
           have A := A.front (i := 1) rfl rfl
           have A := A.front (i := 2) rfl rfl
           have A := A.front (i := 3) rfl rfl
           have A := A.front (i := 4) (L' := [(b37, .inr (.boolean, [(.int (1 : Int32)), (.int (0 : Int32)), (.int (0 : Int32))])), (b38, .inr (.boolean, [(.int (0 : Int32)), (.int (0 : Int32)), (.int (0 : Int32))])), (b39, .inr (.int, [(.int (0 : Int32)), (.int (0 : Int32)), (.int (0 : Int32))])), (b40, .inr (.boolean, [(.int j43), (.int (0 : Int32)), (.int (0 : Int32))])), (b36, ob0 (.ref b40) (.ref b39) (.ref b38) (.ref b37) (.int (0 : Int32)))]) rfl rfl
           exact J51_46 T _ _ (by simp only [ej43, if_neg h41]) (by simp only [ej43, if_neg h41]) A
          refine A.iload (q := 61) at_59 rfl rfl ?_
          refine A.if_ne (q := 64) (r := 68) at_61 rfl (by decide) (fun h42 => ?_) (fun h42 => ?_)
          · refine A.iconst (q := 69) (v := (0 : Int32)) at_68 rfl (by decide) ?_
            exact J59_43 T _ (by simp only [if_neg h42]) A
          · refine A.iconst (q := 65) (v := (1 : Int32)) at_64 rfl (by decide) ?_
            refine A.goto (r := 69) at_65 (by decide) ?_
            exact J59_43 T _ (by simp only [if_pos h42]) A
       refine A.iloadN (q := 29) at_28 rfl rfl ?_
       refine A.iconst (q := 30) (v := (2 : Int32)) at_29 rfl (by decide) ?_
       obtain ⟨v32, e32⟩ : ∃ v : Int32, fl &&& (2 : Int32) = v := ⟨_, rfl⟩
       refine A.iand (q := 31) at_30 rfl e32 ?_
       refine A.if_eq (q := 34) (r := 38) at_31 rfl (by decide) (fun h33 => ?_) (fun h33 => ?_)
       · refine A.iconst (q := 39) (v := (0 : Int32)) at_38 rfl (by decide) ?_
         exact J28_34 T _ (by simp only [e32, if_pos h33]) A
       · refine A.iconst (q := 35) (v := (1 : Int32)) at_34 rfl (by decide) ?_
         refine A.goto (r := 39) at_35 (by decide) ?_
         exact J28_34 T _ (by simp only [e32, if_neg h33]) A
      refine A.iloadN (q := 16) at_15 rfl rfl ?_
      refine A.iconst (q := 17) (v := (1 : Int32)) at_16 rfl (by decide) ?_
      obtain ⟨v28, e28⟩ : ∃ v : Int32, fl &&& (1 : Int32) = v := ⟨_, rfl⟩
      refine A.iand (q := 18) at_17 rfl e28 ?_
      refine A.if_eq (q := 21) (r := 25) at_18 rfl (by decide) (fun h29 => ?_) (fun h29 => ?_)
      · refine A.iconst (q := 26) (v := (0 : Int32)) at_25 rfl (by decide) ?_
        exact J15_30 T _ (by simp only [e28, if_pos h29]) A
      · refine A.iconst (q := 22) (v := (1 : Int32)) at_21 rfl (by decide) ?_
        refine A.goto (r := 26) at_22 (by decide) ?_
        exact J15_30 T _ (by simp only [e28, if_neg h29]) A
    · have J15_53 : ∀ (T : State) (j53 : Int32), j53 = (if (fl &&& (1 : Int32)) = (0 : Int32) then (0 : Int32) else (1 : Int32)) → Here p l e room_1 s m ([(.int a), (.int b), (.int fl)] : List Value).toArray below meth c Z a0 tables_1 x.cls x.name code 12 (some .boolean) n0 T [] 0 0 → Go p e below (EndS below s n0 Z 24 128 (fun v _ => v = some (.int 1))) (T.setTop (mkF m 26 #[.val (.int a), .val (.int b), .val (.int fl), .val (.int (0 : Int32)), .val (.int (2 : Int32)), .unset, .unset, .unset, .unset, .unset, .unset, .unset] [(.int j53)])) := by
       intro T j53 ej53 A
       have z_j53 : nar .boolean j53 = j53 := by rw [ej53]; (repeat' split) <;> first | decide | assumption
       refine A.istore (q := 28) (l' := #[.val (.int a), .val (.int b), .val (.int fl), .val (.int (0 : Int32)), .val (.int (2 : Int32)), .val (.int j53), .unset, .unset, .unset, .unset, .unset, .unset]) at_26 rfl rfl ?_
       have J28_57 : ∀ (T : State) (j57 : Int32), j57 = (if (fl &&& (2 : Int32)) = (0 : Int32) then (0 : Int32) else (1 : Int32)) → Here p l e room_1 s m ([(.int a), (.int b), (.int fl)] : List Value).toArray below meth c Z a0 tables_1 x.cls x.name code 12 (some .boolean) n0 T [] 0 0 → Go p e below (EndS below s n0 Z 24 128 (fun v _ => v = some (.int 1))) (T.setTop (mkF m 39 #[.val (.int a), .val (.int b), .val (.int fl), .val (.int (0 : Int32)), .val (.int (2 : Int32)), .val (.int j53), .unset, .unset, .unset, .unset, .unset, .unset] [(.int j57)])) := by
        intro T j57 ej57 A
        have z_j57 : nar .boolean j57 = j57 := by rw [ej57]; (repeat' split) <;> first | decide | assumption
        refine A.istore (q := 41) (l' := #[.val (.int a), .val (.int b), .val (.int fl), .val (.int (0 : Int32)), .val (.int (2 : Int32)), .val (.int j53), .val (.int j57), .unset, .unset, .unset, .unset, .unset]) at_39 rfl rfl ?_
        refine A.newO (q := 44) (w1 := 1) (w2 := 2) (w3 := 3) (n := 6) (fs := [(("com/example/proof_of_scan/proofofscan/Choices", "values", "[Z"), .null), (("com/example/proof_of_scan/proofofscan/Choices", "taken", "[I"), .null), (("com/example/proof_of_scan/proofofscan/Choices", "isTaken", "[Z"), .null), (("com/example/proof_of_scan/proofofscan/Choices", "isHeld", "[Z"), .null), (("com/example/proof_of_scan/proofofscan/Choices", "takenCount", "I"), (.int (0 : Int32)))]) at_41 rfl rfl rfl rfl (lay_0 Z a0 hw) (by decide) (by decide) (by decide) ?_
        intro T b59 A
        refine A.dup (q := 45) at_44 rfl rfl ?_
        refine A.iconst (q := 46) (v := (3 : Int32)) at_45 rfl (by decide) ?_
        refine A.callI (q := 49) (w1 := 4) (w2 := 5) (w3 := 3) (w4 := 6) (a := b59) (as := [(.int (3 : Int32))]) (st := [(.ref b59)]) (W := 1) at_46 rfl rfl rfl rfl rfl rfl (rm1_1 l Z a0 hw n0 b59 _) (by decide) ⟨_, _, pd_0, rfl⟩ rfl rfl rfl (by decide) (by decide) (by decide) (by decide) ?_
        rintro _ T _ ⟨b60, b61, b62, b63, rfl, rfl⟩ A
        show Go p e below _ (T.setTop (mkF m 49 #[.val (.int a), .val (.int b), .val (.int fl), .val (.int (0 : Int32)), .val (.int (2 : Int32)), .val (.int j53), .val (.int j57), .unset, .unset, .unset, .unset, .unset] [(.ref b59)]))
        refine A.astore (q := 51) (l' := #[.val (.int a), .val (.int b), .val (.int fl), .val (.int (0 : Int32)), .val (.int (2 : Int32)), .val (.int j53), .val (.int j57), .val (.ref b59), .unset, .unset, .unset, .unset]) at_49 rfl rfl rfl ?_
        have J51_69 : ∀ (T : State) (j68 : Int32) (j69 : Int32), j68 = (if j57 = (0 : Int32) then (0 : Int32) else (1 : Int32)) → j69 = (if j57 = (0 : Int32) then (0 : Int32) else ((if j53 = (0 : Int32) then (1 : Int32) else (0 : Int32)))) → Here p l e room_1 s m ([(.int a), (.int b), (.int fl)] : List Value).toArray below meth c Z a0 tables_1 x.cls x.name code 12 (some .boolean) n0 T [(b60, .inr (.boolean, [(.int j68), (.int (0 : Int32)), (.int (0 : Int32))])), (b61, .inr (.boolean, [(.int (0 : Int32)), (.int (0 : Int32)), (.int (0 : Int32))])), (b62, .inr (.int, [(.int (0 : Int32)), (.int (0 : Int32)), (.int (0 : Int32))])), (b63, .inr (.boolean, [(.int j69), (.int (0 : Int32)), (.int (0 : Int32))])), (b59, ob0 (.ref b63) (.ref b62) (.ref b61) (.ref b60) (.int (0 : Int32)))] 5 18 → Go p e below (EndS below s n0 Z 24 128 (fun v _ => v = some (.int 1))) (T.setTop (mkF m 72 #[.val (.int a), .val (.int b), .val (.int fl), .val (.int (0 : Int32)), .val (.int (2 : Int32)), .val (.int j53), .val (.int j57), .val (.ref b59), .unset, .unset, .unset, .unset] [])) := by
         intro T j68 j69 ej68 ej69 A
         have z_j68 : nar .boolean j68 = j68 := by rw [ej68]; (repeat' split) <;> first | decide | assumption
         have z_j69 : nar .boolean j69 = j69 := by rw [ej69]; (repeat' split) <;> first | decide | assumption
         refine A.aload (q := 74) at_72 rfl rfl rfl ?_
         refine A.iloadN (q := 75) at_74 rfl rfl ?_
         refine A.iload (q := 77) at_75 rfl rfl ?_
         have A := A.front (i := 1) rfl rfl
         have A := A.front (i := 2) rfl rfl
         have A := A.front (i := 3) rfl rfl
         have A := A.front (i := 4) (L' := [(b59, ob0 (.ref b63) (.ref b62) (.ref b61) (.ref b60) (.int (0 : Int32))), (b63, .inr (.boolean, [(.int j69), (.int (0 : Int32)), (.int (0 : Int32))])), (b62, .inr (.int, [(.int (0 : Int32)), (.int (0 : Int32)), (.int (0 : Int32))])), (b61, .inr (.boolean, [(.int (0 : Int32)), (.int (0 : Int32)), (.int (0 : Int32))])), (b60, .inr (.boolean, [(.int j68), (.int (0 : Int32)), (.int (0 : Int32))]))]) rfl rfl
         refine A.callV (q := 80) (i := 0) (w1 := 20) (w2 := 21) (w3 := 3) (w4 := 24) (w5 := 23) (w6 := 22) (a := b59) (as := [(.int (0 : Int32)), (.int j53)]) (st := []) (W := 0) at_77 rfl rfl rfl rfl rfl rfl rfl rfl (rm3_2 l Z a0 hw n0 b59 j53 b63 b62 b61 b60 j69 j68 _ z_j53 z_j69 z_j68) (by decide) ⟨_, _, pd_1, rfl⟩ rfl rfl rfl (by decide) (by decide) (by decide) (by decide) ?_
         rintro _ T _ ⟨rfl, rfl⟩ A
         show Go p e below _ (T.setTop (mkF m 80 #[.val (.int a), .val (.int b), .val (.int fl), .val (.int (0 : Int32)), .val (.int (2 : Int32)), .val (.int j53), .val (.int j57), .val (.ref b59), .unset, .unset, .unset, .unset] []))
         refine A.aload (q := 82) at_80 rfl rfl rfl ?_
         refine A.callV (q := 85) (i := 0) (w1 := 25) (w2 := 26) (w3 := 3) (w4 := 29) (w5 := 28) (w6 := 27) (a := b59) (as := []) (st := []) (W := 0) at_82 rfl rfl rfl rfl rfl rfl rfl rfl (rm4_1 l Z a0 hw n0 b59 b63 b62 b61 b60 j53 _ z_j53) (by decide) ⟨_, _, pd_2, rfl⟩ rfl rfl rfl (by decide) (by decide) (by decide) (by decide) ?_
         rintro _ T _ ⟨b71, rfl, rfl⟩ A
         show Go p e below _ (T.setTop (mkF m 85 #[.val (.int a), .val (.int b), .val (.int fl), .val (.int (0 : Int32)), .val (.int (2 : Int32)), .val (.int j53), .val (.int j57), .val (.ref b59), .unset, .unset, .unset, .unset] [(.ref b71)]))
         refine A.iloadN (q := 86) at_85 rfl rfl ?_
         refine A.iload (q := 88) at_86 rfl rfl ?_
         refine A.iconst (q := 89) (v := (-1 : Int32)) at_88 rfl (by decide) ?_
         refine A.callS (q := 92) (w1 := 39) (w2 := 40) (w3 := 41) (w4 := 42) (as := [(.ref b71), (.int (0 : Int32)), (.int j53), (.int (-1 : Int32))]) (st := []) (W := 0) at_89 rfl rfl rfl rfl rfl (rm5_1 l Z a0 hw n0 b71 j53 _ z_j53) (by decide) ⟨_, _, pd_3, rfl⟩ rfl rfl rfl (by decide) (by decide) (by decide) (by decide) ?_
         rintro _ T _ ⟨rfl, rfl⟩ A
         show Go p e below _ (T.setTop (mkF m 92 #[.val (.int a), .val (.int b), .val (.int fl), .val (.int (0 : Int32)), .val (.int (2 : Int32)), .val (.int j53), .val (.int j57), .val (.ref b59), .unset, .unset, .unset, .unset] [(.int (1 : Int32))]))
         refine A.istore (q := 94) (l' := #[.val (.int a), .val (.int b), .val (.int fl), .val (.int (0 : Int32)), .val (.int (2 : Int32)), .val (.int j53), .val (.int j57), .val (.ref b59), .val (.int (1 : Int32)), .unset, .unset, .unset]) at_92 rfl rfl ?_
         refine A.aload (q := 96) at_94 rfl rfl rfl ?_
         refine A.iload (q := 98) at_96 rfl rfl ?_
         have A := A.front (i := 5) rfl rfl
         have A := A.front (i := 5) rfl rfl
         have A := A.front (i := 5) rfl rfl
         have A := A.front (i := 5) rfl rfl
         have A := A.front (i := 5) (L' := [(b59, ob0 (.ref b63) (.ref b62) (.ref b61) (.ref b60) (.int (0 : Int32))), (b63, .inr (.boolean, [(.int j53), (.int (0 : Int32)), (.int (0 : Int32))])), (b62, .inr (.int, [(.int (0 : Int32)), (.int (0 : Int32)), (.int (0 : Int32))])), (b61, .inr (.boolean, [(.int (0 : Int32)), (.int (0 : Int32)), (.int (0 : Int32))])), (b60, .inr (.boolean, [(.int (1 : Int32)), (.int (0 : Int32)), (.int (0 : Int32))])), (b71, .inr (.boolean, [(.int j53), (.int (0 : Int32)), (.int (0 : Int32))]))]) rfl rfl
         refine A.callV (q := 101) (i := 0) (w1 := 43) (w2 := 44) (w3 := 3) (w4 := 47) (w5 := 46) (w6 := 45) (a := b59) (as := [(.int (2 : Int32))]) (st := []) (W := 0) at_98 rfl rfl rfl rfl rfl rfl rfl rfl (rm6_4 l Z a0 hw n0 b59 b63 b62 b61 b60 j53 _ z_j53) (by decide) ⟨_, _, pd_4, rfl⟩ rfl rfl rfl (by decide) (by decide) (by decide) (by decide) ?_
         rintro _ T _ ⟨rfl, rfl⟩ A
         show Go p e below _ (T.setTop (mkF m 101 #[.val (.int a), .val (.int b), .val (.int fl), .val (.int (0 : Int32)), .val (.int (2 : Int32)), .val (.int j53), .val (.int j57), .val (.ref b59), .val (.int (1 : Int32)), .unset, .unset, .unset] [(.int (0 : Int32))]))
         refine A.istore (q := 103) (l' := #[.val (.int a), .val (.int b), .val (.int fl), .val (.int (0 : Int32)), .val (.int (2 : Int32)), .val (.int j53), .val (.int j57), .val (.ref b59), .val (.int (1 : Int32)), .val (.int (0 : Int32)), .unset, .unset]) at_101 rfl rfl ?_
         refine A.aload (q := 105) at_103 rfl rfl rfl ?_
         refine A.iloadN (q := 106) at_105 rfl rfl ?_
         refine A.callV (q := 109) (i := 0) (w1 := 43) (w2 := 44) (w3 := 3) (w4 := 47) (w5 := 46) (w6 := 45) (a := b59) (as := [(.int (0 : Int32))]) (st := []) (W := 0) at_106 rfl rfl rfl rfl rfl rfl rfl rfl (rm6_5 l Z a0 hw n0 b59 b63 b62 b61 b60 j53 _ z_j53) (by decide) ⟨_, _, pd_4, rfl⟩ rfl rfl rfl (by decide) (by decide) (by decide) (by decide) ?_
         rintro _ T _ ⟨rfl, rfl⟩ A
         show Go p e below _ (T.setTop (mkF m 109 #[.val (.int a), .val (.int b), .val (.int fl), .val (.int (0 : Int32)), .val (.int (2 : Int32)), .val (.int j53), .val (.int j57), .val (.ref b59), .val (.int (1 : Int32)), .val (.int (0 : Int32)), .unset, .unset] [(.int j53)]))
         refine A.istore (q := 111) (l' := #[.val (.int a), .val (.int b), .val (.int fl), .val (.int (0 : Int32)), .val (.int (2 : Int32)), .val (.int j53), .val (.int j57), .val (.ref b59), .val (.int (1 : Int32)), .val (.int (0 : Int32)), .val (.int j53), .unset]) at_109 rfl rfl ?_
         refine A.iload (q := 113) at_111 rfl rfl ?_
         refine A.ifF (q := 116) at_113 rfl (by decide) ?_
         refine A.iload (q := 118) at_116 rfl rfl ?_
         refine A.iload (q := 120) at_118 rfl rfl ?_
         refine A.icmpF (q := 123) at_120 rfl (teq rfl).2 ?_
         refine A.iload (q := 125) at_123 rfl rfl ?_
         refine A.iload (q := 127) at_125 rfl rfl ?_
         refine A.iloadN (q := 128) at_127 rfl rfl ?_
         refine A.icmpT (r := 136) at_128 (by decide) (by decide) ?_
         refine A.iconst (q := 137) (v := (0 : Int32)) at_136 rfl (by decide) ?_
         refine A.icmpF (q := 140) at_137 rfl (by decide) ?_
         refine A.iconst (q := 141) (v := (1 : Int32)) at_140 rfl (by decide) ?_
         refine A.goto (r := 145) at_141 (by decide) ?_
         refine A.istore (q := 147) (l' := #[.val (.int a), .val (.int b), .val (.int fl), .val (.int (0 : Int32)), .val (.int (2 : Int32)), .val (.int j53), .val (.int j57), .val (.ref b59), .val (.int (1 : Int32)), .val (.int (0 : Int32)), .val (.int j53), .unset]) at_145 rfl rfl ?_
         refine A.aload (q := 149) at_147 rfl rfl rfl ?_
         refine A.callV (q := 152) (i := 0) (w1 := 48) (w2 := 49) (w3 := 3) (w4 := 52) (w5 := 51) (w6 := 50) (a := b59) (as := []) (st := []) (W := 0) at_149 rfl rfl rfl rfl rfl rfl rfl rfl (rm7_3 l Z a0 hw n0 b59 b63 b62 b61 b60 j53 _ z_j53) (by decide) ⟨_, _, pd_5, rfl⟩ rfl rfl rfl (by decide) (by decide) (by decide) (by decide) ?_
         rintro _ T _ ⟨rfl, rfl⟩ A
         show Go p e below _ (T.setTop (mkF m 152 #[.val (.int a), .val (.int b), .val (.int fl), .val (.int (0 : Int32)), .val (.int (2 : Int32)), .val (.int j53), .val (.int j57), .val (.ref b59), .val (.int (1 : Int32)), .val (.int (0 : Int32)), .val (.int j53), .unset] [(.int (1 : Int32))]))
         refine A.istore (q := 154) (l' := #[.val (.int a), .val (.int b), .val (.int fl), .val (.int (0 : Int32)), .val (.int (2 : Int32)), .val (.int j53), .val (.int j57), .val (.ref b59), .val (.int (1 : Int32)), .val (.int (0 : Int32)), .val (.int j53), .val (.int (1 : Int32))]) at_152 rfl rfl ?_
         refine A.iload (q := 156) at_154 rfl rfl ?_
         refine A.ifF (q := 159) at_156 rfl (by decide) ?_
         refine A.iload (q := 161) at_159 rfl rfl ?_
         refine A.iload (q := 163) at_161 rfl rfl ?_
         refine A.iloadN (q := 164) at_163 rfl rfl ?_
         refine A.icmpF (q := 167) at_164 rfl (by decide) ?_
         refine A.iconst (q := 168) (v := (1 : Int32)) at_167 rfl (by decide) ?_
         refine A.goto (r := 172) at_168 (by decide) ?_
         refine A.icmpF (q := 175) at_172 rfl (by decide) ?_
         refine A.aload (q := 177) at_175 rfl rfl rfl ?_
         refine A.callV (q := 180) (i := 0) (w1 := 25) (w2 := 26) (w3 := 3) (w4 := 29) (w5 := 28) (w6 := 27) (a := b59) (as := []) (st := []) (W := 0) at_177 rfl rfl rfl rfl rfl rfl rfl rfl (rm4_4 l Z a0 hw n0 b59 b63 b62 b61 b60 j53 _ z_j53) (by decide) ⟨_, _, pd_2, rfl⟩ rfl rfl rfl (by decide) (by decide) (by decide) (by decide) ?_
         rintro _ T _ ⟨b72, rfl, rfl⟩ A
         show Go p e below _ (T.setTop (mkF m 180 #[.val (.int a), .val (.int b), .val (.int fl), .val (.int (0 : Int32)), .val (.int (2 : Int32)), .val (.int j53), .val (.int j57), .val (.ref b59), .val (.int (1 : Int32)), .val (.int (0 : Int32)), .val (.int j53), .val (.int (1 : Int32))] [(.ref b72)]))
         refine A.iloadN (q := 181) at_180 rfl rfl ?_
         refine A.iload (q := 183) at_181 rfl rfl ?_
         refine A.iload (q := 185) at_183 rfl rfl ?_
         refine A.iloadN (q := 186) at_185 rfl rfl ?_
         refine A.icmpF (q := 189) at_186 rfl (by decide) ?_
         refine A.iload (q := 191) at_189 rfl rfl ?_
         refine A.goto (r := 195) at_191 (by decide) ?_
         refine A.callS (q := 198) (w1 := 39) (w2 := 40) (w3 := 41) (w4 := 42) (as := [(.ref b72), (.int (0 : Int32)), (.int j53), (.int (2 : Int32))]) (st := []) (W := 0) at_195 rfl rfl rfl rfl rfl (rm5_3 l Z a0 hw n0 b72 j53 _ z_j53) (by decide) ⟨_, _, pd_3, rfl⟩ rfl rfl rfl (by decide) (by decide) (by decide) (by decide) ?_
         rintro _ T _ ⟨rfl, rfl⟩ A
         show Go p e below _ (T.setTop (mkF m 198 #[.val (.int a), .val (.int b), .val (.int fl), .val (.int (0 : Int32)), .val (.int (2 : Int32)), .val (.int j53), .val (.int j57), .val (.ref b59), .val (.int (1 : Int32)), .val (.int (0 : Int32)), .val (.int j53), .val (.int (1 : Int32))] [(.int (1 : Int32))]))
         refine A.ifF (q := 201) at_198 rfl (by decide) ?_
         refine A.iconst (q := 202) (v := (1 : Int32)) at_201 rfl (by decide) ?_
         refine A.goto (r := 206) at_202 (by decide) ?_
         refine A.istore (q := 208) (l' := #[.val (.int a), .val (.int b), .val (.int fl), .val (.int (0 : Int32)), .val (.int (2 : Int32)), .val (.int j53), .val (.int j57), .val (.ref b59), .val (.int (1 : Int32)), .val (.int (0 : Int32)), .val (.int j53), .val (.int (1 : Int32))]) at_206 rfl rfl ?_
         refine A.aload (q := 210) at_208 rfl rfl rfl ?_
         have A := A.front (i := 5) rfl rfl
         have A := A.front (i := 5) rfl rfl
         have A := A.front (i := 5) rfl rfl
         have A := A.front (i := 5) rfl rfl
         have A := A.front (i := 5) (L' := [(b59, ob0 (.ref b63) (.ref b62) (.ref b61) (.ref b60) (.int (0 : Int32))), (b63, .inr (.boolean, [(.int j53), (.int (0 : Int32)), (.int (1 : Int32))])), (b62, .inr (.int, [(.int (2 : Int32)), (.int (0 : Int32)), (.int (0 : Int32))])), (b61, .inr (.boolean, [(.int (0 : Int32)), (.int (0 : Int32)), (.int (0 : Int32))])), (b60, .inr (.boolean, [(.int (1 : Int32)), (.int (0 : Int32)), (.int (0 : Int32))])), (b72, .inr (.boolean, [(.int j53), (.int (0 : Int32)), (.int (1 : Int32))])), (b71, .inr (.boolean, [(.int j53), (.int (0 : Int32)), (.int (0 : Int32))]))]) rfl rfl
         refine A.callV (q := 213) (i := 0) (w1 := 55) (w2 := 56) (w3 := 3) (w4 := 59) (w5 := 58) (w6 := 57) (a := b59) (as := []) (st := []) (W := 0) at_210 rfl rfl rfl rfl rfl rfl rfl rfl (rm8_3 l Z a0 hw n0 b59 b63 b62 b61 b60 j53 _ z_j53) (by decide) ⟨_, _, pd_6, rfl⟩ rfl rfl rfl (by decide) (by decide) (by decide) (by decide) ?_
         rintro _ T _ ⟨rfl, rfl⟩ A
         show Go p e below _ (T.setTop (mkF m 213 #[.val (.int a), .val (.int b), .val (.int fl), .val (.int (0 : Int32)), .val (.int (2 : Int32)), .val (.int j53), .val (.int j57), .val (.ref b59), .val (.int (1 : Int32)), .val (.int (0 : Int32)), .val (.int j53), .val (.int (1 : Int32))] []))
         refine A.iload (q := 215) at_213 rfl rfl ?_
         refine A.ifF (q := 218) at_215 rfl (by decide) ?_
         refine A.aload (q := 220) at_218 rfl rfl rfl ?_
         refine A.callV (q := 223) (i := 0) (w1 := 25) (w2 := 26) (w3 := 3) (w4 := 29) (w5 := 28) (w6 := 27) (a := b59) (as := []) (st := []) (W := 0) at_220 rfl rfl rfl rfl rfl rfl rfl rfl (rm4_5 l Z a0 hw n0 b59 b63 b62 b61 b60 j53 _ z_j53) (by decide) ⟨_, _, pd_2, rfl⟩ rfl rfl rfl (by decide) (by decide) (by decide) (by decide) ?_
         rintro _ T _ ⟨b73, rfl, rfl⟩ A
         show Go p e below _ (T.setTop (mkF m 223 #[.val (.int a), .val (.int b), .val (.int fl), .val (.int (0 : Int32)), .val (.int (2 : Int32)), .val (.int j53), .val (.int j57), .val (.ref b59), .val (.int (1 : Int32)), .val (.int (0 : Int32)), .val (.int j53), .val (.int (1 : Int32))] [(.ref b73)]))
         refine A.iloadN (q := 224) at_223 rfl rfl ?_
         refine A.iload (q := 226) at_224 rfl rfl ?_
         refine A.iconst (q := 227) (v := (-1 : Int32)) at_226 rfl (by decide) ?_
         refine A.callS (q := 230) (w1 := 39) (w2 := 40) (w3 := 41) (w4 := 42) (as := [(.ref b73), (.int (0 : Int32)), (.int j53), (.int (-1 : Int32))]) (st := []) (W := 0) at_227 rfl rfl rfl rfl rfl (rm5_1 l Z a0 hw n0 b73 j53 _ z_j53) (by decide) ⟨_, _, pd_3, rfl⟩ rfl rfl rfl (by decide) (by decide) (by decide) (by decide) ?_
         rintro _ T _ ⟨rfl, rfl⟩ A
         show Go p e below _ (T.setTop (mkF m 230 #[.val (.int a), .val (.int b), .val (.int fl), .val (.int (0 : Int32)), .val (.int (2 : Int32)), .val (.int j53), .val (.int j57), .val (.ref b59), .val (.int (1 : Int32)), .val (.int (0 : Int32)), .val (.int j53), .val (.int (1 : Int32))] [(.int (1 : Int32))]))
         refine A.ifF (q := 233) at_230 rfl (by decide) ?_
         refine A.iconst (q := 234) (v := (1 : Int32)) at_233 rfl (by decide) ?_
         refine A.goto (r := 238) at_234 (by decide) ?_
         refine A.istore (q := 240) (l' := #[.val (.int a), .val (.int b), .val (.int fl), .val (.int (0 : Int32)), .val (.int (2 : Int32)), .val (.int j53), .val (.int j57), .val (.ref b59), .val (.int (1 : Int32)), .val (.int (0 : Int32)), .val (.int j53), .val (.int (1 : Int32))]) at_238 rfl rfl ?_
         refine A.iload (q := 242) at_240 rfl rfl ?_
         exact A.retZ (v := 1) at_242 (by decide) (by decide) (by decide) rfl
        refine A.iload (q := 53) at_51 rfl rfl ?_
        refine A.if_eq (q := 56) (r := 72) at_53 rfl (by decide) (fun h64 => ?_) (fun h64 => ?_)
        · exact J51_69 T _ _ (by simp only [if_pos h64]) (by simp only [if_pos h64]) A
        · refine A.aload (q := 58) at_56 rfl rfl rfl ?_
          refine A.iloadN (q := 59) at_58 rfl rfl ?_
          have J59_66 : ∀ (T : State) (j66 : Int32), j66 = (if j53 = (0 : Int32) then (1 : Int32) else (0 : Int32)) → Here p l e room_1 s m ([(.int a), (.int b), (.int fl)] : List Value).toArray below meth c Z a0 tables_1 x.cls x.name code 12 (some .boolean) n0 T [(b60, .inr (.boolean, [(.int (0 : Int32)), (.int (0 : Int32)), (.int (0 : Int32))])), (b61, .inr (.boolean, [(.int (0 : Int32)), (.int (0 : Int32)), (.int (0 : Int32))])), (b62, .inr (.int, [(.int (0 : Int32)), (.int (0 : Int32)), (.int (0 : Int32))])), (b63, .inr (.boolean, [(.int (0 : Int32)), (.int (0 : Int32)), (.int (0 : Int32))])), (b59, ob0 (.ref b63) (.ref b62) (.ref b61) (.ref b60) (.int (0 : Int32)))] 5 18 → Go p e below (EndS below s n0 Z 24 128 (fun v _ => v = some (.int 1))) (T.setTop (mkF m 69 #[.val (.int a), .val (.int b), .val (.int fl), .val (.int (0 : Int32)), .val (.int (2 : Int32)), .val (.int j53), .val (.int j57), .val (.ref b59), .unset, .unset, .unset, .unset] [(.int j66), (.int (0 : Int32)), (.ref b59)])) := by
           intro T j66 ej66 A
           have z_j66 : nar .boolean j66 = j66 := by rw [ej66]; (repeat' split) <;> first | decide | assumption
           have A := A.front (i := 1) rfl rfl
           have A := A.front (i := 2) rfl rfl
           have A := A.front (i := 3) rfl rfl
           have A := A.front (i := 4) (L' := [(b59, ob0 (.ref b63) (.ref b62) (.ref b61) (.ref b60) (.int (0 : Int32))), (b63, .inr (.boolean, [(.int (0 : Int32)), (.int (0 : Int32)), (.int (0 : Int32))])), (b62, .inr (.int, [(.int (0 : Int32)), (.int (0 : Int32)), (.int (0 : Int32))])), (b61, .inr (.boolean, [(.int (0 : Int32)), (.int (0 : Int32)), (.int (0 : Int32))])), (b60, .inr (.boolean, [(.int (0 : Int32)), (.int (0 : Int32)), (.int (0 : Int32))]))]) rfl rfl
           refine A.callV (q := 72) (i := 0) (w1 := 20) (w2 := 21) (w3 := 3) (w4 := 24) (w5 := 23) (w6 := 22) (a := b59) (as := [(.int (0 : Int32)), (.int j66)]) (st := []) (W := 0) at_69 rfl rfl rfl rfl rfl rfl rfl rfl (rm3_1 l Z a0 hw n0 b59 j66 b63 b62 b61 b60 _ z_j66) (by decide) ⟨_, _, pd_1, rfl⟩ rfl rfl rfl (by decide) (by decide) (by decide) (by decide) ?_
           rintro _ T _ ⟨rfl, rfl⟩ A
           show Go p e below _ (T.setTop (mkF m 72 #[.val (.int a), .val (.int b), .val (.int fl), .val (.int (0 : Int32)), .val (.int (2 : Int32)), .val (.int j53), .val (.int j57), .val (.ref b59), .unset, .unset, .unset, .unset] []))
           have A := A.front (i := 1) rfl rfl
           have A := A.front (i := 2) rfl rfl
           have A := A.front (i := 3) rfl rfl
           have A := A.front (i := 4) (L' := [(b60, .inr (.boolean, [(.int (1 : Int32)), (.int (0 : Int32)), (.int (0 : Int32))])), (b61, .inr (.boolean, [(.int (0 : Int32)), (.int (0 : Int32)), (.int (0 : Int32))])), (b62, .inr (.int, [(.int (0 : Int32)), (.int (0 : Int32)), (.int (0 : Int32))])), (b63, .inr (.boolean, [(.int j66), (.int (0 : Int32)), (.int (0 : Int32))])), (b59, ob0 (.ref b63) (.ref b62) (.ref b61) (.ref b60) (.int (0 : Int32)))]) rfl rfl
           exact J51_69 T _ _ (by simp only [ej66, if_neg h64]) (by simp only [ej66, if_neg h64]) A
          refine A.iload (q := 61) at_59 rfl rfl ?_
          refine A.if_ne (q := 64) (r := 68) at_61 rfl (by decide) (fun h65 => ?_) (fun h65 => ?_)
          · refine A.iconst (q := 69) (v := (0 : Int32)) at_68 rfl (by decide) ?_
            exact J59_66 T _ (by simp only [if_neg h65]) A
          · refine A.iconst (q := 65) (v := (1 : Int32)) at_64 rfl (by decide) ?_
            refine A.goto (r := 69) at_65 (by decide) ?_
            exact J59_66 T _ (by simp only [if_pos h65]) A
       refine A.iloadN (q := 29) at_28 rfl rfl ?_
       refine A.iconst (q := 30) (v := (2 : Int32)) at_29 rfl (by decide) ?_
       obtain ⟨v55, e55⟩ : ∃ v : Int32, fl &&& (2 : Int32) = v := ⟨_, rfl⟩
       refine A.iand (q := 31) at_30 rfl e55 ?_
       refine A.if_eq (q := 34) (r := 38) at_31 rfl (by decide) (fun h56 => ?_) (fun h56 => ?_)
       · refine A.iconst (q := 39) (v := (0 : Int32)) at_38 rfl (by decide) ?_
         exact J28_57 T _ (by simp only [e55, if_pos h56]) A
       · refine A.iconst (q := 35) (v := (1 : Int32)) at_34 rfl (by decide) ?_
         refine A.goto (r := 39) at_35 (by decide) ?_
         exact J28_57 T _ (by simp only [e55, if_neg h56]) A
      refine A.iloadN (q := 16) at_15 rfl rfl ?_
      refine A.iconst (q := 17) (v := (1 : Int32)) at_16 rfl (by decide) ?_
      obtain ⟨v51, e51⟩ : ∃ v : Int32, fl &&& (1 : Int32) = v := ⟨_, rfl⟩
      refine A.iand (q := 18) at_17 rfl e51 ?_
      refine A.if_eq (q := 21) (r := 25) at_18 rfl (by decide) (fun h52 => ?_) (fun h52 => ?_)
      · refine A.iconst (q := 26) (v := (0 : Int32)) at_25 rfl (by decide) ?_
        exact J15_53 T _ (by simp only [e51, if_pos h52]) A
      · refine A.iconst (q := 22) (v := (1 : Int32)) at_21 rfl (by decide) ?_
        refine A.goto (r := 26) at_22 (by decide) ?_
        exact J15_53 T _ (by simp only [e51, if_neg h52]) A
  · refine A.iloadN (q := 8) at_7 rfl rfl ?_
    refine A.ldc (q := 10) (v := (2147483647 : Int32)) (w := 0) at_8 rfl rfl ?_
    obtain ⟨v74, e74⟩ : ∃ v : Int32, b &&& (2147483647 : Int32) = v := ⟨_, rfl⟩
    refine A.iand (q := 11) at_10 rfl e74 ?_
    refine A.iconst (q := 12) (v := (3 : Int32)) at_11 rfl (by decide) ?_
    obtain ⟨v75, e75⟩ : ∃ v : Int32, v74 % (3 : Int32) = v := ⟨_, rfl⟩
    refine A.irem (q := 13) at_12 rfl (by decide) e75 ?_
    refine A.istore (q := 15) (l' := #[.val (.int a), .val (.int b), .val (.int fl), .val (.int (1 : Int32)), .val (.int v75), .unset, .unset, .unset, .unset, .unset, .unset, .unset]) at_13 rfl rfl ?_
    have hn : v75 = 0 ∨ v75 = 1 ∨ v75 = 2 := by subst e1 e74 e75; exact own_mod3 _
    rcases hn with rfl | rfl | rfl
    · have J15_78 : ∀ (T : State) (j78 : Int32), j78 = (if (fl &&& (1 : Int32)) = (0 : Int32) then (0 : Int32) else (1 : Int32)) → Here p l e room_1 s m ([(.int a), (.int b), (.int fl)] : List Value).toArray below meth c Z a0 tables_1 x.cls x.name code 12 (some .boolean) n0 T [] 0 0 → Go p e below (EndS below s n0 Z 24 128 (fun v _ => v = some (.int 1))) (T.setTop (mkF m 26 #[.val (.int a), .val (.int b), .val (.int fl), .val (.int (1 : Int32)), .val (.int (0 : Int32)), .unset, .unset, .unset, .unset, .unset, .unset, .unset] [(.int j78)])) := by
       intro T j78 ej78 A
       have z_j78 : nar .boolean j78 = j78 := by rw [ej78]; (repeat' split) <;> first | decide | assumption
       refine A.istore (q := 28) (l' := #[.val (.int a), .val (.int b), .val (.int fl), .val (.int (1 : Int32)), .val (.int (0 : Int32)), .val (.int j78), .unset, .unset, .unset, .unset, .unset, .unset]) at_26 rfl rfl ?_
       have J28_82 : ∀ (T : State) (j82 : Int32), j82 = (if (fl &&& (2 : Int32)) = (0 : Int32) then (0 : Int32) else (1 : Int32)) → Here p l e room_1 s m ([(.int a), (.int b), (.int fl)] : List Value).toArray below meth c Z a0 tables_1 x.cls x.name code 12 (some .boolean) n0 T [] 0 0 → Go p e below (EndS below s n0 Z 24 128 (fun v _ => v = some (.int 1))) (T.setTop (mkF m 39 #[.val (.int a), .val (.int b), .val (.int fl), .val (.int (1 : Int32)), .val (.int (0 : Int32)), .val (.int j78), .unset, .unset, .unset, .unset, .unset, .unset] [(.int j82)])) := by
        intro T j82 ej82 A
        have z_j82 : nar .boolean j82 = j82 := by rw [ej82]; (repeat' split) <;> first | decide | assumption
        refine A.istore (q := 41) (l' := #[.val (.int a), .val (.int b), .val (.int fl), .val (.int (1 : Int32)), .val (.int (0 : Int32)), .val (.int j78), .val (.int j82), .unset, .unset, .unset, .unset, .unset]) at_39 rfl rfl ?_
        refine A.newO (q := 44) (w1 := 1) (w2 := 2) (w3 := 3) (n := 6) (fs := [(("com/example/proof_of_scan/proofofscan/Choices", "values", "[Z"), .null), (("com/example/proof_of_scan/proofofscan/Choices", "taken", "[I"), .null), (("com/example/proof_of_scan/proofofscan/Choices", "isTaken", "[Z"), .null), (("com/example/proof_of_scan/proofofscan/Choices", "isHeld", "[Z"), .null), (("com/example/proof_of_scan/proofofscan/Choices", "takenCount", "I"), (.int (0 : Int32)))]) at_41 rfl rfl rfl rfl (lay_0 Z a0 hw) (by decide) (by decide) (by decide) ?_
        intro T b84 A
        refine A.dup (q := 45) at_44 rfl rfl ?_
        refine A.iconst (q := 46) (v := (3 : Int32)) at_45 rfl (by decide) ?_
        refine A.callI (q := 49) (w1 := 4) (w2 := 5) (w3 := 3) (w4 := 6) (a := b84) (as := [(.int (3 : Int32))]) (st := [(.ref b84)]) (W := 1) at_46 rfl rfl rfl rfl rfl rfl (rm1_1 l Z a0 hw n0 b84 _) (by decide) ⟨_, _, pd_0, rfl⟩ rfl rfl rfl (by decide) (by decide) (by decide) (by decide) ?_
        rintro _ T _ ⟨b85, b86, b87, b88, rfl, rfl⟩ A
        show Go p e below _ (T.setTop (mkF m 49 #[.val (.int a), .val (.int b), .val (.int fl), .val (.int (1 : Int32)), .val (.int (0 : Int32)), .val (.int j78), .val (.int j82), .unset, .unset, .unset, .unset, .unset] [(.ref b84)]))
        refine A.astore (q := 51) (l' := #[.val (.int a), .val (.int b), .val (.int fl), .val (.int (1 : Int32)), .val (.int (0 : Int32)), .val (.int j78), .val (.int j82), .val (.ref b84), .unset, .unset, .unset, .unset]) at_49 rfl rfl rfl ?_
        have J51_94 : ∀ (T : State) (j93 : Int32) (j94 : Int32), j93 = (if j82 = (0 : Int32) then (0 : Int32) else (1 : Int32)) → j94 = (if j82 = (0 : Int32) then (0 : Int32) else ((if j78 = (0 : Int32) then (1 : Int32) else (0 : Int32)))) → Here p l e room_1 s m ([(.int a), (.int b), (.int fl)] : List Value).toArray below meth c Z a0 tables_1 x.cls x.name code 12 (some .boolean) n0 T [(b85, .inr (.boolean, [(.int (0 : Int32)), (.int j93), (.int (0 : Int32))])), (b86, .inr (.boolean, [(.int (0 : Int32)), (.int (0 : Int32)), (.int (0 : Int32))])), (b87, .inr (.int, [(.int (0 : Int32)), (.int (0 : Int32)), (.int (0 : Int32))])), (b88, .inr (.boolean, [(.int (0 : Int32)), (.int j94), (.int (0 : Int32))])), (b84, ob0 (.ref b88) (.ref b87) (.ref b86) (.ref b85) (.int (0 : Int32)))] 5 18 → Go p e below (EndS below s n0 Z 24 128 (fun v _ => v = some (.int 1))) (T.setTop (mkF m 72 #[.val (.int a), .val (.int b), .val (.int fl), .val (.int (1 : Int32)), .val (.int (0 : Int32)), .val (.int j78), .val (.int j82), .val (.ref b84), .unset, .unset, .unset, .unset] [])) := by
         intro T j93 j94 ej93 ej94 A
         have z_j93 : nar .boolean j93 = j93 := by rw [ej93]; (repeat' split) <;> first | decide | assumption
         have z_j94 : nar .boolean j94 = j94 := by rw [ej94]; (repeat' split) <;> first | decide | assumption
         refine A.aload (q := 74) at_72 rfl rfl rfl ?_
         refine A.iloadN (q := 75) at_74 rfl rfl ?_
         refine A.iload (q := 77) at_75 rfl rfl ?_
         have A := A.front (i := 1) rfl rfl
         have A := A.front (i := 2) rfl rfl
         have A := A.front (i := 3) rfl rfl
         have A := A.front (i := 4) (L' := [(b84, ob0 (.ref b88) (.ref b87) (.ref b86) (.ref b85) (.int (0 : Int32))), (b88, .inr (.boolean, [(.int (0 : Int32)), (.int j94), (.int (0 : Int32))])), (b87, .inr (.int, [(.int (0 : Int32)), (.int (0 : Int32)), (.int (0 : Int32))])), (b86, .inr (.boolean, [(.int (0 : Int32)), (.int (0 : Int32)), (.int (0 : Int32))])), (b85, .inr (.boolean, [(.int (0 : Int32)), (.int j93), (.int (0 : Int32))]))]) rfl rfl
         refine A.callV (q := 80) (i := 0) (w1 := 20) (w2 := 21) (w3 := 3) (w4 := 24) (w5 := 23) (w6 := 22) (a := b84) (as := [(.int (1 : Int32)), (.int j78)]) (st := []) (W := 0) at_77 rfl rfl rfl rfl rfl rfl rfl rfl (rm3_4 l Z a0 hw n0 b84 j78 b88 b87 b86 b85 j94 j93 _ z_j78 z_j94 z_j93) (by decide) ⟨_, _, pd_1, rfl⟩ rfl rfl rfl (by decide) (by decide) (by decide) (by decide) ?_
         rintro _ T _ ⟨rfl, rfl⟩ A
         show Go p e below _ (T.setTop (mkF m 80 #[.val (.int a), .val (.int b), .val (.int fl), .val (.int (1 : Int32)), .val (.int (0 : Int32)), .val (.int j78), .val (.int j82), .val (.ref b84), .unset, .unset, .unset, .unset] []))
         refine A.aload (q := 82) at_80 rfl rfl rfl ?_
         refine A.callV (q := 85) (i := 0) (w1 := 25) (w2 := 26) (w3 := 3) (w4 := 29) (w5 := 28) (w6 := 27) (a := b84) (as := []) (st := []) (W := 0) at_82 rfl rfl rfl rfl rfl rfl rfl rfl (rm4_6 l Z a0 hw n0 b84 b88 b87 b86 b85 j78 _ z_j78) (by decide) ⟨_, _, pd_2, rfl⟩ rfl rfl rfl (by decide) (by decide) (by decide) (by decide) ?_
         rintro _ T _ ⟨b96, rfl, rfl⟩ A
         show Go p e below _ (T.setTop (mkF m 85 #[.val (.int a), .val (.int b), .val (.int fl), .val (.int (1 : Int32)), .val (.int (0 : Int32)), .val (.int j78), .val (.int j82), .val (.ref b84), .unset, .unset, .unset, .unset] [(.ref b96)]))
         refine A.iloadN (q := 86) at_85 rfl rfl ?_
         refine A.iload (q := 88) at_86 rfl rfl ?_
         refine A.iconst (q := 89) (v := (-1 : Int32)) at_88 rfl (by decide) ?_
         refine A.callS (q := 92) (w1 := 39) (w2 := 40) (w3 := 41) (w4 := 42) (as := [(.ref b96), (.int (1 : Int32)), (.int j78), (.int (-1 : Int32))]) (st := []) (W := 0) at_89 rfl rfl rfl rfl rfl (rm5_4 l Z a0 hw n0 b96 j78 _ z_j78) (by decide) ⟨_, _, pd_3, rfl⟩ rfl rfl rfl (by decide) (by decide) (by decide) (by decide) ?_
         rintro _ T _ ⟨rfl, rfl⟩ A
         show Go p e below _ (T.setTop (mkF m 92 #[.val (.int a), .val (.int b), .val (.int fl), .val (.int (1 : Int32)), .val (.int (0 : Int32)), .val (.int j78), .val (.int j82), .val (.ref b84), .unset, .unset, .unset, .unset] [(.int (1 : Int32))]))
         refine A.istore (q := 94) (l' := #[.val (.int a), .val (.int b), .val (.int fl), .val (.int (1 : Int32)), .val (.int (0 : Int32)), .val (.int j78), .val (.int j82), .val (.ref b84), .val (.int (1 : Int32)), .unset, .unset, .unset]) at_92 rfl rfl ?_
         refine A.aload (q := 96) at_94 rfl rfl rfl ?_
         refine A.iload (q := 98) at_96 rfl rfl ?_
         have A := A.front (i := 5) rfl rfl
         have A := A.front (i := 5) rfl rfl
         have A := A.front (i := 5) rfl rfl
         have A := A.front (i := 5) rfl rfl
         have A := A.front (i := 5) (L' := [(b84, ob0 (.ref b88) (.ref b87) (.ref b86) (.ref b85) (.int (0 : Int32))), (b88, .inr (.boolean, [(.int (0 : Int32)), (.int j78), (.int (0 : Int32))])), (b87, .inr (.int, [(.int (0 : Int32)), (.int (0 : Int32)), (.int (0 : Int32))])), (b86, .inr (.boolean, [(.int (0 : Int32)), (.int (0 : Int32)), (.int (0 : Int32))])), (b85, .inr (.boolean, [(.int (0 : Int32)), (.int (1 : Int32)), (.int (0 : Int32))])), (b96, .inr (.boolean, [(.int (0 : Int32)), (.int j78), (.int (0 : Int32))]))]) rfl rfl
         refine A.callV (q := 101) (i := 0) (w1 := 43) (w2 := 44) (w3 := 3) (w4 := 47) (w5 := 46) (w6 := 45) (a := b84) (as := [(.int (0 : Int32))]) (st := []) (W := 0) at_98 rfl rfl rfl rfl rfl rfl rfl rfl (rm6_6 l Z a0 hw n0 b84 b88 b87 b86 b85 j78 _ z_j78) (by decide) ⟨_, _, pd_4, rfl⟩ rfl rfl rfl (by decide) (by decide) (by decide) (by decide) ?_
         rintro _ T _ ⟨rfl, rfl⟩ A
         show Go p e below _ (T.setTop (mkF m 101 #[.val (.int a), .val (.int b), .val (.int fl), .val (.int (1 : Int32)), .val (.int (0 : Int32)), .val (.int j78), .val (.int j82), .val (.ref b84), .val (.int (1 : Int32)), .unset, .unset, .unset] [(.int (0 : Int32))]))
         refine A.istore (q := 103) (l' := #[.val (.int a), .val (.int b), .val (.int fl), .val (.int (1 : Int32)), .val (.int (0 : Int32)), .val (.int j78), .val (.int j82), .val (.ref b84), .val (.int (1 : Int32)), .val (.int (0 : Int32)), .unset, .unset]) at_101 rfl rfl ?_
         refine A.aload (q := 105) at_103 rfl rfl rfl ?_
         refine A.iloadN (q := 106) at_105 rfl rfl ?_
         refine A.callV (q := 109) (i := 0) (w1 := 43) (w2 := 44) (w3 := 3) (w4 := 47) (w5 := 46) (w6 := 45) (a := b84) (as := [(.int (1 : Int32))]) (st := []) (W := 0) at_106 rfl rfl rfl rfl rfl rfl rfl rfl (rm6_7 l Z a0 hw n0 b84 b88 b87 b86 b85 j78 _ z_j78) (by decide) ⟨_, _, pd_4, rfl⟩ rfl rfl rfl (by decide) (by decide) (by decide) (by decide) ?_
         rintro _ T _ ⟨rfl, rfl⟩ A
         show Go p e below _ (T.setTop (mkF m 109 #[.val (.int a), .val (.int b), .val (.int fl), .val (.int (1 : Int32)), .val (.int (0 : Int32)), .val (.int j78), .val (.int j82), .val (.ref b84), .val (.int (1 : Int32)), .val (.int (0 : Int32)), .unset, .unset] [(.int j78)]))
         refine A.istore (q := 111) (l' := #[.val (.int a), .val (.int b), .val (.int fl), .val (.int (1 : Int32)), .val (.int (0 : Int32)), .val (.int j78), .val (.int j82), .val (.ref b84), .val (.int (1 : Int32)), .val (.int (0 : Int32)), .val (.int j78), .unset]) at_109 rfl rfl ?_
         refine A.iload (q := 113) at_111 rfl rfl ?_
         refine A.ifF (q := 116) at_113 rfl (by decide) ?_
         refine A.iload (q := 118) at_116 rfl rfl ?_
         refine A.iload (q := 120) at_118 rfl rfl ?_
         refine A.icmpF (q := 123) at_120 rfl (teq rfl).2 ?_
         refine A.iload (q := 125) at_123 rfl rfl ?_
         refine A.iload (q := 127) at_125 rfl rfl ?_
         refine A.iloadN (q := 128) at_127 rfl rfl ?_
         refine A.icmpT (r := 136) at_128 (by decide) (by decide) ?_
         refine A.iconst (q := 137) (v := (0 : Int32)) at_136 rfl (by decide) ?_
         refine A.icmpF (q := 140) at_137 rfl (by decide) ?_
         refine A.iconst (q := 141) (v := (1 : Int32)) at_140 rfl (by decide) ?_
         refine A.goto (r := 145) at_141 (by decide) ?_
         refine A.istore (q := 147) (l' := #[.val (.int a), .val (.int b), .val (.int fl), .val (.int (1 : Int32)), .val (.int (0 : Int32)), .val (.int j78), .val (.int j82), .val (.ref b84), .val (.int (1 : Int32)), .val (.int (0 : Int32)), .val (.int j78), .unset]) at_145 rfl rfl ?_
         refine A.aload (q := 149) at_147 rfl rfl rfl ?_
         refine A.callV (q := 152) (i := 0) (w1 := 48) (w2 := 49) (w3 := 3) (w4 := 52) (w5 := 51) (w6 := 50) (a := b84) (as := []) (st := []) (W := 0) at_149 rfl rfl rfl rfl rfl rfl rfl rfl (rm7_4 l Z a0 hw n0 b84 b88 b87 b86 b85 j78 _ z_j78) (by decide) ⟨_, _, pd_5, rfl⟩ rfl rfl rfl (by decide) (by decide) (by decide) (by decide) ?_
         rintro _ T _ ⟨rfl, rfl⟩ A
         show Go p e below _ (T.setTop (mkF m 152 #[.val (.int a), .val (.int b), .val (.int fl), .val (.int (1 : Int32)), .val (.int (0 : Int32)), .val (.int j78), .val (.int j82), .val (.ref b84), .val (.int (1 : Int32)), .val (.int (0 : Int32)), .val (.int j78), .unset] [(.int (1 : Int32))]))
         refine A.istore (q := 154) (l' := #[.val (.int a), .val (.int b), .val (.int fl), .val (.int (1 : Int32)), .val (.int (0 : Int32)), .val (.int j78), .val (.int j82), .val (.ref b84), .val (.int (1 : Int32)), .val (.int (0 : Int32)), .val (.int j78), .val (.int (1 : Int32))]) at_152 rfl rfl ?_
         refine A.iload (q := 156) at_154 rfl rfl ?_
         refine A.ifF (q := 159) at_156 rfl (by decide) ?_
         refine A.iload (q := 161) at_159 rfl rfl ?_
         refine A.iload (q := 163) at_161 rfl rfl ?_
         refine A.iloadN (q := 164) at_163 rfl rfl ?_
         refine A.icmpF (q := 167) at_164 rfl (by decide) ?_
         refine A.iconst (q := 168) (v := (1 : Int32)) at_167 rfl (by decide) ?_
         refine A.goto (r := 172) at_168 (by decide) ?_
         refine A.icmpF (q := 175) at_172 rfl (by decide) ?_
         refine A.aload (q := 177) at_175 rfl rfl rfl ?_
         refine A.callV (q := 180) (i := 0) (w1 := 25) (w2 := 26) (w3 := 3) (w4 := 29) (w5 := 28) (w6 := 27) (a := b84) (as := []) (st := []) (W := 0) at_177 rfl rfl rfl rfl rfl rfl rfl rfl (rm4_7 l Z a0 hw n0 b84 b88 b87 b86 b85 j78 _ z_j78) (by decide) ⟨_, _, pd_2, rfl⟩ rfl rfl rfl (by decide) (by decide) (by decide) (by decide) ?_
         rintro _ T _ ⟨b97, rfl, rfl⟩ A
         show Go p e below _ (T.setTop (mkF m 180 #[.val (.int a), .val (.int b), .val (.int fl), .val (.int (1 : Int32)), .val (.int (0 : Int32)), .val (.int j78), .val (.int j82), .val (.ref b84), .val (.int (1 : Int32)), .val (.int (0 : Int32)), .val (.int j78), .val (.int (1 : Int32))] [(.ref b97)]))
         refine A.iloadN (q := 181) at_180 rfl rfl ?_
         refine A.iload (q := 183) at_181 rfl rfl ?_
         refine A.iload (q := 185) at_183 rfl rfl ?_
         refine A.iloadN (q := 186) at_185 rfl rfl ?_
         refine A.icmpF (q := 189) at_186 rfl (by decide) ?_
         refine A.iload (q := 191) at_189 rfl rfl ?_
         refine A.goto (r := 195) at_191 (by decide) ?_
         refine A.callS (q := 198) (w1 := 39) (w2 := 40) (w3 := 41) (w4 := 42) (as := [(.ref b97), (.int (1 : Int32)), (.int j78), (.int (0 : Int32))]) (st := []) (W := 0) at_195 rfl rfl rfl rfl rfl (rm5_5 l Z a0 hw n0 b97 j78 _ z_j78) (by decide) ⟨_, _, pd_3, rfl⟩ rfl rfl rfl (by decide) (by decide) (by decide) (by decide) ?_
         rintro _ T _ ⟨rfl, rfl⟩ A
         show Go p e below _ (T.setTop (mkF m 198 #[.val (.int a), .val (.int b), .val (.int fl), .val (.int (1 : Int32)), .val (.int (0 : Int32)), .val (.int j78), .val (.int j82), .val (.ref b84), .val (.int (1 : Int32)), .val (.int (0 : Int32)), .val (.int j78), .val (.int (1 : Int32))] [(.int (1 : Int32))]))
         refine A.ifF (q := 201) at_198 rfl (by decide) ?_
         refine A.iconst (q := 202) (v := (1 : Int32)) at_201 rfl (by decide) ?_
         refine A.goto (r := 206) at_202 (by decide) ?_
         refine A.istore (q := 208) (l' := #[.val (.int a), .val (.int b), .val (.int fl), .val (.int (1 : Int32)), .val (.int (0 : Int32)), .val (.int j78), .val (.int j82), .val (.ref b84), .val (.int (1 : Int32)), .val (.int (0 : Int32)), .val (.int j78), .val (.int (1 : Int32))]) at_206 rfl rfl ?_
         refine A.aload (q := 210) at_208 rfl rfl rfl ?_
         have A := A.front (i := 5) rfl rfl
         have A := A.front (i := 5) rfl rfl
         have A := A.front (i := 5) rfl rfl
         have A := A.front (i := 5) rfl rfl
         have A := A.front (i := 5) (L' := [(b84, ob0 (.ref b88) (.ref b87) (.ref b86) (.ref b85) (.int (0 : Int32))), (b88, .inr (.boolean, [(.int (1 : Int32)), (.int j78), (.int (0 : Int32))])), (b87, .inr (.int, [(.int (0 : Int32)), (.int (0 : Int32)), (.int (0 : Int32))])), (b86, .inr (.boolean, [(.int (0 : Int32)), (.int (0 : Int32)), (.int (0 : Int32))])), (b85, .inr (.boolean, [(.int (0 : Int32)), (.int (1 : Int32)), (.int (0 : Int32))])), (b97, .inr (.boolean, [(.int (1 : Int32)), (.int j78), (.int (0 : Int32))])), (b96, .inr (.boolean, [(.int (0 : Int32)), (.int j78), (.int (0 : Int32))]))]) rfl rfl
         refine A.callV (q := 213) (i := 0) (w1 := 55) (w2 := 56) (w3 := 3) (w4 := 59) (w5 := 58) (w6 := 57) (a := b84) (as := []) (st := []) (W := 0) at_210 rfl rfl rfl rfl rfl rfl rfl rfl (rm8_4 l Z a0 hw n0 b84 b88 b87 b86 b85 j78 _ z_j78) (by decide) ⟨_, _, pd_6, rfl⟩ rfl rfl rfl (by decide) (by decide) (by decide) (by decide) ?_
         rintro _ T _ ⟨rfl, rfl⟩ A
         show Go p e below _ (T.setTop (mkF m 213 #[.val (.int a), .val (.int b), .val (.int fl), .val (.int (1 : Int32)), .val (.int (0 : Int32)), .val (.int j78), .val (.int j82), .val (.ref b84), .val (.int (1 : Int32)), .val (.int (0 : Int32)), .val (.int j78), .val (.int (1 : Int32))] []))
         refine A.iload (q := 215) at_213 rfl rfl ?_
         refine A.ifF (q := 218) at_215 rfl (by decide) ?_
         refine A.aload (q := 220) at_218 rfl rfl rfl ?_
         refine A.callV (q := 223) (i := 0) (w1 := 25) (w2 := 26) (w3 := 3) (w4 := 29) (w5 := 28) (w6 := 27) (a := b84) (as := []) (st := []) (W := 0) at_220 rfl rfl rfl rfl rfl rfl rfl rfl (rm4_6 l Z a0 hw n0 b84 b88 b87 b86 b85 j78 _ z_j78) (by decide) ⟨_, _, pd_2, rfl⟩ rfl rfl rfl (by decide) (by decide) (by decide) (by decide) ?_
         rintro _ T _ ⟨b98, rfl, rfl⟩ A
         show Go p e below _ (T.setTop (mkF m 223 #[.val (.int a), .val (.int b), .val (.int fl), .val (.int (1 : Int32)), .val (.int (0 : Int32)), .val (.int j78), .val (.int j82), .val (.ref b84), .val (.int (1 : Int32)), .val (.int (0 : Int32)), .val (.int j78), .val (.int (1 : Int32))] [(.ref b98)]))
         refine A.iloadN (q := 224) at_223 rfl rfl ?_
         refine A.iload (q := 226) at_224 rfl rfl ?_
         refine A.iconst (q := 227) (v := (-1 : Int32)) at_226 rfl (by decide) ?_
         refine A.callS (q := 230) (w1 := 39) (w2 := 40) (w3 := 41) (w4 := 42) (as := [(.ref b98), (.int (1 : Int32)), (.int j78), (.int (-1 : Int32))]) (st := []) (W := 0) at_227 rfl rfl rfl rfl rfl (rm5_4 l Z a0 hw n0 b98 j78 _ z_j78) (by decide) ⟨_, _, pd_3, rfl⟩ rfl rfl rfl (by decide) (by decide) (by decide) (by decide) ?_
         rintro _ T _ ⟨rfl, rfl⟩ A
         show Go p e below _ (T.setTop (mkF m 230 #[.val (.int a), .val (.int b), .val (.int fl), .val (.int (1 : Int32)), .val (.int (0 : Int32)), .val (.int j78), .val (.int j82), .val (.ref b84), .val (.int (1 : Int32)), .val (.int (0 : Int32)), .val (.int j78), .val (.int (1 : Int32))] [(.int (1 : Int32))]))
         refine A.ifF (q := 233) at_230 rfl (by decide) ?_
         refine A.iconst (q := 234) (v := (1 : Int32)) at_233 rfl (by decide) ?_
         refine A.goto (r := 238) at_234 (by decide) ?_
         refine A.istore (q := 240) (l' := #[.val (.int a), .val (.int b), .val (.int fl), .val (.int (1 : Int32)), .val (.int (0 : Int32)), .val (.int j78), .val (.int j82), .val (.ref b84), .val (.int (1 : Int32)), .val (.int (0 : Int32)), .val (.int j78), .val (.int (1 : Int32))]) at_238 rfl rfl ?_
         refine A.iload (q := 242) at_240 rfl rfl ?_
         exact A.retZ (v := 1) at_242 (by decide) (by decide) (by decide) rfl
        refine A.iload (q := 53) at_51 rfl rfl ?_
        refine A.if_eq (q := 56) (r := 72) at_53 rfl (by decide) (fun h89 => ?_) (fun h89 => ?_)
        · exact J51_94 T _ _ (by simp only [if_pos h89]) (by simp only [if_pos h89]) A
        · refine A.aload (q := 58) at_56 rfl rfl rfl ?_
          refine A.iloadN (q := 59) at_58 rfl rfl ?_
          have J59_91 : ∀ (T : State) (j91 : Int32), j91 = (if j78 = (0 : Int32) then (1 : Int32) else (0 : Int32)) → Here p l e room_1 s m ([(.int a), (.int b), (.int fl)] : List Value).toArray below meth c Z a0 tables_1 x.cls x.name code 12 (some .boolean) n0 T [(b85, .inr (.boolean, [(.int (0 : Int32)), (.int (0 : Int32)), (.int (0 : Int32))])), (b86, .inr (.boolean, [(.int (0 : Int32)), (.int (0 : Int32)), (.int (0 : Int32))])), (b87, .inr (.int, [(.int (0 : Int32)), (.int (0 : Int32)), (.int (0 : Int32))])), (b88, .inr (.boolean, [(.int (0 : Int32)), (.int (0 : Int32)), (.int (0 : Int32))])), (b84, ob0 (.ref b88) (.ref b87) (.ref b86) (.ref b85) (.int (0 : Int32)))] 5 18 → Go p e below (EndS below s n0 Z 24 128 (fun v _ => v = some (.int 1))) (T.setTop (mkF m 69 #[.val (.int a), .val (.int b), .val (.int fl), .val (.int (1 : Int32)), .val (.int (0 : Int32)), .val (.int j78), .val (.int j82), .val (.ref b84), .unset, .unset, .unset, .unset] [(.int j91), (.int (1 : Int32)), (.ref b84)])) := by
           intro T j91 ej91 A
           have z_j91 : nar .boolean j91 = j91 := by rw [ej91]; (repeat' split) <;> first | decide | assumption
           have A := A.front (i := 1) rfl rfl
           have A := A.front (i := 2) rfl rfl
           have A := A.front (i := 3) rfl rfl
           have A := A.front (i := 4) (L' := [(b84, ob0 (.ref b88) (.ref b87) (.ref b86) (.ref b85) (.int (0 : Int32))), (b88, .inr (.boolean, [(.int (0 : Int32)), (.int (0 : Int32)), (.int (0 : Int32))])), (b87, .inr (.int, [(.int (0 : Int32)), (.int (0 : Int32)), (.int (0 : Int32))])), (b86, .inr (.boolean, [(.int (0 : Int32)), (.int (0 : Int32)), (.int (0 : Int32))])), (b85, .inr (.boolean, [(.int (0 : Int32)), (.int (0 : Int32)), (.int (0 : Int32))]))]) rfl rfl
           refine A.callV (q := 72) (i := 0) (w1 := 20) (w2 := 21) (w3 := 3) (w4 := 24) (w5 := 23) (w6 := 22) (a := b84) (as := [(.int (1 : Int32)), (.int j91)]) (st := []) (W := 0) at_69 rfl rfl rfl rfl rfl rfl rfl rfl (rm3_3 l Z a0 hw n0 b84 j91 b88 b87 b86 b85 _ z_j91) (by decide) ⟨_, _, pd_1, rfl⟩ rfl rfl rfl (by decide) (by decide) (by decide) (by decide) ?_
           rintro _ T _ ⟨rfl, rfl⟩ A
           show Go p e below _ (T.setTop (mkF m 72 #[.val (.int a), .val (.int b), .val (.int fl), .val (.int (1 : Int32)), .val (.int (0 : Int32)), .val (.int j78), .val (.int j82), .val (.ref b84), .unset, .unset, .unset, .unset] []))
           have A := A.front (i := 1) rfl rfl
           have A := A.front (i := 2) rfl rfl
           have A := A.front (i := 3) rfl rfl
           have A := A.front (i := 4) (L' := [(b85, .inr (.boolean, [(.int (0 : Int32)), (.int (1 : Int32)), (.int (0 : Int32))])), (b86, .inr (.boolean, [(.int (0 : Int32)), (.int (0 : Int32)), (.int (0 : Int32))])), (b87, .inr (.int, [(.int (0 : Int32)), (.int (0 : Int32)), (.int (0 : Int32))])), (b88, .inr (.boolean, [(.int (0 : Int32)), (.int j91), (.int (0 : Int32))])), (b84, ob0 (.ref b88) (.ref b87) (.ref b86) (.ref b85) (.int (0 : Int32)))]) rfl rfl
           exact J51_94 T _ _ (by simp only [ej91, if_neg h89]) (by simp only [ej91, if_neg h89]) A
          refine A.iload (q := 61) at_59 rfl rfl ?_
          refine A.if_ne (q := 64) (r := 68) at_61 rfl (by decide) (fun h90 => ?_) (fun h90 => ?_)
          · refine A.iconst (q := 69) (v := (0 : Int32)) at_68 rfl (by decide) ?_
            exact J59_91 T _ (by simp only [if_neg h90]) A
          · refine A.iconst (q := 65) (v := (1 : Int32)) at_64 rfl (by decide) ?_
            refine A.goto (r := 69) at_65 (by decide) ?_
            exact J59_91 T _ (by simp only [if_pos h90]) A
       refine A.iloadN (q := 29) at_28 rfl rfl ?_
       refine A.iconst (q := 30) (v := (2 : Int32)) at_29 rfl (by decide) ?_
       obtain ⟨v80, e80⟩ : ∃ v : Int32, fl &&& (2 : Int32) = v := ⟨_, rfl⟩
       refine A.iand (q := 31) at_30 rfl e80 ?_
       refine A.if_eq (q := 34) (r := 38) at_31 rfl (by decide) (fun h81 => ?_) (fun h81 => ?_)
       · refine A.iconst (q := 39) (v := (0 : Int32)) at_38 rfl (by decide) ?_
         exact J28_82 T _ (by simp only [e80, if_pos h81]) A
       · refine A.iconst (q := 35) (v := (1 : Int32)) at_34 rfl (by decide) ?_
         refine A.goto (r := 39) at_35 (by decide) ?_
         exact J28_82 T _ (by simp only [e80, if_neg h81]) A
      refine A.iloadN (q := 16) at_15 rfl rfl ?_
      refine A.iconst (q := 17) (v := (1 : Int32)) at_16 rfl (by decide) ?_
      obtain ⟨v76, e76⟩ : ∃ v : Int32, fl &&& (1 : Int32) = v := ⟨_, rfl⟩
      refine A.iand (q := 18) at_17 rfl e76 ?_
      refine A.if_eq (q := 21) (r := 25) at_18 rfl (by decide) (fun h77 => ?_) (fun h77 => ?_)
      · refine A.iconst (q := 26) (v := (0 : Int32)) at_25 rfl (by decide) ?_
        exact J15_78 T _ (by simp only [e76, if_pos h77]) A
      · refine A.iconst (q := 22) (v := (1 : Int32)) at_21 rfl (by decide) ?_
        refine A.goto (r := 26) at_22 (by decide) ?_
        exact J15_78 T _ (by simp only [e76, if_neg h77]) A
    · have J15_101 : ∀ (T : State) (j101 : Int32), j101 = (if (fl &&& (1 : Int32)) = (0 : Int32) then (0 : Int32) else (1 : Int32)) → Here p l e room_1 s m ([(.int a), (.int b), (.int fl)] : List Value).toArray below meth c Z a0 tables_1 x.cls x.name code 12 (some .boolean) n0 T [] 0 0 → Go p e below (EndS below s n0 Z 24 128 (fun v _ => v = some (.int 1))) (T.setTop (mkF m 26 #[.val (.int a), .val (.int b), .val (.int fl), .val (.int (1 : Int32)), .val (.int (1 : Int32)), .unset, .unset, .unset, .unset, .unset, .unset, .unset] [(.int j101)])) := by
       intro T j101 ej101 A
       have z_j101 : nar .boolean j101 = j101 := by rw [ej101]; (repeat' split) <;> first | decide | assumption
       refine A.istore (q := 28) (l' := #[.val (.int a), .val (.int b), .val (.int fl), .val (.int (1 : Int32)), .val (.int (1 : Int32)), .val (.int j101), .unset, .unset, .unset, .unset, .unset, .unset]) at_26 rfl rfl ?_
       have J28_105 : ∀ (T : State) (j105 : Int32), j105 = (if (fl &&& (2 : Int32)) = (0 : Int32) then (0 : Int32) else (1 : Int32)) → Here p l e room_1 s m ([(.int a), (.int b), (.int fl)] : List Value).toArray below meth c Z a0 tables_1 x.cls x.name code 12 (some .boolean) n0 T [] 0 0 → Go p e below (EndS below s n0 Z 24 128 (fun v _ => v = some (.int 1))) (T.setTop (mkF m 39 #[.val (.int a), .val (.int b), .val (.int fl), .val (.int (1 : Int32)), .val (.int (1 : Int32)), .val (.int j101), .unset, .unset, .unset, .unset, .unset, .unset] [(.int j105)])) := by
        intro T j105 ej105 A
        have z_j105 : nar .boolean j105 = j105 := by rw [ej105]; (repeat' split) <;> first | decide | assumption
        refine A.istore (q := 41) (l' := #[.val (.int a), .val (.int b), .val (.int fl), .val (.int (1 : Int32)), .val (.int (1 : Int32)), .val (.int j101), .val (.int j105), .unset, .unset, .unset, .unset, .unset]) at_39 rfl rfl ?_
        refine A.newO (q := 44) (w1 := 1) (w2 := 2) (w3 := 3) (n := 6) (fs := [(("com/example/proof_of_scan/proofofscan/Choices", "values", "[Z"), .null), (("com/example/proof_of_scan/proofofscan/Choices", "taken", "[I"), .null), (("com/example/proof_of_scan/proofofscan/Choices", "isTaken", "[Z"), .null), (("com/example/proof_of_scan/proofofscan/Choices", "isHeld", "[Z"), .null), (("com/example/proof_of_scan/proofofscan/Choices", "takenCount", "I"), (.int (0 : Int32)))]) at_41 rfl rfl rfl rfl (lay_0 Z a0 hw) (by decide) (by decide) (by decide) ?_
        intro T b107 A
        refine A.dup (q := 45) at_44 rfl rfl ?_
        refine A.iconst (q := 46) (v := (3 : Int32)) at_45 rfl (by decide) ?_
        refine A.callI (q := 49) (w1 := 4) (w2 := 5) (w3 := 3) (w4 := 6) (a := b107) (as := [(.int (3 : Int32))]) (st := [(.ref b107)]) (W := 1) at_46 rfl rfl rfl rfl rfl rfl (rm1_1 l Z a0 hw n0 b107 _) (by decide) ⟨_, _, pd_0, rfl⟩ rfl rfl rfl (by decide) (by decide) (by decide) (by decide) ?_
        rintro _ T _ ⟨b108, b109, b110, b111, rfl, rfl⟩ A
        show Go p e below _ (T.setTop (mkF m 49 #[.val (.int a), .val (.int b), .val (.int fl), .val (.int (1 : Int32)), .val (.int (1 : Int32)), .val (.int j101), .val (.int j105), .unset, .unset, .unset, .unset, .unset] [(.ref b107)]))
        refine A.astore (q := 51) (l' := #[.val (.int a), .val (.int b), .val (.int fl), .val (.int (1 : Int32)), .val (.int (1 : Int32)), .val (.int j101), .val (.int j105), .val (.ref b107), .unset, .unset, .unset, .unset]) at_49 rfl rfl rfl ?_
        have J51_117 : ∀ (T : State) (j116 : Int32) (j117 : Int32), j116 = (if j105 = (0 : Int32) then (0 : Int32) else (1 : Int32)) → j117 = (if j105 = (0 : Int32) then (0 : Int32) else ((if j101 = (0 : Int32) then (1 : Int32) else (0 : Int32)))) → Here p l e room_1 s m ([(.int a), (.int b), (.int fl)] : List Value).toArray below meth c Z a0 tables_1 x.cls x.name code 12 (some .boolean) n0 T [(b108, .inr (.boolean, [(.int (0 : Int32)), (.int j116), (.int (0 : Int32))])), (b109, .inr (.boolean, [(.int (0 : Int32)), (.int (0 : Int32)), (.int (0 : Int32))])), (b110, .inr (.int, [(.int (0 : Int32)), (.int (0 : Int32)), (.int (0 : Int32))])), (b111, .inr (.boolean, [(.int (0 : Int32)), (.int j117), (.int (0 : Int32))])), (b107, ob0 (.ref b111) (.ref b110) (.ref b109) (.ref b108) (.int (0 : Int32)))] 5 18 → Go p e below (EndS below s n0 Z 24 128 (fun v _ => v = some (.int 1))) (T.setTop (mkF m 72 #[.val (.int a), .val (.int b), .val (.int fl), .val (.int (1 : Int32)), .val (.int (1 : Int32)), .val (.int j101), .val (.int j105), .val (.ref b107), .unset, .unset, .unset, .unset] [])) := by
         intro T j116 j117 ej116 ej117 A
         have z_j116 : nar .boolean j116 = j116 := by rw [ej116]; (repeat' split) <;> first | decide | assumption
         have z_j117 : nar .boolean j117 = j117 := by rw [ej117]; (repeat' split) <;> first | decide | assumption
         refine A.aload (q := 74) at_72 rfl rfl rfl ?_
         refine A.iloadN (q := 75) at_74 rfl rfl ?_
         refine A.iload (q := 77) at_75 rfl rfl ?_
         have A := A.front (i := 1) rfl rfl
         have A := A.front (i := 2) rfl rfl
         have A := A.front (i := 3) rfl rfl
         have A := A.front (i := 4) (L' := [(b107, ob0 (.ref b111) (.ref b110) (.ref b109) (.ref b108) (.int (0 : Int32))), (b111, .inr (.boolean, [(.int (0 : Int32)), (.int j117), (.int (0 : Int32))])), (b110, .inr (.int, [(.int (0 : Int32)), (.int (0 : Int32)), (.int (0 : Int32))])), (b109, .inr (.boolean, [(.int (0 : Int32)), (.int (0 : Int32)), (.int (0 : Int32))])), (b108, .inr (.boolean, [(.int (0 : Int32)), (.int j116), (.int (0 : Int32))]))]) rfl rfl
         refine A.callV (q := 80) (i := 0) (w1 := 20) (w2 := 21) (w3 := 3) (w4 := 24) (w5 := 23) (w6 := 22) (a := b107) (as := [(.int (1 : Int32)), (.int j101)]) (st := []) (W := 0) at_77 rfl rfl rfl rfl rfl rfl rfl rfl (rm3_4 l Z a0 hw n0 b107 j101 b111 b110 b109 b108 j117 j116 _ z_j101 z_j117 z_j116) (by decide) ⟨_, _, pd_1, rfl⟩ rfl rfl rfl (by decide) (by decide) (by decide) (by decide) ?_
         rintro _ T _ ⟨rfl, rfl⟩ A
         show Go p e below _ (T.setTop (mkF m 80 #[.val (.int a), .val (.int b), .val (.int fl), .val (.int (1 : Int32)), .val (.int (1 : Int32)), .val (.int j101), .val (.int j105), .val (.ref b107), .unset, .unset, .unset, .unset] []))
         refine A.aload (q := 82) at_80 rfl rfl rfl ?_
         refine A.callV (q := 85) (i := 0) (w1 := 25) (w2 := 26) (w3 := 3) (w4 := 29) (w5 := 28) (w6 := 27) (a := b107) (as := []) (st := []) (W := 0) at_82 rfl rfl rfl rfl rfl rfl rfl rfl (rm4_6 l Z a0 hw n0 b107 b111 b110 b109 b108 j101 _ z_j101) (by decide) ⟨_, _, pd_2, rfl⟩ rfl rfl rfl (by decide) (by decide) (by decide) (by decide) ?_
         rintro _ T _ ⟨b119, rfl, rfl⟩ A
         show Go p e below _ (T.setTop (mkF m 85 #[.val (.int a), .val (.int b), .val (.int fl), .val (.int (1 : Int32)), .val (.int (1 : Int32)), .val (.int j101), .val (.int j105), .val (.ref b107), .unset, .unset, .unset, .unset] [(.ref b119)]))
         refine A.iloadN (q := 86) at_85 rfl rfl ?_
         refine A.iload (q := 88) at_86 rfl rfl ?_
         refine A.iconst (q := 89) (v := (-1 : Int32)) at_88 rfl (by decide) ?_
         refine A.callS (q := 92) (w1 := 39) (w2 := 40) (w3 := 41) (w4 := 42) (as := [(.ref b119), (.int (1 : Int32)), (.int j101), (.int (-1 : Int32))]) (st := []) (W := 0) at_89 rfl rfl rfl rfl rfl (rm5_4 l Z a0 hw n0 b119 j101 _ z_j101) (by decide) ⟨_, _, pd_3, rfl⟩ rfl rfl rfl (by decide) (by decide) (by decide) (by decide) ?_
         rintro _ T _ ⟨rfl, rfl⟩ A
         show Go p e below _ (T.setTop (mkF m 92 #[.val (.int a), .val (.int b), .val (.int fl), .val (.int (1 : Int32)), .val (.int (1 : Int32)), .val (.int j101), .val (.int j105), .val (.ref b107), .unset, .unset, .unset, .unset] [(.int (1 : Int32))]))
         refine A.istore (q := 94) (l' := #[.val (.int a), .val (.int b), .val (.int fl), .val (.int (1 : Int32)), .val (.int (1 : Int32)), .val (.int j101), .val (.int j105), .val (.ref b107), .val (.int (1 : Int32)), .unset, .unset, .unset]) at_92 rfl rfl ?_
         refine A.aload (q := 96) at_94 rfl rfl rfl ?_
         refine A.iload (q := 98) at_96 rfl rfl ?_
         have A := A.front (i := 5) rfl rfl
         have A := A.front (i := 5) rfl rfl
         have A := A.front (i := 5) rfl rfl
         have A := A.front (i := 5) rfl rfl
         have A := A.front (i := 5) (L' := [(b107, ob0 (.ref b111) (.ref b110) (.ref b109) (.ref b108) (.int (0 : Int32))), (b111, .inr (.boolean, [(.int (0 : Int32)), (.int j101), (.int (0 : Int32))])), (b110, .inr (.int, [(.int (0 : Int32)), (.int (0 : Int32)), (.int (0 : Int32))])), (b109, .inr (.boolean, [(.int (0 : Int32)), (.int (0 : Int32)), (.int (0 : Int32))])), (b108, .inr (.boolean, [(.int (0 : Int32)), (.int (1 : Int32)), (.int (0 : Int32))])), (b119, .inr (.boolean, [(.int (0 : Int32)), (.int j101), (.int (0 : Int32))]))]) rfl rfl
         refine A.callV (q := 101) (i := 0) (w1 := 43) (w2 := 44) (w3 := 3) (w4 := 47) (w5 := 46) (w6 := 45) (a := b107) (as := [(.int (1 : Int32))]) (st := []) (W := 0) at_98 rfl rfl rfl rfl rfl rfl rfl rfl (rm6_8 l Z a0 hw n0 b107 b111 b110 b109 b108 j101 _ z_j101) (by decide) ⟨_, _, pd_4, rfl⟩ rfl rfl rfl (by decide) (by decide) (by decide) (by decide) ?_
         rintro _ T _ ⟨rfl, rfl⟩ A
         show Go p e below _ (T.setTop (mkF m 101 #[.val (.int a), .val (.int b), .val (.int fl), .val (.int (1 : Int32)), .val (.int (1 : Int32)), .val (.int j101), .val (.int j105), .val (.ref b107), .val (.int (1 : Int32)), .unset, .unset, .unset] [(.int j101)]))
         refine A.istore (q := 103) (l' := #[.val (.int a), .val (.int b), .val (.int fl), .val (.int (1 : Int32)), .val (.int (1 : Int32)), .val (.int j101), .val (.int j105), .val (.ref b107), .val (.int (1 : Int32)), .val (.int j101), .unset, .unset]) at_101 rfl rfl ?_
         refine A.aload (q := 105) at_103 rfl rfl rfl ?_
         refine A.iloadN (q := 106) at_105 rfl rfl ?_
         refine A.callV (q := 109) (i := 0) (w1 := 43) (w2 := 44) (w3 := 3) (w4 := 47) (w5 := 46) (w6 := 45) (a := b107) (as := [(.int (1 : Int32))]) (st := []) (W := 0) at_106 rfl rfl rfl rfl rfl rfl rfl rfl (rm6_8 l Z a0 hw n0 b107 b111 b110 b109 b108 j101 _ z_j101) (by decide) ⟨_, _, pd_4, rfl⟩ rfl rfl rfl (by decide) (by decide) (by decide) (by decide) ?_
         rintro _ T _ ⟨rfl, rfl⟩ A
         show Go p e below _ (T.setTop (mkF m 109 #[.val (.int a), .val (.int b), .val (.int fl), .val (.int (1 : Int32)), .val (.int (1 : Int32)), .val (.int j101), .val (.int j105), .val (.ref b107), .val (.int (1 : Int32)), .val (.int j101), .unset, .unset] [(.int j101)]))
         refine A.istore (q := 111) (l' := #[.val (.int a), .val (.int b), .val (.int fl), .val (.int (1 : Int32)), .val (.int (1 : Int32)), .val (.int j101), .val (.int j105), .val (.ref b107), .val (.int (1 : Int32)), .val (.int j101), .val (.int j101), .unset]) at_109 rfl rfl ?_
         refine A.iload (q := 113) at_111 rfl rfl ?_
         refine A.ifF (q := 116) at_113 rfl (by decide) ?_
         refine A.iload (q := 118) at_116 rfl rfl ?_
         refine A.iload (q := 120) at_118 rfl rfl ?_
         refine A.icmpF (q := 123) at_120 rfl (teq rfl).2 ?_
         refine A.iload (q := 125) at_123 rfl rfl ?_
         refine A.iload (q := 127) at_125 rfl rfl ?_
         refine A.iloadN (q := 128) at_127 rfl rfl ?_
         refine A.icmpF (q := 131) at_128 rfl (by decide) ?_
         refine A.iload (q := 133) at_131 rfl rfl ?_
         refine A.goto (r := 137) at_133 (by decide) ?_
         refine A.icmpF (q := 140) at_137 rfl (teq rfl).2 ?_
         refine A.iconst (q := 141) (v := (1 : Int32)) at_140 rfl (by decide) ?_
         refine A.goto (r := 145) at_141 (by decide) ?_
         refine A.istore (q := 147) (l' := #[.val (.int a), .val (.int b), .val (.int fl), .val (.int (1 : Int32)), .val (.int (1 : Int32)), .val (.int j101), .val (.int j105), .val (.ref b107), .val (.int (1 : Int32)), .val (.int j101), .val (.int j101), .unset]) at_145 rfl rfl ?_
         refine A.aload (q := 149) at_147 rfl rfl rfl ?_
         refine A.callV (q := 152) (i := 0) (w1 := 48) (w2 := 49) (w3 := 3) (w4 := 52) (w5 := 51) (w6 := 50) (a := b107) (as := []) (st := []) (W := 0) at_149 rfl rfl rfl rfl rfl rfl rfl rfl (rm7_5 l Z a0 hw n0 b107 b111 b110 b109 b108 j101 _ z_j101) (by decide) ⟨_, _, pd_5, rfl⟩ rfl rfl rfl (by decide) (by decide) (by decide) (by decide) ?_
         rintro _ T _ ⟨rfl, rfl⟩ A
         show Go p e below _ (T.setTop (mkF m 152 #[.val (.int a), .val (.int b), .val (.int fl), .val (.int (1 : Int32)), .val (.int (1 : Int32)), .val (.int j101), .val (.int j105), .val (.ref b107), .val (.int (1 : Int32)), .val (.int j101), .val (.int j101), .unset] [(.int (0 : Int32))]))
         refine A.istore (q := 154) (l' := #[.val (.int a), .val (.int b), .val (.int fl), .val (.int (1 : Int32)), .val (.int (1 : Int32)), .val (.int j101), .val (.int j105), .val (.ref b107), .val (.int (1 : Int32)), .val (.int j101), .val (.int j101), .val (.int (0 : Int32))]) at_152 rfl rfl ?_
         refine A.iload (q := 156) at_154 rfl rfl ?_
         refine A.ifF (q := 159) at_156 rfl (by decide) ?_
         refine A.iload (q := 161) at_159 rfl rfl ?_
         refine A.iload (q := 163) at_161 rfl rfl ?_
         refine A.iloadN (q := 164) at_163 rfl rfl ?_
         refine A.icmpT (r := 171) at_164 (by decide) (by decide) ?_
         refine A.iconst (q := 172) (v := (0 : Int32)) at_171 rfl (by decide) ?_
         refine A.icmpF (q := 175) at_172 rfl (by decide) ?_
         refine A.aload (q := 177) at_175 rfl rfl rfl ?_
         refine A.callV (q := 180) (i := 0) (w1 := 25) (w2 := 26) (w3 := 3) (w4 := 29) (w5 := 28) (w6 := 27) (a := b107) (as := []) (st := []) (W := 0) at_177 rfl rfl rfl rfl rfl rfl rfl rfl (rm4_6 l Z a0 hw n0 b107 b111 b110 b109 b108 j101 _ z_j101) (by decide) ⟨_, _, pd_2, rfl⟩ rfl rfl rfl (by decide) (by decide) (by decide) (by decide) ?_
         rintro _ T _ ⟨b120, rfl, rfl⟩ A
         show Go p e below _ (T.setTop (mkF m 180 #[.val (.int a), .val (.int b), .val (.int fl), .val (.int (1 : Int32)), .val (.int (1 : Int32)), .val (.int j101), .val (.int j105), .val (.ref b107), .val (.int (1 : Int32)), .val (.int j101), .val (.int j101), .val (.int (0 : Int32))] [(.ref b120)]))
         refine A.iloadN (q := 181) at_180 rfl rfl ?_
         refine A.iload (q := 183) at_181 rfl rfl ?_
         refine A.iload (q := 185) at_183 rfl rfl ?_
         refine A.iloadN (q := 186) at_185 rfl rfl ?_
         refine A.icmpT (r := 194) at_186 (by decide) (by decide) ?_
         refine A.iconst (q := 195) (v := (-1 : Int32)) at_194 rfl (by decide) ?_
         refine A.callS (q := 198) (w1 := 39) (w2 := 40) (w3 := 41) (w4 := 42) (as := [(.ref b120), (.int (1 : Int32)), (.int j101), (.int (-1 : Int32))]) (st := []) (W := 0) at_195 rfl rfl rfl rfl rfl (rm5_4 l Z a0 hw n0 b120 j101 _ z_j101) (by decide) ⟨_, _, pd_3, rfl⟩ rfl rfl rfl (by decide) (by decide) (by decide) (by decide) ?_
         rintro _ T _ ⟨rfl, rfl⟩ A
         show Go p e below _ (T.setTop (mkF m 198 #[.val (.int a), .val (.int b), .val (.int fl), .val (.int (1 : Int32)), .val (.int (1 : Int32)), .val (.int j101), .val (.int j105), .val (.ref b107), .val (.int (1 : Int32)), .val (.int j101), .val (.int j101), .val (.int (0 : Int32))] [(.int (1 : Int32))]))
         refine A.ifF (q := 201) at_198 rfl (by decide) ?_
         refine A.iconst (q := 202) (v := (1 : Int32)) at_201 rfl (by decide) ?_
         refine A.goto (r := 206) at_202 (by decide) ?_
         refine A.istore (q := 208) (l' := #[.val (.int a), .val (.int b), .val (.int fl), .val (.int (1 : Int32)), .val (.int (1 : Int32)), .val (.int j101), .val (.int j105), .val (.ref b107), .val (.int (1 : Int32)), .val (.int j101), .val (.int j101), .val (.int (0 : Int32))]) at_206 rfl rfl ?_
         refine A.aload (q := 210) at_208 rfl rfl rfl ?_
         have A := A.front (i := 5) rfl rfl
         have A := A.front (i := 5) rfl rfl
         have A := A.front (i := 5) rfl rfl
         have A := A.front (i := 5) rfl rfl
         have A := A.front (i := 5) (L' := [(b107, ob0 (.ref b111) (.ref b110) (.ref b109) (.ref b108) (.int (0 : Int32))), (b111, .inr (.boolean, [(.int (0 : Int32)), (.int j101), (.int (0 : Int32))])), (b110, .inr (.int, [(.int (0 : Int32)), (.int (0 : Int32)), (.int (0 : Int32))])), (b109, .inr (.boolean, [(.int (0 : Int32)), (.int (0 : Int32)), (.int (0 : Int32))])), (b108, .inr (.boolean, [(.int (0 : Int32)), (.int (1 : Int32)), (.int (0 : Int32))])), (b120, .inr (.boolean, [(.int (0 : Int32)), (.int j101), (.int (0 : Int32))])), (b119, .inr (.boolean, [(.int (0 : Int32)), (.int j101), (.int (0 : Int32))]))]) rfl rfl
         refine A.callV (q := 213) (i := 0) (w1 := 55) (w2 := 56) (w3 := 3) (w4 := 59) (w5 := 58) (w6 := 57) (a := b107) (as := []) (st := []) (W := 0) at_210 rfl rfl rfl rfl rfl rfl rfl rfl (rm8_5 l Z a0 hw n0 b107 b111 b110 b109 b108 j101 _ z_j101) (by decide) ⟨_, _, pd_6, rfl⟩ rfl rfl rfl (by decide) (by decide) (by decide) (by decide) ?_
         rintro _ T _ ⟨rfl, rfl⟩ A
         show Go p e below _ (T.setTop (mkF m 213 #[.val (.int a), .val (.int b), .val (.int fl), .val (.int (1 : Int32)), .val (.int (1 : Int32)), .val (.int j101), .val (.int j105), .val (.ref b107), .val (.int (1 : Int32)), .val (.int j101), .val (.int j101), .val (.int (0 : Int32))] []))
         refine A.iload (q := 215) at_213 rfl rfl ?_
         refine A.ifF (q := 218) at_215 rfl (by decide) ?_
         refine A.aload (q := 220) at_218 rfl rfl rfl ?_
         refine A.callV (q := 223) (i := 0) (w1 := 25) (w2 := 26) (w3 := 3) (w4 := 29) (w5 := 28) (w6 := 27) (a := b107) (as := []) (st := []) (W := 0) at_220 rfl rfl rfl rfl rfl rfl rfl rfl (rm4_6 l Z a0 hw n0 b107 b111 b110 b109 b108 j101 _ z_j101) (by decide) ⟨_, _, pd_2, rfl⟩ rfl rfl rfl (by decide) (by decide) (by decide) (by decide) ?_
         rintro _ T _ ⟨b121, rfl, rfl⟩ A
         show Go p e below _ (T.setTop (mkF m 223 #[.val (.int a), .val (.int b), .val (.int fl), .val (.int (1 : Int32)), .val (.int (1 : Int32)), .val (.int j101), .val (.int j105), .val (.ref b107), .val (.int (1 : Int32)), .val (.int j101), .val (.int j101), .val (.int (0 : Int32))] [(.ref b121)]))
         refine A.iloadN (q := 224) at_223 rfl rfl ?_
         refine A.iload (q := 226) at_224 rfl rfl ?_
         refine A.iconst (q := 227) (v := (-1 : Int32)) at_226 rfl (by decide) ?_
         refine A.callS (q := 230) (w1 := 39) (w2 := 40) (w3 := 41) (w4 := 42) (as := [(.ref b121), (.int (1 : Int32)), (.int j101), (.int (-1 : Int32))]) (st := []) (W := 0) at_227 rfl rfl rfl rfl rfl (rm5_4 l Z a0 hw n0 b121 j101 _ z_j101) (by decide) ⟨_, _, pd_3, rfl⟩ rfl rfl rfl (by decide) (by decide) (by decide) (by decide) ?_
         rintro _ T _ ⟨rfl, rfl⟩ A
         show Go p e below _ (T.setTop (mkF m 230 #[.val (.int a), .val (.int b), .val (.int fl), .val (.int (1 : Int32)), .val (.int (1 : Int32)), .val (.int j101), .val (.int j105), .val (.ref b107), .val (.int (1 : Int32)), .val (.int j101), .val (.int j101), .val (.int (0 : Int32))] [(.int (1 : Int32))]))
         refine A.ifF (q := 233) at_230 rfl (by decide) ?_
         refine A.iconst (q := 234) (v := (1 : Int32)) at_233 rfl (by decide) ?_
         refine A.goto (r := 238) at_234 (by decide) ?_
         refine A.istore (q := 240) (l' := #[.val (.int a), .val (.int b), .val (.int fl), .val (.int (1 : Int32)), .val (.int (1 : Int32)), .val (.int j101), .val (.int j105), .val (.ref b107), .val (.int (1 : Int32)), .val (.int j101), .val (.int j101), .val (.int (0 : Int32))]) at_238 rfl rfl ?_
         refine A.iload (q := 242) at_240 rfl rfl ?_
         exact A.retZ (v := 1) at_242 (by decide) (by decide) (by decide) rfl
        refine A.iload (q := 53) at_51 rfl rfl ?_
        refine A.if_eq (q := 56) (r := 72) at_53 rfl (by decide) (fun h112 => ?_) (fun h112 => ?_)
        · exact J51_117 T _ _ (by simp only [if_pos h112]) (by simp only [if_pos h112]) A
        · refine A.aload (q := 58) at_56 rfl rfl rfl ?_
          refine A.iloadN (q := 59) at_58 rfl rfl ?_
          have J59_114 : ∀ (T : State) (j114 : Int32), j114 = (if j101 = (0 : Int32) then (1 : Int32) else (0 : Int32)) → Here p l e room_1 s m ([(.int a), (.int b), (.int fl)] : List Value).toArray below meth c Z a0 tables_1 x.cls x.name code 12 (some .boolean) n0 T [(b108, .inr (.boolean, [(.int (0 : Int32)), (.int (0 : Int32)), (.int (0 : Int32))])), (b109, .inr (.boolean, [(.int (0 : Int32)), (.int (0 : Int32)), (.int (0 : Int32))])), (b110, .inr (.int, [(.int (0 : Int32)), (.int (0 : Int32)), (.int (0 : Int32))])), (b111, .inr (.boolean, [(.int (0 : Int32)), (.int (0 : Int32)), (.int (0 : Int32))])), (b107, ob0 (.ref b111) (.ref b110) (.ref b109) (.ref b108) (.int (0 : Int32)))] 5 18 → Go p e below (EndS below s n0 Z 24 128 (fun v _ => v = some (.int 1))) (T.setTop (mkF m 69 #[.val (.int a), .val (.int b), .val (.int fl), .val (.int (1 : Int32)), .val (.int (1 : Int32)), .val (.int j101), .val (.int j105), .val (.ref b107), .unset, .unset, .unset, .unset] [(.int j114), (.int (1 : Int32)), (.ref b107)])) := by
           intro T j114 ej114 A
           have z_j114 : nar .boolean j114 = j114 := by rw [ej114]; (repeat' split) <;> first | decide | assumption
           have A := A.front (i := 1) rfl rfl
           have A := A.front (i := 2) rfl rfl
           have A := A.front (i := 3) rfl rfl
           have A := A.front (i := 4) (L' := [(b107, ob0 (.ref b111) (.ref b110) (.ref b109) (.ref b108) (.int (0 : Int32))), (b111, .inr (.boolean, [(.int (0 : Int32)), (.int (0 : Int32)), (.int (0 : Int32))])), (b110, .inr (.int, [(.int (0 : Int32)), (.int (0 : Int32)), (.int (0 : Int32))])), (b109, .inr (.boolean, [(.int (0 : Int32)), (.int (0 : Int32)), (.int (0 : Int32))])), (b108, .inr (.boolean, [(.int (0 : Int32)), (.int (0 : Int32)), (.int (0 : Int32))]))]) rfl rfl
           refine A.callV (q := 72) (i := 0) (w1 := 20) (w2 := 21) (w3 := 3) (w4 := 24) (w5 := 23) (w6 := 22) (a := b107) (as := [(.int (1 : Int32)), (.int j114)]) (st := []) (W := 0) at_69 rfl rfl rfl rfl rfl rfl rfl rfl (rm3_3 l Z a0 hw n0 b107 j114 b111 b110 b109 b108 _ z_j114) (by decide) ⟨_, _, pd_1, rfl⟩ rfl rfl rfl (by decide) (by decide) (by decide) (by decide) ?_
           rintro _ T _ ⟨rfl, rfl⟩ A
           show Go p e below _ (T.setTop (mkF m 72 #[.val (.int a), .val (.int b), .val (.int fl), .val (.int (1 : Int32)), .val (.int (1 : Int32)), .val (.int j101), .val (.int j105), .val (.ref b107), .unset, .unset, .unset, .unset] []))
           have A := A.front (i := 1) rfl rfl
           have A := A.front (i := 2) rfl rfl
           have A := A.front (i := 3) rfl rfl
           have A := A.front (i := 4) (L' := [(b108, .inr (.boolean, [(.int (0 : Int32)), (.int (1 : Int32)), (.int (0 : Int32))])), (b109, .inr (.boolean, [(.int (0 : Int32)), (.int (0 : Int32)), (.int (0 : Int32))])), (b110, .inr (.int, [(.int (0 : Int32)), (.int (0 : Int32)), (.int (0 : Int32))])), (b111, .inr (.boolean, [(.int (0 : Int32)), (.int j114), (.int (0 : Int32))])), (b107, ob0 (.ref b111) (.ref b110) (.ref b109) (.ref b108) (.int (0 : Int32)))]) rfl rfl
           exact J51_117 T _ _ (by simp only [ej114, if_neg h112]) (by simp only [ej114, if_neg h112]) A
          refine A.iload (q := 61) at_59 rfl rfl ?_
          refine A.if_ne (q := 64) (r := 68) at_61 rfl (by decide) (fun h113 => ?_) (fun h113 => ?_)
          · refine A.iconst (q := 69) (v := (0 : Int32)) at_68 rfl (by decide) ?_
            exact J59_114 T _ (by simp only [if_neg h113]) A
          · refine A.iconst (q := 65) (v := (1 : Int32)) at_64 rfl (by decide) ?_
            refine A.goto (r := 69) at_65 (by decide) ?_
            exact J59_114 T _ (by simp only [if_pos h113]) A
       refine A.iloadN (q := 29) at_28 rfl rfl ?_
       refine A.iconst (q := 30) (v := (2 : Int32)) at_29 rfl (by decide) ?_
       obtain ⟨v103, e103⟩ : ∃ v : Int32, fl &&& (2 : Int32) = v := ⟨_, rfl⟩
       refine A.iand (q := 31) at_30 rfl e103 ?_
       refine A.if_eq (q := 34) (r := 38) at_31 rfl (by decide) (fun h104 => ?_) (fun h104 => ?_)
       · refine A.iconst (q := 39) (v := (0 : Int32)) at_38 rfl (by decide) ?_
         exact J28_105 T _ (by simp only [e103, if_pos h104]) A
       · refine A.iconst (q := 35) (v := (1 : Int32)) at_34 rfl (by decide) ?_
         refine A.goto (r := 39) at_35 (by decide) ?_
         exact J28_105 T _ (by simp only [e103, if_neg h104]) A
      refine A.iloadN (q := 16) at_15 rfl rfl ?_
      refine A.iconst (q := 17) (v := (1 : Int32)) at_16 rfl (by decide) ?_
      obtain ⟨v99, e99⟩ : ∃ v : Int32, fl &&& (1 : Int32) = v := ⟨_, rfl⟩
      refine A.iand (q := 18) at_17 rfl e99 ?_
      refine A.if_eq (q := 21) (r := 25) at_18 rfl (by decide) (fun h100 => ?_) (fun h100 => ?_)
      · refine A.iconst (q := 26) (v := (0 : Int32)) at_25 rfl (by decide) ?_
        exact J15_101 T _ (by simp only [e99, if_pos h100]) A
      · refine A.iconst (q := 22) (v := (1 : Int32)) at_21 rfl (by decide) ?_
        refine A.goto (r := 26) at_22 (by decide) ?_
        exact J15_101 T _ (by simp only [e99, if_neg h100]) A
    · have J15_124 : ∀ (T : State) (j124 : Int32), j124 = (if (fl &&& (1 : Int32)) = (0 : Int32) then (0 : Int32) else (1 : Int32)) → Here p l e room_1 s m ([(.int a), (.int b), (.int fl)] : List Value).toArray below meth c Z a0 tables_1 x.cls x.name code 12 (some .boolean) n0 T [] 0 0 → Go p e below (EndS below s n0 Z 24 128 (fun v _ => v = some (.int 1))) (T.setTop (mkF m 26 #[.val (.int a), .val (.int b), .val (.int fl), .val (.int (1 : Int32)), .val (.int (2 : Int32)), .unset, .unset, .unset, .unset, .unset, .unset, .unset] [(.int j124)])) := by
       intro T j124 ej124 A
       have z_j124 : nar .boolean j124 = j124 := by rw [ej124]; (repeat' split) <;> first | decide | assumption
       refine A.istore (q := 28) (l' := #[.val (.int a), .val (.int b), .val (.int fl), .val (.int (1 : Int32)), .val (.int (2 : Int32)), .val (.int j124), .unset, .unset, .unset, .unset, .unset, .unset]) at_26 rfl rfl ?_
       have J28_128 : ∀ (T : State) (j128 : Int32), j128 = (if (fl &&& (2 : Int32)) = (0 : Int32) then (0 : Int32) else (1 : Int32)) → Here p l e room_1 s m ([(.int a), (.int b), (.int fl)] : List Value).toArray below meth c Z a0 tables_1 x.cls x.name code 12 (some .boolean) n0 T [] 0 0 → Go p e below (EndS below s n0 Z 24 128 (fun v _ => v = some (.int 1))) (T.setTop (mkF m 39 #[.val (.int a), .val (.int b), .val (.int fl), .val (.int (1 : Int32)), .val (.int (2 : Int32)), .val (.int j124), .unset, .unset, .unset, .unset, .unset, .unset] [(.int j128)])) := by
        intro T j128 ej128 A
        have z_j128 : nar .boolean j128 = j128 := by rw [ej128]; (repeat' split) <;> first | decide | assumption
        refine A.istore (q := 41) (l' := #[.val (.int a), .val (.int b), .val (.int fl), .val (.int (1 : Int32)), .val (.int (2 : Int32)), .val (.int j124), .val (.int j128), .unset, .unset, .unset, .unset, .unset]) at_39 rfl rfl ?_
        refine A.newO (q := 44) (w1 := 1) (w2 := 2) (w3 := 3) (n := 6) (fs := [(("com/example/proof_of_scan/proofofscan/Choices", "values", "[Z"), .null), (("com/example/proof_of_scan/proofofscan/Choices", "taken", "[I"), .null), (("com/example/proof_of_scan/proofofscan/Choices", "isTaken", "[Z"), .null), (("com/example/proof_of_scan/proofofscan/Choices", "isHeld", "[Z"), .null), (("com/example/proof_of_scan/proofofscan/Choices", "takenCount", "I"), (.int (0 : Int32)))]) at_41 rfl rfl rfl rfl (lay_0 Z a0 hw) (by decide) (by decide) (by decide) ?_
        intro T b130 A
        refine A.dup (q := 45) at_44 rfl rfl ?_
        refine A.iconst (q := 46) (v := (3 : Int32)) at_45 rfl (by decide) ?_
        refine A.callI (q := 49) (w1 := 4) (w2 := 5) (w3 := 3) (w4 := 6) (a := b130) (as := [(.int (3 : Int32))]) (st := [(.ref b130)]) (W := 1) at_46 rfl rfl rfl rfl rfl rfl (rm1_1 l Z a0 hw n0 b130 _) (by decide) ⟨_, _, pd_0, rfl⟩ rfl rfl rfl (by decide) (by decide) (by decide) (by decide) ?_
        rintro _ T _ ⟨b131, b132, b133, b134, rfl, rfl⟩ A
        show Go p e below _ (T.setTop (mkF m 49 #[.val (.int a), .val (.int b), .val (.int fl), .val (.int (1 : Int32)), .val (.int (2 : Int32)), .val (.int j124), .val (.int j128), .unset, .unset, .unset, .unset, .unset] [(.ref b130)]))
        refine A.astore (q := 51) (l' := #[.val (.int a), .val (.int b), .val (.int fl), .val (.int (1 : Int32)), .val (.int (2 : Int32)), .val (.int j124), .val (.int j128), .val (.ref b130), .unset, .unset, .unset, .unset]) at_49 rfl rfl rfl ?_
        have J51_140 : ∀ (T : State) (j139 : Int32) (j140 : Int32), j139 = (if j128 = (0 : Int32) then (0 : Int32) else (1 : Int32)) → j140 = (if j128 = (0 : Int32) then (0 : Int32) else ((if j124 = (0 : Int32) then (1 : Int32) else (0 : Int32)))) → Here p l e room_1 s m ([(.int a), (.int b), (.int fl)] : List Value).toArray below meth c Z a0 tables_1 x.cls x.name code 12 (some .boolean) n0 T [(b131, .inr (.boolean, [(.int (0 : Int32)), (.int j139), (.int (0 : Int32))])), (b132, .inr (.boolean, [(.int (0 : Int32)), (.int (0 : Int32)), (.int (0 : Int32))])), (b133, .inr (.int, [(.int (0 : Int32)), (.int (0 : Int32)), (.int (0 : Int32))])), (b134, .inr (.boolean, [(.int (0 : Int32)), (.int j140), (.int (0 : Int32))])), (b130, ob0 (.ref b134) (.ref b133) (.ref b132) (.ref b131) (.int (0 : Int32)))] 5 18 → Go p e below (EndS below s n0 Z 24 128 (fun v _ => v = some (.int 1))) (T.setTop (mkF m 72 #[.val (.int a), .val (.int b), .val (.int fl), .val (.int (1 : Int32)), .val (.int (2 : Int32)), .val (.int j124), .val (.int j128), .val (.ref b130), .unset, .unset, .unset, .unset] [])) := by
         intro T j139 j140 ej139 ej140 A
         have z_j139 : nar .boolean j139 = j139 := by rw [ej139]; (repeat' split) <;> first | decide | assumption
         have z_j140 : nar .boolean j140 = j140 := by rw [ej140]; (repeat' split) <;> first | decide | assumption
         refine A.aload (q := 74) at_72 rfl rfl rfl ?_
         refine A.iloadN (q := 75) at_74 rfl rfl ?_
         refine A.iload (q := 77) at_75 rfl rfl ?_
         have A := A.front (i := 1) rfl rfl
         have A := A.front (i := 2) rfl rfl
         have A := A.front (i := 3) rfl rfl
         have A := A.front (i := 4) (L' := [(b130, ob0 (.ref b134) (.ref b133) (.ref b132) (.ref b131) (.int (0 : Int32))), (b134, .inr (.boolean, [(.int (0 : Int32)), (.int j140), (.int (0 : Int32))])), (b133, .inr (.int, [(.int (0 : Int32)), (.int (0 : Int32)), (.int (0 : Int32))])), (b132, .inr (.boolean, [(.int (0 : Int32)), (.int (0 : Int32)), (.int (0 : Int32))])), (b131, .inr (.boolean, [(.int (0 : Int32)), (.int j139), (.int (0 : Int32))]))]) rfl rfl
         refine A.callV (q := 80) (i := 0) (w1 := 20) (w2 := 21) (w3 := 3) (w4 := 24) (w5 := 23) (w6 := 22) (a := b130) (as := [(.int (1 : Int32)), (.int j124)]) (st := []) (W := 0) at_77 rfl rfl rfl rfl rfl rfl rfl rfl (rm3_4 l Z a0 hw n0 b130 j124 b134 b133 b132 b131 j140 j139 _ z_j124 z_j140 z_j139) (by decide) ⟨_, _, pd_1, rfl⟩ rfl rfl rfl (by decide) (by decide) (by decide) (by decide) ?_
         rintro _ T _ ⟨rfl, rfl⟩ A
         show Go p e below _ (T.setTop (mkF m 80 #[.val (.int a), .val (.int b), .val (.int fl), .val (.int (1 : Int32)), .val (.int (2 : Int32)), .val (.int j124), .val (.int j128), .val (.ref b130), .unset, .unset, .unset, .unset] []))
         refine A.aload (q := 82) at_80 rfl rfl rfl ?_
         refine A.callV (q := 85) (i := 0) (w1 := 25) (w2 := 26) (w3 := 3) (w4 := 29) (w5 := 28) (w6 := 27) (a := b130) (as := []) (st := []) (W := 0) at_82 rfl rfl rfl rfl rfl rfl rfl rfl (rm4_6 l Z a0 hw n0 b130 b134 b133 b132 b131 j124 _ z_j124) (by decide) ⟨_, _, pd_2, rfl⟩ rfl rfl rfl (by decide) (by decide) (by decide) (by decide) ?_
         rintro _ T _ ⟨b142, rfl, rfl⟩ A
         show Go p e below _ (T.setTop (mkF m 85 #[.val (.int a), .val (.int b), .val (.int fl), .val (.int (1 : Int32)), .val (.int (2 : Int32)), .val (.int j124), .val (.int j128), .val (.ref b130), .unset, .unset, .unset, .unset] [(.ref b142)]))
         refine A.iloadN (q := 86) at_85 rfl rfl ?_
         refine A.iload (q := 88) at_86 rfl rfl ?_
         refine A.iconst (q := 89) (v := (-1 : Int32)) at_88 rfl (by decide) ?_
         refine A.callS (q := 92) (w1 := 39) (w2 := 40) (w3 := 41) (w4 := 42) (as := [(.ref b142), (.int (1 : Int32)), (.int j124), (.int (-1 : Int32))]) (st := []) (W := 0) at_89 rfl rfl rfl rfl rfl (rm5_4 l Z a0 hw n0 b142 j124 _ z_j124) (by decide) ⟨_, _, pd_3, rfl⟩ rfl rfl rfl (by decide) (by decide) (by decide) (by decide) ?_
         rintro _ T _ ⟨rfl, rfl⟩ A
         show Go p e below _ (T.setTop (mkF m 92 #[.val (.int a), .val (.int b), .val (.int fl), .val (.int (1 : Int32)), .val (.int (2 : Int32)), .val (.int j124), .val (.int j128), .val (.ref b130), .unset, .unset, .unset, .unset] [(.int (1 : Int32))]))
         refine A.istore (q := 94) (l' := #[.val (.int a), .val (.int b), .val (.int fl), .val (.int (1 : Int32)), .val (.int (2 : Int32)), .val (.int j124), .val (.int j128), .val (.ref b130), .val (.int (1 : Int32)), .unset, .unset, .unset]) at_92 rfl rfl ?_
         refine A.aload (q := 96) at_94 rfl rfl rfl ?_
         refine A.iload (q := 98) at_96 rfl rfl ?_
         have A := A.front (i := 5) rfl rfl
         have A := A.front (i := 5) rfl rfl
         have A := A.front (i := 5) rfl rfl
         have A := A.front (i := 5) rfl rfl
         have A := A.front (i := 5) (L' := [(b130, ob0 (.ref b134) (.ref b133) (.ref b132) (.ref b131) (.int (0 : Int32))), (b134, .inr (.boolean, [(.int (0 : Int32)), (.int j124), (.int (0 : Int32))])), (b133, .inr (.int, [(.int (0 : Int32)), (.int (0 : Int32)), (.int (0 : Int32))])), (b132, .inr (.boolean, [(.int (0 : Int32)), (.int (0 : Int32)), (.int (0 : Int32))])), (b131, .inr (.boolean, [(.int (0 : Int32)), (.int (1 : Int32)), (.int (0 : Int32))])), (b142, .inr (.boolean, [(.int (0 : Int32)), (.int j124), (.int (0 : Int32))]))]) rfl rfl
         refine A.callV (q := 101) (i := 0) (w1 := 43) (w2 := 44) (w3 := 3) (w4 := 47) (w5 := 46) (w6 := 45) (a := b130) (as := [(.int (2 : Int32))]) (st := []) (W := 0) at_98 rfl rfl rfl rfl rfl rfl rfl rfl (rm6_9 l Z a0 hw n0 b130 b134 b133 b132 b131 j124 _ z_j124) (by decide) ⟨_, _, pd_4, rfl⟩ rfl rfl rfl (by decide) (by decide) (by decide) (by decide) ?_
         rintro _ T _ ⟨rfl, rfl⟩ A
         show Go p e below _ (T.setTop (mkF m 101 #[.val (.int a), .val (.int b), .val (.int fl), .val (.int (1 : Int32)), .val (.int (2 : Int32)), .val (.int j124), .val (.int j128), .val (.ref b130), .val (.int (1 : Int32)), .unset, .unset, .unset] [(.int (0 : Int32))]))
         refine A.istore (q := 103) (l' := #[.val (.int a), .val (.int b), .val (.int fl), .val (.int (1 : Int32)), .val (.int (2 : Int32)), .val (.int j124), .val (.int j128), .val (.ref b130), .val (.int (1 : Int32)), .val (.int (0 : Int32)), .unset, .unset]) at_101 rfl rfl ?_
         refine A.aload (q := 105) at_103 rfl rfl rfl ?_
         refine A.iloadN (q := 106) at_105 rfl rfl ?_
         refine A.callV (q := 109) (i := 0) (w1 := 43) (w2 := 44) (w3 := 3) (w4 := 47) (w5 := 46) (w6 := 45) (a := b130) (as := [(.int (1 : Int32))]) (st := []) (W := 0) at_106 rfl rfl rfl rfl rfl rfl rfl rfl (rm6_10 l Z a0 hw n0 b130 b134 b133 b132 b131 j124 _ z_j124) (by decide) ⟨_, _, pd_4, rfl⟩ rfl rfl rfl (by decide) (by decide) (by decide) (by decide) ?_
         rintro _ T _ ⟨rfl, rfl⟩ A
         show Go p e below _ (T.setTop (mkF m 109 #[.val (.int a), .val (.int b), .val (.int fl), .val (.int (1 : Int32)), .val (.int (2 : Int32)), .val (.int j124), .val (.int j128), .val (.ref b130), .val (.int (1 : Int32)), .val (.int (0 : Int32)), .unset, .unset] [(.int j124)]))
         refine A.istore (q := 111) (l' := #[.val (.int a), .val (.int b), .val (.int fl), .val (.int (1 : Int32)), .val (.int (2 : Int32)), .val (.int j124), .val (.int j128), .val (.ref b130), .val (.int (1 : Int32)), .val (.int (0 : Int32)), .val (.int j124), .unset]) at_109 rfl rfl ?_
         refine A.iload (q := 113) at_111 rfl rfl ?_
         refine A.ifF (q := 116) at_113 rfl (by decide) ?_
         refine A.iload (q := 118) at_116 rfl rfl ?_
         refine A.iload (q := 120) at_118 rfl rfl ?_
         refine A.icmpF (q := 123) at_120 rfl (teq rfl).2 ?_
         refine A.iload (q := 125) at_123 rfl rfl ?_
         refine A.iload (q := 127) at_125 rfl rfl ?_
         refine A.iloadN (q := 128) at_127 rfl rfl ?_
         refine A.icmpT (r := 136) at_128 (by decide) (by decide) ?_
         refine A.iconst (q := 137) (v := (0 : Int32)) at_136 rfl (by decide) ?_
         refine A.icmpF (q := 140) at_137 rfl (by decide) ?_
         refine A.iconst (q := 141) (v := (1 : Int32)) at_140 rfl (by decide) ?_
         refine A.goto (r := 145) at_141 (by decide) ?_
         refine A.istore (q := 147) (l' := #[.val (.int a), .val (.int b), .val (.int fl), .val (.int (1 : Int32)), .val (.int (2 : Int32)), .val (.int j124), .val (.int j128), .val (.ref b130), .val (.int (1 : Int32)), .val (.int (0 : Int32)), .val (.int j124), .unset]) at_145 rfl rfl ?_
         refine A.aload (q := 149) at_147 rfl rfl rfl ?_
         refine A.callV (q := 152) (i := 0) (w1 := 48) (w2 := 49) (w3 := 3) (w4 := 52) (w5 := 51) (w6 := 50) (a := b130) (as := []) (st := []) (W := 0) at_149 rfl rfl rfl rfl rfl rfl rfl rfl (rm7_6 l Z a0 hw n0 b130 b134 b133 b132 b131 j124 _ z_j124) (by decide) ⟨_, _, pd_5, rfl⟩ rfl rfl rfl (by decide) (by decide) (by decide) (by decide) ?_
         rintro _ T _ ⟨rfl, rfl⟩ A
         show Go p e below _ (T.setTop (mkF m 152 #[.val (.int a), .val (.int b), .val (.int fl), .val (.int (1 : Int32)), .val (.int (2 : Int32)), .val (.int j124), .val (.int j128), .val (.ref b130), .val (.int (1 : Int32)), .val (.int (0 : Int32)), .val (.int j124), .unset] [(.int (1 : Int32))]))
         refine A.istore (q := 154) (l' := #[.val (.int a), .val (.int b), .val (.int fl), .val (.int (1 : Int32)), .val (.int (2 : Int32)), .val (.int j124), .val (.int j128), .val (.ref b130), .val (.int (1 : Int32)), .val (.int (0 : Int32)), .val (.int j124), .val (.int (1 : Int32))]) at_152 rfl rfl ?_
         refine A.iload (q := 156) at_154 rfl rfl ?_
         refine A.ifF (q := 159) at_156 rfl (by decide) ?_
         refine A.iload (q := 161) at_159 rfl rfl ?_
         refine A.iload (q := 163) at_161 rfl rfl ?_
         refine A.iloadN (q := 164) at_163 rfl rfl ?_
         refine A.icmpF (q := 167) at_164 rfl (by decide) ?_
         refine A.iconst (q := 168) (v := (1 : Int32)) at_167 rfl (by decide) ?_
         refine A.goto (r := 172) at_168 (by decide) ?_
         refine A.icmpF (q := 175) at_172 rfl (by decide) ?_
         refine A.aload (q := 177) at_175 rfl rfl rfl ?_
         refine A.callV (q := 180) (i := 0) (w1 := 25) (w2 := 26) (w3 := 3) (w4 := 29) (w5 := 28) (w6 := 27) (a := b130) (as := []) (st := []) (W := 0) at_177 rfl rfl rfl rfl rfl rfl rfl rfl (rm4_8 l Z a0 hw n0 b130 b134 b133 b132 b131 j124 _ z_j124) (by decide) ⟨_, _, pd_2, rfl⟩ rfl rfl rfl (by decide) (by decide) (by decide) (by decide) ?_
         rintro _ T _ ⟨b143, rfl, rfl⟩ A
         show Go p e below _ (T.setTop (mkF m 180 #[.val (.int a), .val (.int b), .val (.int fl), .val (.int (1 : Int32)), .val (.int (2 : Int32)), .val (.int j124), .val (.int j128), .val (.ref b130), .val (.int (1 : Int32)), .val (.int (0 : Int32)), .val (.int j124), .val (.int (1 : Int32))] [(.ref b143)]))
         refine A.iloadN (q := 181) at_180 rfl rfl ?_
         refine A.iload (q := 183) at_181 rfl rfl ?_
         refine A.iload (q := 185) at_183 rfl rfl ?_
         refine A.iloadN (q := 186) at_185 rfl rfl ?_
         refine A.icmpF (q := 189) at_186 rfl (by decide) ?_
         refine A.iload (q := 191) at_189 rfl rfl ?_
         refine A.goto (r := 195) at_191 (by decide) ?_
         refine A.callS (q := 198) (w1 := 39) (w2 := 40) (w3 := 41) (w4 := 42) (as := [(.ref b143), (.int (1 : Int32)), (.int j124), (.int (2 : Int32))]) (st := []) (W := 0) at_195 rfl rfl rfl rfl rfl (rm5_6 l Z a0 hw n0 b143 j124 _ z_j124) (by decide) ⟨_, _, pd_3, rfl⟩ rfl rfl rfl (by decide) (by decide) (by decide) (by decide) ?_
         rintro _ T _ ⟨rfl, rfl⟩ A
         show Go p e below _ (T.setTop (mkF m 198 #[.val (.int a), .val (.int b), .val (.int fl), .val (.int (1 : Int32)), .val (.int (2 : Int32)), .val (.int j124), .val (.int j128), .val (.ref b130), .val (.int (1 : Int32)), .val (.int (0 : Int32)), .val (.int j124), .val (.int (1 : Int32))] [(.int (1 : Int32))]))
         refine A.ifF (q := 201) at_198 rfl (by decide) ?_
         refine A.iconst (q := 202) (v := (1 : Int32)) at_201 rfl (by decide) ?_
         refine A.goto (r := 206) at_202 (by decide) ?_
         refine A.istore (q := 208) (l' := #[.val (.int a), .val (.int b), .val (.int fl), .val (.int (1 : Int32)), .val (.int (2 : Int32)), .val (.int j124), .val (.int j128), .val (.ref b130), .val (.int (1 : Int32)), .val (.int (0 : Int32)), .val (.int j124), .val (.int (1 : Int32))]) at_206 rfl rfl ?_
         refine A.aload (q := 210) at_208 rfl rfl rfl ?_
         have A := A.front (i := 5) rfl rfl
         have A := A.front (i := 5) rfl rfl
         have A := A.front (i := 5) rfl rfl
         have A := A.front (i := 5) rfl rfl
         have A := A.front (i := 5) (L' := [(b130, ob0 (.ref b134) (.ref b133) (.ref b132) (.ref b131) (.int (0 : Int32))), (b134, .inr (.boolean, [(.int (0 : Int32)), (.int j124), (.int (1 : Int32))])), (b133, .inr (.int, [(.int (2 : Int32)), (.int (0 : Int32)), (.int (0 : Int32))])), (b132, .inr (.boolean, [(.int (0 : Int32)), (.int (0 : Int32)), (.int (0 : Int32))])), (b131, .inr (.boolean, [(.int (0 : Int32)), (.int (1 : Int32)), (.int (0 : Int32))])), (b143, .inr (.boolean, [(.int (0 : Int32)), (.int j124), (.int (1 : Int32))])), (b142, .inr (.boolean, [(.int (0 : Int32)), (.int j124), (.int (0 : Int32))]))]) rfl rfl
         refine A.callV (q := 213) (i := 0) (w1 := 55) (w2 := 56) (w3 := 3) (w4 := 59) (w5 := 58) (w6 := 57) (a := b130) (as := []) (st := []) (W := 0) at_210 rfl rfl rfl rfl rfl rfl rfl rfl (rm8_6 l Z a0 hw n0 b130 b134 b133 b132 b131 j124 _ z_j124) (by decide) ⟨_, _, pd_6, rfl⟩ rfl rfl rfl (by decide) (by decide) (by decide) (by decide) ?_
         rintro _ T _ ⟨rfl, rfl⟩ A
         show Go p e below _ (T.setTop (mkF m 213 #[.val (.int a), .val (.int b), .val (.int fl), .val (.int (1 : Int32)), .val (.int (2 : Int32)), .val (.int j124), .val (.int j128), .val (.ref b130), .val (.int (1 : Int32)), .val (.int (0 : Int32)), .val (.int j124), .val (.int (1 : Int32))] []))
         refine A.iload (q := 215) at_213 rfl rfl ?_
         refine A.ifF (q := 218) at_215 rfl (by decide) ?_
         refine A.aload (q := 220) at_218 rfl rfl rfl ?_
         refine A.callV (q := 223) (i := 0) (w1 := 25) (w2 := 26) (w3 := 3) (w4 := 29) (w5 := 28) (w6 := 27) (a := b130) (as := []) (st := []) (W := 0) at_220 rfl rfl rfl rfl rfl rfl rfl rfl (rm4_9 l Z a0 hw n0 b130 b134 b133 b132 b131 j124 _ z_j124) (by decide) ⟨_, _, pd_2, rfl⟩ rfl rfl rfl (by decide) (by decide) (by decide) (by decide) ?_
         rintro _ T _ ⟨b144, rfl, rfl⟩ A
         show Go p e below _ (T.setTop (mkF m 223 #[.val (.int a), .val (.int b), .val (.int fl), .val (.int (1 : Int32)), .val (.int (2 : Int32)), .val (.int j124), .val (.int j128), .val (.ref b130), .val (.int (1 : Int32)), .val (.int (0 : Int32)), .val (.int j124), .val (.int (1 : Int32))] [(.ref b144)]))
         refine A.iloadN (q := 224) at_223 rfl rfl ?_
         refine A.iload (q := 226) at_224 rfl rfl ?_
         refine A.iconst (q := 227) (v := (-1 : Int32)) at_226 rfl (by decide) ?_
         refine A.callS (q := 230) (w1 := 39) (w2 := 40) (w3 := 41) (w4 := 42) (as := [(.ref b144), (.int (1 : Int32)), (.int j124), (.int (-1 : Int32))]) (st := []) (W := 0) at_227 rfl rfl rfl rfl rfl (rm5_4 l Z a0 hw n0 b144 j124 _ z_j124) (by decide) ⟨_, _, pd_3, rfl⟩ rfl rfl rfl (by decide) (by decide) (by decide) (by decide) ?_
         rintro _ T _ ⟨rfl, rfl⟩ A
         show Go p e below _ (T.setTop (mkF m 230 #[.val (.int a), .val (.int b), .val (.int fl), .val (.int (1 : Int32)), .val (.int (2 : Int32)), .val (.int j124), .val (.int j128), .val (.ref b130), .val (.int (1 : Int32)), .val (.int (0 : Int32)), .val (.int j124), .val (.int (1 : Int32))] [(.int (1 : Int32))]))
         refine A.ifF (q := 233) at_230 rfl (by decide) ?_
         refine A.iconst (q := 234) (v := (1 : Int32)) at_233 rfl (by decide) ?_
         refine A.goto (r := 238) at_234 (by decide) ?_
         refine A.istore (q := 240) (l' := #[.val (.int a), .val (.int b), .val (.int fl), .val (.int (1 : Int32)), .val (.int (2 : Int32)), .val (.int j124), .val (.int j128), .val (.ref b130), .val (.int (1 : Int32)), .val (.int (0 : Int32)), .val (.int j124), .val (.int (1 : Int32))]) at_238 rfl rfl ?_
         refine A.iload (q := 242) at_240 rfl rfl ?_
         exact A.retZ (v := 1) at_242 (by decide) (by decide) (by decide) rfl
        refine A.iload (q := 53) at_51 rfl rfl ?_
        refine A.if_eq (q := 56) (r := 72) at_53 rfl (by decide) (fun h135 => ?_) (fun h135 => ?_)
        · exact J51_140 T _ _ (by simp only [if_pos h135]) (by simp only [if_pos h135]) A
        · refine A.aload (q := 58) at_56 rfl rfl rfl ?_
          refine A.iloadN (q := 59) at_58 rfl rfl ?_
          have J59_137 : ∀ (T : State) (j137 : Int32), j137 = (if j124 = (0 : Int32) then (1 : Int32) else (0 : Int32)) → Here p l e room_1 s m ([(.int a), (.int b), (.int fl)] : List Value).toArray below meth c Z a0 tables_1 x.cls x.name code 12 (some .boolean) n0 T [(b131, .inr (.boolean, [(.int (0 : Int32)), (.int (0 : Int32)), (.int (0 : Int32))])), (b132, .inr (.boolean, [(.int (0 : Int32)), (.int (0 : Int32)), (.int (0 : Int32))])), (b133, .inr (.int, [(.int (0 : Int32)), (.int (0 : Int32)), (.int (0 : Int32))])), (b134, .inr (.boolean, [(.int (0 : Int32)), (.int (0 : Int32)), (.int (0 : Int32))])), (b130, ob0 (.ref b134) (.ref b133) (.ref b132) (.ref b131) (.int (0 : Int32)))] 5 18 → Go p e below (EndS below s n0 Z 24 128 (fun v _ => v = some (.int 1))) (T.setTop (mkF m 69 #[.val (.int a), .val (.int b), .val (.int fl), .val (.int (1 : Int32)), .val (.int (2 : Int32)), .val (.int j124), .val (.int j128), .val (.ref b130), .unset, .unset, .unset, .unset] [(.int j137), (.int (1 : Int32)), (.ref b130)])) := by
           intro T j137 ej137 A
           have z_j137 : nar .boolean j137 = j137 := by rw [ej137]; (repeat' split) <;> first | decide | assumption
           have A := A.front (i := 1) rfl rfl
           have A := A.front (i := 2) rfl rfl
           have A := A.front (i := 3) rfl rfl
           have A := A.front (i := 4) (L' := [(b130, ob0 (.ref b134) (.ref b133) (.ref b132) (.ref b131) (.int (0 : Int32))), (b134, .inr (.boolean, [(.int (0 : Int32)), (.int (0 : Int32)), (.int (0 : Int32))])), (b133, .inr (.int, [(.int (0 : Int32)), (.int (0 : Int32)), (.int (0 : Int32))])), (b132, .inr (.boolean, [(.int (0 : Int32)), (.int (0 : Int32)), (.int (0 : Int32))])), (b131, .inr (.boolean, [(.int (0 : Int32)), (.int (0 : Int32)), (.int (0 : Int32))]))]) rfl rfl
           refine A.callV (q := 72) (i := 0) (w1 := 20) (w2 := 21) (w3 := 3) (w4 := 24) (w5 := 23) (w6 := 22) (a := b130) (as := [(.int (1 : Int32)), (.int j137)]) (st := []) (W := 0) at_69 rfl rfl rfl rfl rfl rfl rfl rfl (rm3_3 l Z a0 hw n0 b130 j137 b134 b133 b132 b131 _ z_j137) (by decide) ⟨_, _, pd_1, rfl⟩ rfl rfl rfl (by decide) (by decide) (by decide) (by decide) ?_
           rintro _ T _ ⟨rfl, rfl⟩ A
           show Go p e below _ (T.setTop (mkF m 72 #[.val (.int a), .val (.int b), .val (.int fl), .val (.int (1 : Int32)), .val (.int (2 : Int32)), .val (.int j124), .val (.int j128), .val (.ref b130), .unset, .unset, .unset, .unset] []))
           have A := A.front (i := 1) rfl rfl
           have A := A.front (i := 2) rfl rfl
           have A := A.front (i := 3) rfl rfl
           have A := A.front (i := 4) (L' := [(b131, .inr (.boolean, [(.int (0 : Int32)), (.int (1 : Int32)), (.int (0 : Int32))])), (b132, .inr (.boolean, [(.int (0 : Int32)), (.int (0 : Int32)), (.int (0 : Int32))])), (b133, .inr (.int, [(.int (0 : Int32)), (.int (0 : Int32)), (.int (0 : Int32))])), (b134, .inr (.boolean, [(.int (0 : Int32)), (.int j137), (.int (0 : Int32))])), (b130, ob0 (.ref b134) (.ref b133) (.ref b132) (.ref b131) (.int (0 : Int32)))]) rfl rfl
           exact J51_140 T _ _ (by simp only [ej137, if_neg h135]) (by simp only [ej137, if_neg h135]) A
          refine A.iload (q := 61) at_59 rfl rfl ?_
          refine A.if_ne (q := 64) (r := 68) at_61 rfl (by decide) (fun h136 => ?_) (fun h136 => ?_)
          · refine A.iconst (q := 69) (v := (0 : Int32)) at_68 rfl (by decide) ?_
            exact J59_137 T _ (by simp only [if_neg h136]) A
          · refine A.iconst (q := 65) (v := (1 : Int32)) at_64 rfl (by decide) ?_
            refine A.goto (r := 69) at_65 (by decide) ?_
            exact J59_137 T _ (by simp only [if_pos h136]) A
       refine A.iloadN (q := 29) at_28 rfl rfl ?_
       refine A.iconst (q := 30) (v := (2 : Int32)) at_29 rfl (by decide) ?_
       obtain ⟨v126, e126⟩ : ∃ v : Int32, fl &&& (2 : Int32) = v := ⟨_, rfl⟩
       refine A.iand (q := 31) at_30 rfl e126 ?_
       refine A.if_eq (q := 34) (r := 38) at_31 rfl (by decide) (fun h127 => ?_) (fun h127 => ?_)
       · refine A.iconst (q := 39) (v := (0 : Int32)) at_38 rfl (by decide) ?_
         exact J28_128 T _ (by simp only [e126, if_pos h127]) A
       · refine A.iconst (q := 35) (v := (1 : Int32)) at_34 rfl (by decide) ?_
         refine A.goto (r := 39) at_35 (by decide) ?_
         exact J28_128 T _ (by simp only [e126, if_neg h127]) A
      refine A.iloadN (q := 16) at_15 rfl rfl ?_
      refine A.iconst (q := 17) (v := (1 : Int32)) at_16 rfl (by decide) ?_
      obtain ⟨v122, e122⟩ : ∃ v : Int32, fl &&& (1 : Int32) = v := ⟨_, rfl⟩
      refine A.iand (q := 18) at_17 rfl e122 ?_
      refine A.if_eq (q := 21) (r := 25) at_18 rfl (by decide) (fun h123 => ?_) (fun h123 => ?_)
      · refine A.iconst (q := 26) (v := (0 : Int32)) at_25 rfl (by decide) ?_
        exact J15_124 T _ (by simp only [e122, if_pos h123]) A
      · refine A.iconst (q := 22) (v := (1 : Int32)) at_21 rfl (by decide) ?_
        refine A.goto (r := 26) at_22 (by decide) ?_
        exact J15_124 T _ (by simp only [e122, if_neg h123]) A
  · refine A.iloadN (q := 8) at_7 rfl rfl ?_
    refine A.ldc (q := 10) (v := (2147483647 : Int32)) (w := 0) at_8 rfl rfl ?_
    obtain ⟨v145, e145⟩ : ∃ v : Int32, b &&& (2147483647 : Int32) = v := ⟨_, rfl⟩
    refine A.iand (q := 11) at_10 rfl e145 ?_
    refine A.iconst (q := 12) (v := (3 : Int32)) at_11 rfl (by decide) ?_
    obtain ⟨v146, e146⟩ : ∃ v : Int32, v145 % (3 : Int32) = v := ⟨_, rfl⟩
    refine A.irem (q := 13) at_12 rfl (by decide) e146 ?_
    refine A.istore (q := 15) (l' := #[.val (.int a), .val (.int b), .val (.int fl), .val (.int (2 : Int32)), .val (.int v146), .unset, .unset, .unset, .unset, .unset, .unset, .unset]) at_13 rfl rfl ?_
    have hn : v146 = 0 ∨ v146 = 1 ∨ v146 = 2 := by subst e1 e145 e146; exact own_mod3 _
    rcases hn with rfl | rfl | rfl
    · have J15_149 : ∀ (T : State) (j149 : Int32), j149 = (if (fl &&& (1 : Int32)) = (0 : Int32) then (0 : Int32) else (1 : Int32)) → Here p l e room_1 s m ([(.int a), (.int b), (.int fl)] : List Value).toArray below meth c Z a0 tables_1 x.cls x.name code 12 (some .boolean) n0 T [] 0 0 → Go p e below (EndS below s n0 Z 24 128 (fun v _ => v = some (.int 1))) (T.setTop (mkF m 26 #[.val (.int a), .val (.int b), .val (.int fl), .val (.int (2 : Int32)), .val (.int (0 : Int32)), .unset, .unset, .unset, .unset, .unset, .unset, .unset] [(.int j149)])) := by
       intro T j149 ej149 A
       have z_j149 : nar .boolean j149 = j149 := by rw [ej149]; (repeat' split) <;> first | decide | assumption
       refine A.istore (q := 28) (l' := #[.val (.int a), .val (.int b), .val (.int fl), .val (.int (2 : Int32)), .val (.int (0 : Int32)), .val (.int j149), .unset, .unset, .unset, .unset, .unset, .unset]) at_26 rfl rfl ?_
       have J28_153 : ∀ (T : State) (j153 : Int32), j153 = (if (fl &&& (2 : Int32)) = (0 : Int32) then (0 : Int32) else (1 : Int32)) → Here p l e room_1 s m ([(.int a), (.int b), (.int fl)] : List Value).toArray below meth c Z a0 tables_1 x.cls x.name code 12 (some .boolean) n0 T [] 0 0 → Go p e below (EndS below s n0 Z 24 128 (fun v _ => v = some (.int 1))) (T.setTop (mkF m 39 #[.val (.int a), .val (.int b), .val (.int fl), .val (.int (2 : Int32)), .val (.int (0 : Int32)), .val (.int j149), .unset, .unset, .unset, .unset, .unset, .unset] [(.int j153)])) := by
        intro T j153 ej153 A
        have z_j153 : nar .boolean j153 = j153 := by rw [ej153]; (repeat' split) <;> first | decide | assumption
        refine A.istore (q := 41) (l' := #[.val (.int a), .val (.int b), .val (.int fl), .val (.int (2 : Int32)), .val (.int (0 : Int32)), .val (.int j149), .val (.int j153), .unset, .unset, .unset, .unset, .unset]) at_39 rfl rfl ?_
        refine A.newO (q := 44) (w1 := 1) (w2 := 2) (w3 := 3) (n := 6) (fs := [(("com/example/proof_of_scan/proofofscan/Choices", "values", "[Z"), .null), (("com/example/proof_of_scan/proofofscan/Choices", "taken", "[I"), .null), (("com/example/proof_of_scan/proofofscan/Choices", "isTaken", "[Z"), .null), (("com/example/proof_of_scan/proofofscan/Choices", "isHeld", "[Z"), .null), (("com/example/proof_of_scan/proofofscan/Choices", "takenCount", "I"), (.int (0 : Int32)))]) at_41 rfl rfl rfl rfl (lay_0 Z a0 hw) (by decide) (by decide) (by decide) ?_
        intro T b155 A
        refine A.dup (q := 45) at_44 rfl rfl ?_
        refine A.iconst (q := 46) (v := (3 : Int32)) at_45 rfl (by decide) ?_
        refine A.callI (q := 49) (w1 := 4) (w2 := 5) (w3 := 3) (w4 := 6) (a := b155) (as := [(.int (3 : Int32))]) (st := [(.ref b155)]) (W := 1) at_46 rfl rfl rfl rfl rfl rfl (rm1_1 l Z a0 hw n0 b155 _) (by decide) ⟨_, _, pd_0, rfl⟩ rfl rfl rfl (by decide) (by decide) (by decide) (by decide) ?_
        rintro _ T _ ⟨b156, b157, b158, b159, rfl, rfl⟩ A
        show Go p e below _ (T.setTop (mkF m 49 #[.val (.int a), .val (.int b), .val (.int fl), .val (.int (2 : Int32)), .val (.int (0 : Int32)), .val (.int j149), .val (.int j153), .unset, .unset, .unset, .unset, .unset] [(.ref b155)]))
        refine A.astore (q := 51) (l' := #[.val (.int a), .val (.int b), .val (.int fl), .val (.int (2 : Int32)), .val (.int (0 : Int32)), .val (.int j149), .val (.int j153), .val (.ref b155), .unset, .unset, .unset, .unset]) at_49 rfl rfl rfl ?_
        have J51_165 : ∀ (T : State) (j164 : Int32) (j165 : Int32), j164 = (if j153 = (0 : Int32) then (0 : Int32) else (1 : Int32)) → j165 = (if j153 = (0 : Int32) then (0 : Int32) else ((if j149 = (0 : Int32) then (1 : Int32) else (0 : Int32)))) → Here p l e room_1 s m ([(.int a), (.int b), (.int fl)] : List Value).toArray below meth c Z a0 tables_1 x.cls x.name code 12 (some .boolean) n0 T [(b156, .inr (.boolean, [(.int (0 : Int32)), (.int (0 : Int32)), (.int j164)])), (b157, .inr (.boolean, [(.int (0 : Int32)), (.int (0 : Int32)), (.int (0 : Int32))])), (b158, .inr (.int, [(.int (0 : Int32)), (.int (0 : Int32)), (.int (0 : Int32))])), (b159, .inr (.boolean, [(.int (0 : Int32)), (.int (0 : Int32)), (.int j165)])), (b155, ob0 (.ref b159) (.ref b158) (.ref b157) (.ref b156) (.int (0 : Int32)))] 5 18 → Go p e below (EndS below s n0 Z 24 128 (fun v _ => v = some (.int 1))) (T.setTop (mkF m 72 #[.val (.int a), .val (.int b), .val (.int fl), .val (.int (2 : Int32)), .val (.int (0 : Int32)), .val (.int j149), .val (.int j153), .val (.ref b155), .unset, .unset, .unset, .unset] [])) := by
         intro T j164 j165 ej164 ej165 A
         have z_j164 : nar .boolean j164 = j164 := by rw [ej164]; (repeat' split) <;> first | decide | assumption
         have z_j165 : nar .boolean j165 = j165 := by rw [ej165]; (repeat' split) <;> first | decide | assumption
         refine A.aload (q := 74) at_72 rfl rfl rfl ?_
         refine A.iloadN (q := 75) at_74 rfl rfl ?_
         refine A.iload (q := 77) at_75 rfl rfl ?_
         have A := A.front (i := 1) rfl rfl
         have A := A.front (i := 2) rfl rfl
         have A := A.front (i := 3) rfl rfl
         have A := A.front (i := 4) (L' := [(b155, ob0 (.ref b159) (.ref b158) (.ref b157) (.ref b156) (.int (0 : Int32))), (b159, .inr (.boolean, [(.int (0 : Int32)), (.int (0 : Int32)), (.int j165)])), (b158, .inr (.int, [(.int (0 : Int32)), (.int (0 : Int32)), (.int (0 : Int32))])), (b157, .inr (.boolean, [(.int (0 : Int32)), (.int (0 : Int32)), (.int (0 : Int32))])), (b156, .inr (.boolean, [(.int (0 : Int32)), (.int (0 : Int32)), (.int j164)]))]) rfl rfl
         refine A.callV (q := 80) (i := 0) (w1 := 20) (w2 := 21) (w3 := 3) (w4 := 24) (w5 := 23) (w6 := 22) (a := b155) (as := [(.int (2 : Int32)), (.int j149)]) (st := []) (W := 0) at_77 rfl rfl rfl rfl rfl rfl rfl rfl (rm3_6 l Z a0 hw n0 b155 j149 b159 b158 b157 b156 j165 j164 _ z_j149 z_j165 z_j164) (by decide) ⟨_, _, pd_1, rfl⟩ rfl rfl rfl (by decide) (by decide) (by decide) (by decide) ?_
         rintro _ T _ ⟨rfl, rfl⟩ A
         show Go p e below _ (T.setTop (mkF m 80 #[.val (.int a), .val (.int b), .val (.int fl), .val (.int (2 : Int32)), .val (.int (0 : Int32)), .val (.int j149), .val (.int j153), .val (.ref b155), .unset, .unset, .unset, .unset] []))
         refine A.aload (q := 82) at_80 rfl rfl rfl ?_
         refine A.callV (q := 85) (i := 0) (w1 := 25) (w2 := 26) (w3 := 3) (w4 := 29) (w5 := 28) (w6 := 27) (a := b155) (as := []) (st := []) (W := 0) at_82 rfl rfl rfl rfl rfl rfl rfl rfl (rm4_10 l Z a0 hw n0 b155 b159 b158 b157 b156 j149 _ z_j149) (by decide) ⟨_, _, pd_2, rfl⟩ rfl rfl rfl (by decide) (by decide) (by decide) (by decide) ?_
         rintro _ T _ ⟨b167, rfl, rfl⟩ A
         show Go p e below _ (T.setTop (mkF m 85 #[.val (.int a), .val (.int b), .val (.int fl), .val (.int (2 : Int32)), .val (.int (0 : Int32)), .val (.int j149), .val (.int j153), .val (.ref b155), .unset, .unset, .unset, .unset] [(.ref b167)]))
         refine A.iloadN (q := 86) at_85 rfl rfl ?_
         refine A.iload (q := 88) at_86 rfl rfl ?_
         refine A.iconst (q := 89) (v := (-1 : Int32)) at_88 rfl (by decide) ?_
         refine A.callS (q := 92) (w1 := 39) (w2 := 40) (w3 := 41) (w4 := 42) (as := [(.ref b167), (.int (2 : Int32)), (.int j149), (.int (-1 : Int32))]) (st := []) (W := 0) at_89 rfl rfl rfl rfl rfl (rm5_7 l Z a0 hw n0 b167 j149 _ z_j149) (by decide) ⟨_, _, pd_3, rfl⟩ rfl rfl rfl (by decide) (by decide) (by decide) (by decide) ?_
         rintro _ T _ ⟨rfl, rfl⟩ A
         show Go p e below _ (T.setTop (mkF m 92 #[.val (.int a), .val (.int b), .val (.int fl), .val (.int (2 : Int32)), .val (.int (0 : Int32)), .val (.int j149), .val (.int j153), .val (.ref b155), .unset, .unset, .unset, .unset] [(.int (1 : Int32))]))
         refine A.istore (q := 94) (l' := #[.val (.int a), .val (.int b), .val (.int fl), .val (.int (2 : Int32)), .val (.int (0 : Int32)), .val (.int j149), .val (.int j153), .val (.ref b155), .val (.int (1 : Int32)), .unset, .unset, .unset]) at_92 rfl rfl ?_
         refine A.aload (q := 96) at_94 rfl rfl rfl ?_
         refine A.iload (q := 98) at_96 rfl rfl ?_
         have A := A.front (i := 5) rfl rfl
         have A := A.front (i := 5) rfl rfl
         have A := A.front (i := 5) rfl rfl
         have A := A.front (i := 5) rfl rfl
         have A := A.front (i := 5) (L' := [(b155, ob0 (.ref b159) (.ref b158) (.ref b157) (.ref b156) (.int (0 : Int32))), (b159, .inr (.boolean, [(.int (0 : Int32)), (.int (0 : Int32)), (.int j149)])), (b158, .inr (.int, [(.int (0 : Int32)), (.int (0 : Int32)), (.int (0 : Int32))])), (b157, .inr (.boolean, [(.int (0 : Int32)), (.int (0 : Int32)), (.int (0 : Int32))])), (b156, .inr (.boolean, [(.int (0 : Int32)), (.int (0 : Int32)), (.int (1 : Int32))])), (b167, .inr (.boolean, [(.int (0 : Int32)), (.int (0 : Int32)), (.int j149)]))]) rfl rfl
         refine A.callV (q := 101) (i := 0) (w1 := 43) (w2 := 44) (w3 := 3) (w4 := 47) (w5 := 46) (w6 := 45) (a := b155) (as := [(.int (0 : Int32))]) (st := []) (W := 0) at_98 rfl rfl rfl rfl rfl rfl rfl rfl (rm6_11 l Z a0 hw n0 b155 b159 b158 b157 b156 j149 _ z_j149) (by decide) ⟨_, _, pd_4, rfl⟩ rfl rfl rfl (by decide) (by decide) (by decide) (by decide) ?_
         rintro _ T _ ⟨rfl, rfl⟩ A
         show Go p e below _ (T.setTop (mkF m 101 #[.val (.int a), .val (.int b), .val (.int fl), .val (.int (2 : Int32)), .val (.int (0 : Int32)), .val (.int j149), .val (.int j153), .val (.ref b155), .val (.int (1 : Int32)), .unset, .unset, .unset] [(.int (0 : Int32))]))
         refine A.istore (q := 103) (l' := #[.val (.int a), .val (.int b), .val (.int fl), .val (.int (2 : Int32)), .val (.int (0 : Int32)), .val (.int j149), .val (.int j153), .val (.ref b155), .val (.int (1 : Int32)), .val (.int (0 : Int32)), .unset, .unset]) at_101 rfl rfl ?_
         refine A.aload (q := 105) at_103 rfl rfl rfl ?_
         refine A.iloadN (q := 106) at_105 rfl rfl ?_
         refine A.callV (q := 109) (i := 0) (w1 := 43) (w2 := 44) (w3 := 3) (w4 := 47) (w5 := 46) (w6 := 45) (a := b155) (as := [(.int (2 : Int32))]) (st := []) (W := 0) at_106 rfl rfl rfl rfl rfl rfl rfl rfl (rm6_12 l Z a0 hw n0 b155 b159 b158 b157 b156 j149 _ z_j149) (by decide) ⟨_, _, pd_4, rfl⟩ rfl rfl rfl (by decide) (by decide) (by decide) (by decide) ?_
         rintro _ T _ ⟨rfl, rfl⟩ A
         show Go p e below _ (T.setTop (mkF m 109 #[.val (.int a), .val (.int b), .val (.int fl), .val (.int (2 : Int32)), .val (.int (0 : Int32)), .val (.int j149), .val (.int j153), .val (.ref b155), .val (.int (1 : Int32)), .val (.int (0 : Int32)), .unset, .unset] [(.int j149)]))
         refine A.istore (q := 111) (l' := #[.val (.int a), .val (.int b), .val (.int fl), .val (.int (2 : Int32)), .val (.int (0 : Int32)), .val (.int j149), .val (.int j153), .val (.ref b155), .val (.int (1 : Int32)), .val (.int (0 : Int32)), .val (.int j149), .unset]) at_109 rfl rfl ?_
         refine A.iload (q := 113) at_111 rfl rfl ?_
         refine A.ifF (q := 116) at_113 rfl (by decide) ?_
         refine A.iload (q := 118) at_116 rfl rfl ?_
         refine A.iload (q := 120) at_118 rfl rfl ?_
         refine A.icmpF (q := 123) at_120 rfl (teq rfl).2 ?_
         refine A.iload (q := 125) at_123 rfl rfl ?_
         refine A.iload (q := 127) at_125 rfl rfl ?_
         refine A.iloadN (q := 128) at_127 rfl rfl ?_
         refine A.icmpT (r := 136) at_128 (by decide) (by decide) ?_
         refine A.iconst (q := 137) (v := (0 : Int32)) at_136 rfl (by decide) ?_
         refine A.icmpF (q := 140) at_137 rfl (by decide) ?_
         refine A.iconst (q := 141) (v := (1 : Int32)) at_140 rfl (by decide) ?_
         refine A.goto (r := 145) at_141 (by decide) ?_
         refine A.istore (q := 147) (l' := #[.val (.int a), .val (.int b), .val (.int fl), .val (.int (2 : Int32)), .val (.int (0 : Int32)), .val (.int j149), .val (.int j153), .val (.ref b155), .val (.int (1 : Int32)), .val (.int (0 : Int32)), .val (.int j149), .unset]) at_145 rfl rfl ?_
         refine A.aload (q := 149) at_147 rfl rfl rfl ?_
         refine A.callV (q := 152) (i := 0) (w1 := 48) (w2 := 49) (w3 := 3) (w4 := 52) (w5 := 51) (w6 := 50) (a := b155) (as := []) (st := []) (W := 0) at_149 rfl rfl rfl rfl rfl rfl rfl rfl (rm7_7 l Z a0 hw n0 b155 b159 b158 b157 b156 j149 _ z_j149) (by decide) ⟨_, _, pd_5, rfl⟩ rfl rfl rfl (by decide) (by decide) (by decide) (by decide) ?_
         rintro _ T _ ⟨rfl, rfl⟩ A
         show Go p e below _ (T.setTop (mkF m 152 #[.val (.int a), .val (.int b), .val (.int fl), .val (.int (2 : Int32)), .val (.int (0 : Int32)), .val (.int j149), .val (.int j153), .val (.ref b155), .val (.int (1 : Int32)), .val (.int (0 : Int32)), .val (.int j149), .unset] [(.int (1 : Int32))]))
         refine A.istore (q := 154) (l' := #[.val (.int a), .val (.int b), .val (.int fl), .val (.int (2 : Int32)), .val (.int (0 : Int32)), .val (.int j149), .val (.int j153), .val (.ref b155), .val (.int (1 : Int32)), .val (.int (0 : Int32)), .val (.int j149), .val (.int (1 : Int32))]) at_152 rfl rfl ?_
         refine A.iload (q := 156) at_154 rfl rfl ?_
         refine A.ifF (q := 159) at_156 rfl (by decide) ?_
         refine A.iload (q := 161) at_159 rfl rfl ?_
         refine A.iload (q := 163) at_161 rfl rfl ?_
         refine A.iloadN (q := 164) at_163 rfl rfl ?_
         refine A.icmpF (q := 167) at_164 rfl (by decide) ?_
         refine A.iconst (q := 168) (v := (1 : Int32)) at_167 rfl (by decide) ?_
         refine A.goto (r := 172) at_168 (by decide) ?_
         refine A.icmpF (q := 175) at_172 rfl (by decide) ?_
         refine A.aload (q := 177) at_175 rfl rfl rfl ?_
         refine A.callV (q := 180) (i := 0) (w1 := 25) (w2 := 26) (w3 := 3) (w4 := 29) (w5 := 28) (w6 := 27) (a := b155) (as := []) (st := []) (W := 0) at_177 rfl rfl rfl rfl rfl rfl rfl rfl (rm4_11 l Z a0 hw n0 b155 b159 b158 b157 b156 j149 _ z_j149) (by decide) ⟨_, _, pd_2, rfl⟩ rfl rfl rfl (by decide) (by decide) (by decide) (by decide) ?_
         rintro _ T _ ⟨b168, rfl, rfl⟩ A
         show Go p e below _ (T.setTop (mkF m 180 #[.val (.int a), .val (.int b), .val (.int fl), .val (.int (2 : Int32)), .val (.int (0 : Int32)), .val (.int j149), .val (.int j153), .val (.ref b155), .val (.int (1 : Int32)), .val (.int (0 : Int32)), .val (.int j149), .val (.int (1 : Int32))] [(.ref b168)]))
         refine A.iloadN (q := 181) at_180 rfl rfl ?_
         refine A.iload (q := 183) at_181 rfl rfl ?_
         refine A.iload (q := 185) at_183 rfl rfl ?_
         refine A.iloadN (q := 186) at_185 rfl rfl ?_
         refine A.icmpF (q := 189) at_186 rfl (by decide) ?_
         refine A.iload (q := 191) at_189 rfl rfl ?_
         refine A.goto (r := 195) at_191 (by decide) ?_
         refine A.callS (q := 198) (w1 := 39) (w2 := 40) (w3 := 41) (w4 := 42) (as := [(.ref b168), (.int (2 : Int32)), (.int j149), (.int (0 : Int32))]) (st := []) (W := 0) at_195 rfl rfl rfl rfl rfl (rm5_8 l Z a0 hw n0 b168 j149 _ z_j149) (by decide) ⟨_, _, pd_3, rfl⟩ rfl rfl rfl (by decide) (by decide) (by decide) (by decide) ?_
         rintro _ T _ ⟨rfl, rfl⟩ A
         show Go p e below _ (T.setTop (mkF m 198 #[.val (.int a), .val (.int b), .val (.int fl), .val (.int (2 : Int32)), .val (.int (0 : Int32)), .val (.int j149), .val (.int j153), .val (.ref b155), .val (.int (1 : Int32)), .val (.int (0 : Int32)), .val (.int j149), .val (.int (1 : Int32))] [(.int (1 : Int32))]))
         refine A.ifF (q := 201) at_198 rfl (by decide) ?_
         refine A.iconst (q := 202) (v := (1 : Int32)) at_201 rfl (by decide) ?_
         refine A.goto (r := 206) at_202 (by decide) ?_
         refine A.istore (q := 208) (l' := #[.val (.int a), .val (.int b), .val (.int fl), .val (.int (2 : Int32)), .val (.int (0 : Int32)), .val (.int j149), .val (.int j153), .val (.ref b155), .val (.int (1 : Int32)), .val (.int (0 : Int32)), .val (.int j149), .val (.int (1 : Int32))]) at_206 rfl rfl ?_
         refine A.aload (q := 210) at_208 rfl rfl rfl ?_
         have A := A.front (i := 5) rfl rfl
         have A := A.front (i := 5) rfl rfl
         have A := A.front (i := 5) rfl rfl
         have A := A.front (i := 5) rfl rfl
         have A := A.front (i := 5) (L' := [(b155, ob0 (.ref b159) (.ref b158) (.ref b157) (.ref b156) (.int (0 : Int32))), (b159, .inr (.boolean, [(.int (1 : Int32)), (.int (0 : Int32)), (.int j149)])), (b158, .inr (.int, [(.int (0 : Int32)), (.int (0 : Int32)), (.int (0 : Int32))])), (b157, .inr (.boolean, [(.int (0 : Int32)), (.int (0 : Int32)), (.int (0 : Int32))])), (b156, .inr (.boolean, [(.int (0 : Int32)), (.int (0 : Int32)), (.int (1 : Int32))])), (b168, .inr (.boolean, [(.int (1 : Int32)), (.int (0 : Int32)), (.int j149)])), (b167, .inr (.boolean, [(.int (0 : Int32)), (.int (0 : Int32)), (.int j149)]))]) rfl rfl
         refine A.callV (q := 213) (i := 0) (w1 := 55) (w2 := 56) (w3 := 3) (w4 := 59) (w5 := 58) (w6 := 57) (a := b155) (as := []) (st := []) (W := 0) at_210 rfl rfl rfl rfl rfl rfl rfl rfl (rm8_7 l Z a0 hw n0 b155 b159 b158 b157 b156 j149 _ z_j149) (by decide) ⟨_, _, pd_6, rfl⟩ rfl rfl rfl (by decide) (by decide) (by decide) (by decide) ?_
         rintro _ T _ ⟨rfl, rfl⟩ A
         show Go p e below _ (T.setTop (mkF m 213 #[.val (.int a), .val (.int b), .val (.int fl), .val (.int (2 : Int32)), .val (.int (0 : Int32)), .val (.int j149), .val (.int j153), .val (.ref b155), .val (.int (1 : Int32)), .val (.int (0 : Int32)), .val (.int j149), .val (.int (1 : Int32))] []))
         refine A.iload (q := 215) at_213 rfl rfl ?_
         refine A.ifF (q := 218) at_215 rfl (by decide) ?_
         refine A.aload (q := 220) at_218 rfl rfl rfl ?_
         refine A.callV (q := 223) (i := 0) (w1 := 25) (w2 := 26) (w3 := 3) (w4 := 29) (w5 := 28) (w6 := 27) (a := b155) (as := []) (st := []) (W := 0) at_220 rfl rfl rfl rfl rfl rfl rfl rfl (rm4_10 l Z a0 hw n0 b155 b159 b158 b157 b156 j149 _ z_j149) (by decide) ⟨_, _, pd_2, rfl⟩ rfl rfl rfl (by decide) (by decide) (by decide) (by decide) ?_
         rintro _ T _ ⟨b169, rfl, rfl⟩ A
         show Go p e below _ (T.setTop (mkF m 223 #[.val (.int a), .val (.int b), .val (.int fl), .val (.int (2 : Int32)), .val (.int (0 : Int32)), .val (.int j149), .val (.int j153), .val (.ref b155), .val (.int (1 : Int32)), .val (.int (0 : Int32)), .val (.int j149), .val (.int (1 : Int32))] [(.ref b169)]))
         refine A.iloadN (q := 224) at_223 rfl rfl ?_
         refine A.iload (q := 226) at_224 rfl rfl ?_
         refine A.iconst (q := 227) (v := (-1 : Int32)) at_226 rfl (by decide) ?_
         refine A.callS (q := 230) (w1 := 39) (w2 := 40) (w3 := 41) (w4 := 42) (as := [(.ref b169), (.int (2 : Int32)), (.int j149), (.int (-1 : Int32))]) (st := []) (W := 0) at_227 rfl rfl rfl rfl rfl (rm5_7 l Z a0 hw n0 b169 j149 _ z_j149) (by decide) ⟨_, _, pd_3, rfl⟩ rfl rfl rfl (by decide) (by decide) (by decide) (by decide) ?_
         rintro _ T _ ⟨rfl, rfl⟩ A
         show Go p e below _ (T.setTop (mkF m 230 #[.val (.int a), .val (.int b), .val (.int fl), .val (.int (2 : Int32)), .val (.int (0 : Int32)), .val (.int j149), .val (.int j153), .val (.ref b155), .val (.int (1 : Int32)), .val (.int (0 : Int32)), .val (.int j149), .val (.int (1 : Int32))] [(.int (1 : Int32))]))
         refine A.ifF (q := 233) at_230 rfl (by decide) ?_
         refine A.iconst (q := 234) (v := (1 : Int32)) at_233 rfl (by decide) ?_
         refine A.goto (r := 238) at_234 (by decide) ?_
         refine A.istore (q := 240) (l' := #[.val (.int a), .val (.int b), .val (.int fl), .val (.int (2 : Int32)), .val (.int (0 : Int32)), .val (.int j149), .val (.int j153), .val (.ref b155), .val (.int (1 : Int32)), .val (.int (0 : Int32)), .val (.int j149), .val (.int (1 : Int32))]) at_238 rfl rfl ?_
         refine A.iload (q := 242) at_240 rfl rfl ?_
         exact A.retZ (v := 1) at_242 (by decide) (by decide) (by decide) rfl
        refine A.iload (q := 53) at_51 rfl rfl ?_
        refine A.if_eq (q := 56) (r := 72) at_53 rfl (by decide) (fun h160 => ?_) (fun h160 => ?_)
        · exact J51_165 T _ _ (by simp only [if_pos h160]) (by simp only [if_pos h160]) A
        · refine A.aload (q := 58) at_56 rfl rfl rfl ?_
          refine A.iloadN (q := 59) at_58 rfl rfl ?_
          have J59_162 : ∀ (T : State) (j162 : Int32), j162 = (if j149 = (0 : Int32) then (1 : Int32) else (0 : Int32)) → Here p l e room_1 s m ([(.int a), (.int b), (.int fl)] : List Value).toArray below meth c Z a0 tables_1 x.cls x.name code 12 (some .boolean) n0 T [(b156, .inr (.boolean, [(.int (0 : Int32)), (.int (0 : Int32)), (.int (0 : Int32))])), (b157, .inr (.boolean, [(.int (0 : Int32)), (.int (0 : Int32)), (.int (0 : Int32))])), (b158, .inr (.int, [(.int (0 : Int32)), (.int (0 : Int32)), (.int (0 : Int32))])), (b159, .inr (.boolean, [(.int (0 : Int32)), (.int (0 : Int32)), (.int (0 : Int32))])), (b155, ob0 (.ref b159) (.ref b158) (.ref b157) (.ref b156) (.int (0 : Int32)))] 5 18 → Go p e below (EndS below s n0 Z 24 128 (fun v _ => v = some (.int 1))) (T.setTop (mkF m 69 #[.val (.int a), .val (.int b), .val (.int fl), .val (.int (2 : Int32)), .val (.int (0 : Int32)), .val (.int j149), .val (.int j153), .val (.ref b155), .unset, .unset, .unset, .unset] [(.int j162), (.int (2 : Int32)), (.ref b155)])) := by
           intro T j162 ej162 A
           have z_j162 : nar .boolean j162 = j162 := by rw [ej162]; (repeat' split) <;> first | decide | assumption
           have A := A.front (i := 1) rfl rfl
           have A := A.front (i := 2) rfl rfl
           have A := A.front (i := 3) rfl rfl
           have A := A.front (i := 4) (L' := [(b155, ob0 (.ref b159) (.ref b158) (.ref b157) (.ref b156) (.int (0 : Int32))), (b159, .inr (.boolean, [(.int (0 : Int32)), (.int (0 : Int32)), (.int (0 : Int32))])), (b158, .inr (.int, [(.int (0 : Int32)), (.int (0 : Int32)), (.int (0 : Int32))])), (b157, .inr (.boolean, [(.int (0 : Int32)), (.int (0 : Int32)), (.int (0 : Int32))])), (b156, .inr (.boolean, [(.int (0 : Int32)), (.int (0 : Int32)), (.int (0 : Int32))]))]) rfl rfl
           refine A.callV (q := 72) (i := 0) (w1 := 20) (w2 := 21) (w3 := 3) (w4 := 24) (w5 := 23) (w6 := 22) (a := b155) (as := [(.int (2 : Int32)), (.int j162)]) (st := []) (W := 0) at_69 rfl rfl rfl rfl rfl rfl rfl rfl (rm3_5 l Z a0 hw n0 b155 j162 b159 b158 b157 b156 _ z_j162) (by decide) ⟨_, _, pd_1, rfl⟩ rfl rfl rfl (by decide) (by decide) (by decide) (by decide) ?_
           rintro _ T _ ⟨rfl, rfl⟩ A
           show Go p e below _ (T.setTop (mkF m 72 #[.val (.int a), .val (.int b), .val (.int fl), .val (.int (2 : Int32)), .val (.int (0 : Int32)), .val (.int j149), .val (.int j153), .val (.ref b155), .unset, .unset, .unset, .unset] []))
           have A := A.front (i := 1) rfl rfl
           have A := A.front (i := 2) rfl rfl
           have A := A.front (i := 3) rfl rfl
           have A := A.front (i := 4) (L' := [(b156, .inr (.boolean, [(.int (0 : Int32)), (.int (0 : Int32)), (.int (1 : Int32))])), (b157, .inr (.boolean, [(.int (0 : Int32)), (.int (0 : Int32)), (.int (0 : Int32))])), (b158, .inr (.int, [(.int (0 : Int32)), (.int (0 : Int32)), (.int (0 : Int32))])), (b159, .inr (.boolean, [(.int (0 : Int32)), (.int (0 : Int32)), (.int j162)])), (b155, ob0 (.ref b159) (.ref b158) (.ref b157) (.ref b156) (.int (0 : Int32)))]) rfl rfl
           exact J51_165 T _ _ (by simp only [ej162, if_neg h160]) (by simp only [ej162, if_neg h160]) A
          refine A.iload (q := 61) at_59 rfl rfl ?_
          refine A.if_ne (q := 64) (r := 68) at_61 rfl (by decide) (fun h161 => ?_) (fun h161 => ?_)
          · refine A.iconst (q := 69) (v := (0 : Int32)) at_68 rfl (by decide) ?_
            exact J59_162 T _ (by simp only [if_neg h161]) A
          · refine A.iconst (q := 65) (v := (1 : Int32)) at_64 rfl (by decide) ?_
            refine A.goto (r := 69) at_65 (by decide) ?_
            exact J59_162 T _ (by simp only [if_pos h161]) A
       refine A.iloadN (q := 29) at_28 rfl rfl ?_
       refine A.iconst (q := 30) (v := (2 : Int32)) at_29 rfl (by decide) ?_
       obtain ⟨v151, e151⟩ : ∃ v : Int32, fl &&& (2 : Int32) = v := ⟨_, rfl⟩
       refine A.iand (q := 31) at_30 rfl e151 ?_
       refine A.if_eq (q := 34) (r := 38) at_31 rfl (by decide) (fun h152 => ?_) (fun h152 => ?_)
       · refine A.iconst (q := 39) (v := (0 : Int32)) at_38 rfl (by decide) ?_
         exact J28_153 T _ (by simp only [e151, if_pos h152]) A
       · refine A.iconst (q := 35) (v := (1 : Int32)) at_34 rfl (by decide) ?_
         refine A.goto (r := 39) at_35 (by decide) ?_
         exact J28_153 T _ (by simp only [e151, if_neg h152]) A
      refine A.iloadN (q := 16) at_15 rfl rfl ?_
      refine A.iconst (q := 17) (v := (1 : Int32)) at_16 rfl (by decide) ?_
      obtain ⟨v147, e147⟩ : ∃ v : Int32, fl &&& (1 : Int32) = v := ⟨_, rfl⟩
      refine A.iand (q := 18) at_17 rfl e147 ?_
      refine A.if_eq (q := 21) (r := 25) at_18 rfl (by decide) (fun h148 => ?_) (fun h148 => ?_)
      · refine A.iconst (q := 26) (v := (0 : Int32)) at_25 rfl (by decide) ?_
        exact J15_149 T _ (by simp only [e147, if_pos h148]) A
      · refine A.iconst (q := 22) (v := (1 : Int32)) at_21 rfl (by decide) ?_
        refine A.goto (r := 26) at_22 (by decide) ?_
        exact J15_149 T _ (by simp only [e147, if_neg h148]) A
    · have J15_172 : ∀ (T : State) (j172 : Int32), j172 = (if (fl &&& (1 : Int32)) = (0 : Int32) then (0 : Int32) else (1 : Int32)) → Here p l e room_1 s m ([(.int a), (.int b), (.int fl)] : List Value).toArray below meth c Z a0 tables_1 x.cls x.name code 12 (some .boolean) n0 T [] 0 0 → Go p e below (EndS below s n0 Z 24 128 (fun v _ => v = some (.int 1))) (T.setTop (mkF m 26 #[.val (.int a), .val (.int b), .val (.int fl), .val (.int (2 : Int32)), .val (.int (1 : Int32)), .unset, .unset, .unset, .unset, .unset, .unset, .unset] [(.int j172)])) := by
       intro T j172 ej172 A
       have z_j172 : nar .boolean j172 = j172 := by rw [ej172]; (repeat' split) <;> first | decide | assumption
       refine A.istore (q := 28) (l' := #[.val (.int a), .val (.int b), .val (.int fl), .val (.int (2 : Int32)), .val (.int (1 : Int32)), .val (.int j172), .unset, .unset, .unset, .unset, .unset, .unset]) at_26 rfl rfl ?_
       have J28_176 : ∀ (T : State) (j176 : Int32), j176 = (if (fl &&& (2 : Int32)) = (0 : Int32) then (0 : Int32) else (1 : Int32)) → Here p l e room_1 s m ([(.int a), (.int b), (.int fl)] : List Value).toArray below meth c Z a0 tables_1 x.cls x.name code 12 (some .boolean) n0 T [] 0 0 → Go p e below (EndS below s n0 Z 24 128 (fun v _ => v = some (.int 1))) (T.setTop (mkF m 39 #[.val (.int a), .val (.int b), .val (.int fl), .val (.int (2 : Int32)), .val (.int (1 : Int32)), .val (.int j172), .unset, .unset, .unset, .unset, .unset, .unset] [(.int j176)])) := by
        intro T j176 ej176 A
        have z_j176 : nar .boolean j176 = j176 := by rw [ej176]; (repeat' split) <;> first | decide | assumption
        refine A.istore (q := 41) (l' := #[.val (.int a), .val (.int b), .val (.int fl), .val (.int (2 : Int32)), .val (.int (1 : Int32)), .val (.int j172), .val (.int j176), .unset, .unset, .unset, .unset, .unset]) at_39 rfl rfl ?_
        refine A.newO (q := 44) (w1 := 1) (w2 := 2) (w3 := 3) (n := 6) (fs := [(("com/example/proof_of_scan/proofofscan/Choices", "values", "[Z"), .null), (("com/example/proof_of_scan/proofofscan/Choices", "taken", "[I"), .null), (("com/example/proof_of_scan/proofofscan/Choices", "isTaken", "[Z"), .null), (("com/example/proof_of_scan/proofofscan/Choices", "isHeld", "[Z"), .null), (("com/example/proof_of_scan/proofofscan/Choices", "takenCount", "I"), (.int (0 : Int32)))]) at_41 rfl rfl rfl rfl (lay_0 Z a0 hw) (by decide) (by decide) (by decide) ?_
        intro T b178 A
        refine A.dup (q := 45) at_44 rfl rfl ?_
        refine A.iconst (q := 46) (v := (3 : Int32)) at_45 rfl (by decide) ?_
        refine A.callI (q := 49) (w1 := 4) (w2 := 5) (w3 := 3) (w4 := 6) (a := b178) (as := [(.int (3 : Int32))]) (st := [(.ref b178)]) (W := 1) at_46 rfl rfl rfl rfl rfl rfl (rm1_1 l Z a0 hw n0 b178 _) (by decide) ⟨_, _, pd_0, rfl⟩ rfl rfl rfl (by decide) (by decide) (by decide) (by decide) ?_
        rintro _ T _ ⟨b179, b180, b181, b182, rfl, rfl⟩ A
        show Go p e below _ (T.setTop (mkF m 49 #[.val (.int a), .val (.int b), .val (.int fl), .val (.int (2 : Int32)), .val (.int (1 : Int32)), .val (.int j172), .val (.int j176), .unset, .unset, .unset, .unset, .unset] [(.ref b178)]))
        refine A.astore (q := 51) (l' := #[.val (.int a), .val (.int b), .val (.int fl), .val (.int (2 : Int32)), .val (.int (1 : Int32)), .val (.int j172), .val (.int j176), .val (.ref b178), .unset, .unset, .unset, .unset]) at_49 rfl rfl rfl ?_
        have J51_188 : ∀ (T : State) (j187 : Int32) (j188 : Int32), j187 = (if j176 = (0 : Int32) then (0 : Int32) else (1 : Int32)) → j188 = (if j176 = (0 : Int32) then (0 : Int32) else ((if j172 = (0 : Int32) then (1 : Int32) else (0 : Int32)))) → Here p l e room_1 s m ([(.int a), (.int b), (.int fl)] : List Value).toArray below meth c Z a0 tables_1 x.cls x.name code 12 (some .boolean) n0 T [(b179, .inr (.boolean, [(.int (0 : Int32)), (.int (0 : Int32)), (.int j187)])), (b180, .inr (.boolean, [(.int (0 : Int32)), (.int (0 : Int32)), (.int (0 : Int32))])), (b181, .inr (.int, [(.int (0 : Int32)), (.int (0 : Int32)), (.int (0 : Int32))])), (b182, .inr (.boolean, [(.int (0 : Int32)), (.int (0 : Int32)), (.int j188)])), (b178, ob0 (.ref b182) (.ref b181) (.ref b180) (.ref b179) (.int (0 : Int32)))] 5 18 → Go p e below (EndS below s n0 Z 24 128 (fun v _ => v = some (.int 1))) (T.setTop (mkF m 72 #[.val (.int a), .val (.int b), .val (.int fl), .val (.int (2 : Int32)), .val (.int (1 : Int32)), .val (.int j172), .val (.int j176), .val (.ref b178), .unset, .unset, .unset, .unset] [])) := by
         intro T j187 j188 ej187 ej188 A
         have z_j187 : nar .boolean j187 = j187 := by rw [ej187]; (repeat' split) <;> first | decide | assumption
         have z_j188 : nar .boolean j188 = j188 := by rw [ej188]; (repeat' split) <;> first | decide | assumption
         refine A.aload (q := 74) at_72 rfl rfl rfl ?_
         refine A.iloadN (q := 75) at_74 rfl rfl ?_
         refine A.iload (q := 77) at_75 rfl rfl ?_
         have A := A.front (i := 1) rfl rfl
         have A := A.front (i := 2) rfl rfl
         have A := A.front (i := 3) rfl rfl
         have A := A.front (i := 4) (L' := [(b178, ob0 (.ref b182) (.ref b181) (.ref b180) (.ref b179) (.int (0 : Int32))), (b182, .inr (.boolean, [(.int (0 : Int32)), (.int (0 : Int32)), (.int j188)])), (b181, .inr (.int, [(.int (0 : Int32)), (.int (0 : Int32)), (.int (0 : Int32))])), (b180, .inr (.boolean, [(.int (0 : Int32)), (.int (0 : Int32)), (.int (0 : Int32))])), (b179, .inr (.boolean, [(.int (0 : Int32)), (.int (0 : Int32)), (.int j187)]))]) rfl rfl
         refine A.callV (q := 80) (i := 0) (w1 := 20) (w2 := 21) (w3 := 3) (w4 := 24) (w5 := 23) (w6 := 22) (a := b178) (as := [(.int (2 : Int32)), (.int j172)]) (st := []) (W := 0) at_77 rfl rfl rfl rfl rfl rfl rfl rfl (rm3_6 l Z a0 hw n0 b178 j172 b182 b181 b180 b179 j188 j187 _ z_j172 z_j188 z_j187) (by decide) ⟨_, _, pd_1, rfl⟩ rfl rfl rfl (by decide) (by decide) (by decide) (by decide) ?_
         rintro _ T _ ⟨rfl, rfl⟩ A
         show Go p e below _ (T.setTop (mkF m 80 #[.val (.int a), .val (.int b), .val (.int fl), .val (.int (2 : Int32)), .val (.int (1 : Int32)), .val (.int j172), .val (.int j176), .val (.ref b178), .unset, .unset, .unset, .unset] []))
         refine A.aload (q := 82) at_80 rfl rfl rfl ?_
         refine A.callV (q := 85) (i := 0) (w1 := 25) (w2 := 26) (w3 := 3) (w4 := 29) (w5 := 28) (w6 := 27) (a := b178) (as := []) (st := []) (W := 0) at_82 rfl rfl rfl rfl rfl rfl rfl rfl (rm4_10 l Z a0 hw n0 b178 b182 b181 b180 b179 j172 _ z_j172) (by decide) ⟨_, _, pd_2, rfl⟩ rfl rfl rfl (by decide) (by decide) (by decide) (by decide) ?_
         rintro _ T _ ⟨b190, rfl, rfl⟩ A
         show Go p e below _ (T.setTop (mkF m 85 #[.val (.int a), .val (.int b), .val (.int fl), .val (.int (2 : Int32)), .val (.int (1 : Int32)), .val (.int j172), .val (.int j176), .val (.ref b178), .unset, .unset, .unset, .unset] [(.ref b190)]))
         refine A.iloadN (q := 86) at_85 rfl rfl ?_
         refine A.iload (q := 88) at_86 rfl rfl ?_
         refine A.iconst (q := 89) (v := (-1 : Int32)) at_88 rfl (by decide) ?_
         refine A.callS (q := 92) (w1 := 39) (w2 := 40) (w3 := 41) (w4 := 42) (as := [(.ref b190), (.int (2 : Int32)), (.int j172), (.int (-1 : Int32))]) (st := []) (W := 0) at_89 rfl rfl rfl rfl rfl (rm5_7 l Z a0 hw n0 b190 j172 _ z_j172) (by decide) ⟨_, _, pd_3, rfl⟩ rfl rfl rfl (by decide) (by decide) (by decide) (by decide) ?_
         rintro _ T _ ⟨rfl, rfl⟩ A
         show Go p e below _ (T.setTop (mkF m 92 #[.val (.int a), .val (.int b), .val (.int fl), .val (.int (2 : Int32)), .val (.int (1 : Int32)), .val (.int j172), .val (.int j176), .val (.ref b178), .unset, .unset, .unset, .unset] [(.int (1 : Int32))]))
         refine A.istore (q := 94) (l' := #[.val (.int a), .val (.int b), .val (.int fl), .val (.int (2 : Int32)), .val (.int (1 : Int32)), .val (.int j172), .val (.int j176), .val (.ref b178), .val (.int (1 : Int32)), .unset, .unset, .unset]) at_92 rfl rfl ?_
         refine A.aload (q := 96) at_94 rfl rfl rfl ?_
         refine A.iload (q := 98) at_96 rfl rfl ?_
         have A := A.front (i := 5) rfl rfl
         have A := A.front (i := 5) rfl rfl
         have A := A.front (i := 5) rfl rfl
         have A := A.front (i := 5) rfl rfl
         have A := A.front (i := 5) (L' := [(b178, ob0 (.ref b182) (.ref b181) (.ref b180) (.ref b179) (.int (0 : Int32))), (b182, .inr (.boolean, [(.int (0 : Int32)), (.int (0 : Int32)), (.int j172)])), (b181, .inr (.int, [(.int (0 : Int32)), (.int (0 : Int32)), (.int (0 : Int32))])), (b180, .inr (.boolean, [(.int (0 : Int32)), (.int (0 : Int32)), (.int (0 : Int32))])), (b179, .inr (.boolean, [(.int (0 : Int32)), (.int (0 : Int32)), (.int (1 : Int32))])), (b190, .inr (.boolean, [(.int (0 : Int32)), (.int (0 : Int32)), (.int j172)]))]) rfl rfl
         refine A.callV (q := 101) (i := 0) (w1 := 43) (w2 := 44) (w3 := 3) (w4 := 47) (w5 := 46) (w6 := 45) (a := b178) (as := [(.int (1 : Int32))]) (st := []) (W := 0) at_98 rfl rfl rfl rfl rfl rfl rfl rfl (rm6_13 l Z a0 hw n0 b178 b182 b181 b180 b179 j172 _ z_j172) (by decide) ⟨_, _, pd_4, rfl⟩ rfl rfl rfl (by decide) (by decide) (by decide) (by decide) ?_
         rintro _ T _ ⟨rfl, rfl⟩ A
         show Go p e below _ (T.setTop (mkF m 101 #[.val (.int a), .val (.int b), .val (.int fl), .val (.int (2 : Int32)), .val (.int (1 : Int32)), .val (.int j172), .val (.int j176), .val (.ref b178), .val (.int (1 : Int32)), .unset, .unset, .unset] [(.int (0 : Int32))]))
         refine A.istore (q := 103) (l' := #[.val (.int a), .val (.int b), .val (.int fl), .val (.int (2 : Int32)), .val (.int (1 : Int32)), .val (.int j172), .val (.int j176), .val (.ref b178), .val (.int (1 : Int32)), .val (.int (0 : Int32)), .unset, .unset]) at_101 rfl rfl ?_
         refine A.aload (q := 105) at_103 rfl rfl rfl ?_
         refine A.iloadN (q := 106) at_105 rfl rfl ?_
         refine A.callV (q := 109) (i := 0) (w1 := 43) (w2 := 44) (w3 := 3) (w4 := 47) (w5 := 46) (w6 := 45) (a := b178) (as := [(.int (2 : Int32))]) (st := []) (W := 0) at_106 rfl rfl rfl rfl rfl rfl rfl rfl (rm6_14 l Z a0 hw n0 b178 b182 b181 b180 b179 j172 _ z_j172) (by decide) ⟨_, _, pd_4, rfl⟩ rfl rfl rfl (by decide) (by decide) (by decide) (by decide) ?_
         rintro _ T _ ⟨rfl, rfl⟩ A
         show Go p e below _ (T.setTop (mkF m 109 #[.val (.int a), .val (.int b), .val (.int fl), .val (.int (2 : Int32)), .val (.int (1 : Int32)), .val (.int j172), .val (.int j176), .val (.ref b178), .val (.int (1 : Int32)), .val (.int (0 : Int32)), .unset, .unset] [(.int j172)]))
         refine A.istore (q := 111) (l' := #[.val (.int a), .val (.int b), .val (.int fl), .val (.int (2 : Int32)), .val (.int (1 : Int32)), .val (.int j172), .val (.int j176), .val (.ref b178), .val (.int (1 : Int32)), .val (.int (0 : Int32)), .val (.int j172), .unset]) at_109 rfl rfl ?_
         refine A.iload (q := 113) at_111 rfl rfl ?_
         refine A.ifF (q := 116) at_113 rfl (by decide) ?_
         refine A.iload (q := 118) at_116 rfl rfl ?_
         refine A.iload (q := 120) at_118 rfl rfl ?_
         refine A.icmpF (q := 123) at_120 rfl (teq rfl).2 ?_
         refine A.iload (q := 125) at_123 rfl rfl ?_
         refine A.iload (q := 127) at_125 rfl rfl ?_
         refine A.iloadN (q := 128) at_127 rfl rfl ?_
         refine A.icmpT (r := 136) at_128 (by decide) (by decide) ?_
         refine A.iconst (q := 137) (v := (0 : Int32)) at_136 rfl (by decide) ?_
         refine A.icmpF (q := 140) at_137 rfl (by decide) ?_
         refine A.iconst (q := 141) (v := (1 : Int32)) at_140 rfl (by decide) ?_
         refine A.goto (r := 145) at_141 (by decide) ?_
         refine A.istore (q := 147) (l' := #[.val (.int a), .val (.int b), .val (.int fl), .val (.int (2 : Int32)), .val (.int (1 : Int32)), .val (.int j172), .val (.int j176), .val (.ref b178), .val (.int (1 : Int32)), .val (.int (0 : Int32)), .val (.int j172), .unset]) at_145 rfl rfl ?_
         refine A.aload (q := 149) at_147 rfl rfl rfl ?_
         refine A.callV (q := 152) (i := 0) (w1 := 48) (w2 := 49) (w3 := 3) (w4 := 52) (w5 := 51) (w6 := 50) (a := b178) (as := []) (st := []) (W := 0) at_149 rfl rfl rfl rfl rfl rfl rfl rfl (rm7_8 l Z a0 hw n0 b178 b182 b181 b180 b179 j172 _ z_j172) (by decide) ⟨_, _, pd_5, rfl⟩ rfl rfl rfl (by decide) (by decide) (by decide) (by decide) ?_
         rintro _ T _ ⟨rfl, rfl⟩ A
         show Go p e below _ (T.setTop (mkF m 152 #[.val (.int a), .val (.int b), .val (.int fl), .val (.int (2 : Int32)), .val (.int (1 : Int32)), .val (.int j172), .val (.int j176), .val (.ref b178), .val (.int (1 : Int32)), .val (.int (0 : Int32)), .val (.int j172), .unset] [(.int (1 : Int32))]))
         refine A.istore (q := 154) (l' := #[.val (.int a), .val (.int b), .val (.int fl), .val (.int (2 : Int32)), .val (.int (1 : Int32)), .val (.int j172), .val (.int j176), .val (.ref b178), .val (.int (1 : Int32)), .val (.int (0 : Int32)), .val (.int j172), .val (.int (1 : Int32))]) at_152 rfl rfl ?_
         refine A.iload (q := 156) at_154 rfl rfl ?_
         refine A.ifF (q := 159) at_156 rfl (by decide) ?_
         refine A.iload (q := 161) at_159 rfl rfl ?_
         refine A.iload (q := 163) at_161 rfl rfl ?_
         refine A.iloadN (q := 164) at_163 rfl rfl ?_
         refine A.icmpF (q := 167) at_164 rfl (by decide) ?_
         refine A.iconst (q := 168) (v := (1 : Int32)) at_167 rfl (by decide) ?_
         refine A.goto (r := 172) at_168 (by decide) ?_
         refine A.icmpF (q := 175) at_172 rfl (by decide) ?_
         refine A.aload (q := 177) at_175 rfl rfl rfl ?_
         refine A.callV (q := 180) (i := 0) (w1 := 25) (w2 := 26) (w3 := 3) (w4 := 29) (w5 := 28) (w6 := 27) (a := b178) (as := []) (st := []) (W := 0) at_177 rfl rfl rfl rfl rfl rfl rfl rfl (rm4_12 l Z a0 hw n0 b178 b182 b181 b180 b179 j172 _ z_j172) (by decide) ⟨_, _, pd_2, rfl⟩ rfl rfl rfl (by decide) (by decide) (by decide) (by decide) ?_
         rintro _ T _ ⟨b191, rfl, rfl⟩ A
         show Go p e below _ (T.setTop (mkF m 180 #[.val (.int a), .val (.int b), .val (.int fl), .val (.int (2 : Int32)), .val (.int (1 : Int32)), .val (.int j172), .val (.int j176), .val (.ref b178), .val (.int (1 : Int32)), .val (.int (0 : Int32)), .val (.int j172), .val (.int (1 : Int32))] [(.ref b191)]))
         refine A.iloadN (q := 181) at_180 rfl rfl ?_
         refine A.iload (q := 183) at_181 rfl rfl ?_
         refine A.iload (q := 185) at_183 rfl rfl ?_
         refine A.iloadN (q := 186) at_185 rfl rfl ?_
         refine A.icmpF (q := 189) at_186 rfl (by decide) ?_
         refine A.iload (q := 191) at_189 rfl rfl ?_
         refine A.goto (r := 195) at_191 (by decide) ?_
         refine A.callS (q := 198) (w1 := 39) (w2 := 40) (w3 := 41) (w4 := 42) (as := [(.ref b191), (.int (2 : Int32)), (.int j172), (.int (1 : Int32))]) (st := []) (W := 0) at_195 rfl rfl rfl rfl rfl (rm5_9 l Z a0 hw n0 b191 j172 _ z_j172) (by decide) ⟨_, _, pd_3, rfl⟩ rfl rfl rfl (by decide) (by decide) (by decide) (by decide) ?_
         rintro _ T _ ⟨rfl, rfl⟩ A
         show Go p e below _ (T.setTop (mkF m 198 #[.val (.int a), .val (.int b), .val (.int fl), .val (.int (2 : Int32)), .val (.int (1 : Int32)), .val (.int j172), .val (.int j176), .val (.ref b178), .val (.int (1 : Int32)), .val (.int (0 : Int32)), .val (.int j172), .val (.int (1 : Int32))] [(.int (1 : Int32))]))
         refine A.ifF (q := 201) at_198 rfl (by decide) ?_
         refine A.iconst (q := 202) (v := (1 : Int32)) at_201 rfl (by decide) ?_
         refine A.goto (r := 206) at_202 (by decide) ?_
         refine A.istore (q := 208) (l' := #[.val (.int a), .val (.int b), .val (.int fl), .val (.int (2 : Int32)), .val (.int (1 : Int32)), .val (.int j172), .val (.int j176), .val (.ref b178), .val (.int (1 : Int32)), .val (.int (0 : Int32)), .val (.int j172), .val (.int (1 : Int32))]) at_206 rfl rfl ?_
         refine A.aload (q := 210) at_208 rfl rfl rfl ?_
         have A := A.front (i := 5) rfl rfl
         have A := A.front (i := 5) rfl rfl
         have A := A.front (i := 5) rfl rfl
         have A := A.front (i := 5) rfl rfl
         have A := A.front (i := 5) (L' := [(b178, ob0 (.ref b182) (.ref b181) (.ref b180) (.ref b179) (.int (0 : Int32))), (b182, .inr (.boolean, [(.int (0 : Int32)), (.int (1 : Int32)), (.int j172)])), (b181, .inr (.int, [(.int (1 : Int32)), (.int (0 : Int32)), (.int (0 : Int32))])), (b180, .inr (.boolean, [(.int (0 : Int32)), (.int (0 : Int32)), (.int (0 : Int32))])), (b179, .inr (.boolean, [(.int (0 : Int32)), (.int (0 : Int32)), (.int (1 : Int32))])), (b191, .inr (.boolean, [(.int (0 : Int32)), (.int (1 : Int32)), (.int j172)])), (b190, .inr (.boolean, [(.int (0 : Int32)), (.int (0 : Int32)), (.int j172)]))]) rfl rfl
         refine A.callV (q := 213) (i := 0) (w1 := 55) (w2 := 56) (w3 := 3) (w4 := 59) (w5 := 58) (w6 := 57) (a := b178) (as := []) (st := []) (W := 0) at_210 rfl rfl rfl rfl rfl rfl rfl rfl (rm8_8 l Z a0 hw n0 b178 b182 b181 b180 b179 j172 _ z_j172) (by decide) ⟨_, _, pd_6, rfl⟩ rfl rfl rfl (by decide) (by decide) (by decide) (by decide) ?_
         rintro _ T _ ⟨rfl, rfl⟩ A
         show Go p e below _ (T.setTop (mkF m 213 #[.val (.int a), .val (.int b), .val (.int fl), .val (.int (2 : Int32)), .val (.int (1 : Int32)), .val (.int j172), .val (.int j176), .val (.ref b178), .val (.int (1 : Int32)), .val (.int (0 : Int32)), .val (.int j172), .val (.int (1 : Int32))] []))
         refine A.iload (q := 215) at_213 rfl rfl ?_
         refine A.ifF (q := 218) at_215 rfl (by decide) ?_
         refine A.aload (q := 220) at_218 rfl rfl rfl ?_
         refine A.callV (q := 223) (i := 0) (w1 := 25) (w2 := 26) (w3 := 3) (w4 := 29) (w5 := 28) (w6 := 27) (a := b178) (as := []) (st := []) (W := 0) at_220 rfl rfl rfl rfl rfl rfl rfl rfl (rm4_13 l Z a0 hw n0 b178 b182 b181 b180 b179 j172 _ z_j172) (by decide) ⟨_, _, pd_2, rfl⟩ rfl rfl rfl (by decide) (by decide) (by decide) (by decide) ?_
         rintro _ T _ ⟨b192, rfl, rfl⟩ A
         show Go p e below _ (T.setTop (mkF m 223 #[.val (.int a), .val (.int b), .val (.int fl), .val (.int (2 : Int32)), .val (.int (1 : Int32)), .val (.int j172), .val (.int j176), .val (.ref b178), .val (.int (1 : Int32)), .val (.int (0 : Int32)), .val (.int j172), .val (.int (1 : Int32))] [(.ref b192)]))
         refine A.iloadN (q := 224) at_223 rfl rfl ?_
         refine A.iload (q := 226) at_224 rfl rfl ?_
         refine A.iconst (q := 227) (v := (-1 : Int32)) at_226 rfl (by decide) ?_
         refine A.callS (q := 230) (w1 := 39) (w2 := 40) (w3 := 41) (w4 := 42) (as := [(.ref b192), (.int (2 : Int32)), (.int j172), (.int (-1 : Int32))]) (st := []) (W := 0) at_227 rfl rfl rfl rfl rfl (rm5_7 l Z a0 hw n0 b192 j172 _ z_j172) (by decide) ⟨_, _, pd_3, rfl⟩ rfl rfl rfl (by decide) (by decide) (by decide) (by decide) ?_
         rintro _ T _ ⟨rfl, rfl⟩ A
         show Go p e below _ (T.setTop (mkF m 230 #[.val (.int a), .val (.int b), .val (.int fl), .val (.int (2 : Int32)), .val (.int (1 : Int32)), .val (.int j172), .val (.int j176), .val (.ref b178), .val (.int (1 : Int32)), .val (.int (0 : Int32)), .val (.int j172), .val (.int (1 : Int32))] [(.int (1 : Int32))]))
         refine A.ifF (q := 233) at_230 rfl (by decide) ?_
         refine A.iconst (q := 234) (v := (1 : Int32)) at_233 rfl (by decide) ?_
         refine A.goto (r := 238) at_234 (by decide) ?_
         refine A.istore (q := 240) (l' := #[.val (.int a), .val (.int b), .val (.int fl), .val (.int (2 : Int32)), .val (.int (1 : Int32)), .val (.int j172), .val (.int j176), .val (.ref b178), .val (.int (1 : Int32)), .val (.int (0 : Int32)), .val (.int j172), .val (.int (1 : Int32))]) at_238 rfl rfl ?_
         refine A.iload (q := 242) at_240 rfl rfl ?_
         exact A.retZ (v := 1) at_242 (by decide) (by decide) (by decide) rfl
        refine A.iload (q := 53) at_51 rfl rfl ?_
        refine A.if_eq (q := 56) (r := 72) at_53 rfl (by decide) (fun h183 => ?_) (fun h183 => ?_)
        · exact J51_188 T _ _ (by simp only [if_pos h183]) (by simp only [if_pos h183]) A
        · refine A.aload (q := 58) at_56 rfl rfl rfl ?_
          refine A.iloadN (q := 59) at_58 rfl rfl ?_
          have J59_185 : ∀ (T : State) (j185 : Int32), j185 = (if j172 = (0 : Int32) then (1 : Int32) else (0 : Int32)) → Here p l e room_1 s m ([(.int a), (.int b), (.int fl)] : List Value).toArray below meth c Z a0 tables_1 x.cls x.name code 12 (some .boolean) n0 T [(b179, .inr (.boolean, [(.int (0 : Int32)), (.int (0 : Int32)), (.int (0 : Int32))])), (b180, .inr (.boolean, [(.int (0 : Int32)), (.int (0 : Int32)), (.int (0 : Int32))])), (b181, .inr (.int, [(.int (0 : Int32)), (.int (0 : Int32)), (.int (0 : Int32))])), (b182, .inr (.boolean, [(.int (0 : Int32)), (.int (0 : Int32)), (.int (0 : Int32))])), (b178, ob0 (.ref b182) (.ref b181) (.ref b180) (.ref b179) (.int (0 : Int32)))] 5 18 → Go p e below (EndS below s n0 Z 24 128 (fun v _ => v = some (.int 1))) (T.setTop (mkF m 69 #[.val (.int a), .val (.int b), .val (.int fl), .val (.int (2 : Int32)), .val (.int (1 : Int32)), .val (.int j172), .val (.int j176), .val (.ref b178), .unset, .unset, .unset, .unset] [(.int j185), (.int (2 : Int32)), (.ref b178)])) := by
           intro T j185 ej185 A
           have z_j185 : nar .boolean j185 = j185 := by rw [ej185]; (repeat' split) <;> first | decide | assumption
           have A := A.front (i := 1) rfl rfl
           have A := A.front (i := 2) rfl rfl
           have A := A.front (i := 3) rfl rfl
           have A := A.front (i := 4) (L' := [(b178, ob0 (.ref b182) (.ref b181) (.ref b180) (.ref b179) (.int (0 : Int32))), (b182, .inr (.boolean, [(.int (0 : Int32)), (.int (0 : Int32)), (.int (0 : Int32))])), (b181, .inr (.int, [(.int (0 : Int32)), (.int (0 : Int32)), (.int (0 : Int32))])), (b180, .inr (.boolean, [(.int (0 : Int32)), (.int (0 : Int32)), (.int (0 : Int32))])), (b179, .inr (.boolean, [(.int (0 : Int32)), (.int (0 : Int32)), (.int (0 : Int32))]))]) rfl rfl
           refine A.callV (q := 72) (i := 0) (w1 := 20) (w2 := 21) (w3 := 3) (w4 := 24) (w5 := 23) (w6 := 22) (a := b178) (as := [(.int (2 : Int32)), (.int j185)]) (st := []) (W := 0) at_69 rfl rfl rfl rfl rfl rfl rfl rfl (rm3_5 l Z a0 hw n0 b178 j185 b182 b181 b180 b179 _ z_j185) (by decide) ⟨_, _, pd_1, rfl⟩ rfl rfl rfl (by decide) (by decide) (by decide) (by decide) ?_
           rintro _ T _ ⟨rfl, rfl⟩ A
           show Go p e below _ (T.setTop (mkF m 72 #[.val (.int a), .val (.int b), .val (.int fl), .val (.int (2 : Int32)), .val (.int (1 : Int32)), .val (.int j172), .val (.int j176), .val (.ref b178), .unset, .unset, .unset, .unset] []))
           have A := A.front (i := 1) rfl rfl
           have A := A.front (i := 2) rfl rfl
           have A := A.front (i := 3) rfl rfl
           have A := A.front (i := 4) (L' := [(b179, .inr (.boolean, [(.int (0 : Int32)), (.int (0 : Int32)), (.int (1 : Int32))])), (b180, .inr (.boolean, [(.int (0 : Int32)), (.int (0 : Int32)), (.int (0 : Int32))])), (b181, .inr (.int, [(.int (0 : Int32)), (.int (0 : Int32)), (.int (0 : Int32))])), (b182, .inr (.boolean, [(.int (0 : Int32)), (.int (0 : Int32)), (.int j185)])), (b178, ob0 (.ref b182) (.ref b181) (.ref b180) (.ref b179) (.int (0 : Int32)))]) rfl rfl
           exact J51_188 T _ _ (by simp only [ej185, if_neg h183]) (by simp only [ej185, if_neg h183]) A
          refine A.iload (q := 61) at_59 rfl rfl ?_
          refine A.if_ne (q := 64) (r := 68) at_61 rfl (by decide) (fun h184 => ?_) (fun h184 => ?_)
          · refine A.iconst (q := 69) (v := (0 : Int32)) at_68 rfl (by decide) ?_
            exact J59_185 T _ (by simp only [if_neg h184]) A
          · refine A.iconst (q := 65) (v := (1 : Int32)) at_64 rfl (by decide) ?_
            refine A.goto (r := 69) at_65 (by decide) ?_
            exact J59_185 T _ (by simp only [if_pos h184]) A
       refine A.iloadN (q := 29) at_28 rfl rfl ?_
       refine A.iconst (q := 30) (v := (2 : Int32)) at_29 rfl (by decide) ?_
       obtain ⟨v174, e174⟩ : ∃ v : Int32, fl &&& (2 : Int32) = v := ⟨_, rfl⟩
       refine A.iand (q := 31) at_30 rfl e174 ?_
       refine A.if_eq (q := 34) (r := 38) at_31 rfl (by decide) (fun h175 => ?_) (fun h175 => ?_)
       · refine A.iconst (q := 39) (v := (0 : Int32)) at_38 rfl (by decide) ?_
         exact J28_176 T _ (by simp only [e174, if_pos h175]) A
       · refine A.iconst (q := 35) (v := (1 : Int32)) at_34 rfl (by decide) ?_
         refine A.goto (r := 39) at_35 (by decide) ?_
         exact J28_176 T _ (by simp only [e174, if_neg h175]) A
      refine A.iloadN (q := 16) at_15 rfl rfl ?_
      refine A.iconst (q := 17) (v := (1 : Int32)) at_16 rfl (by decide) ?_
      obtain ⟨v170, e170⟩ : ∃ v : Int32, fl &&& (1 : Int32) = v := ⟨_, rfl⟩
      refine A.iand (q := 18) at_17 rfl e170 ?_
      refine A.if_eq (q := 21) (r := 25) at_18 rfl (by decide) (fun h171 => ?_) (fun h171 => ?_)
      · refine A.iconst (q := 26) (v := (0 : Int32)) at_25 rfl (by decide) ?_
        exact J15_172 T _ (by simp only [e170, if_pos h171]) A
      · refine A.iconst (q := 22) (v := (1 : Int32)) at_21 rfl (by decide) ?_
        refine A.goto (r := 26) at_22 (by decide) ?_
        exact J15_172 T _ (by simp only [e170, if_neg h171]) A
    · have J15_195 : ∀ (T : State) (j195 : Int32), j195 = (if (fl &&& (1 : Int32)) = (0 : Int32) then (0 : Int32) else (1 : Int32)) → Here p l e room_1 s m ([(.int a), (.int b), (.int fl)] : List Value).toArray below meth c Z a0 tables_1 x.cls x.name code 12 (some .boolean) n0 T [] 0 0 → Go p e below (EndS below s n0 Z 24 128 (fun v _ => v = some (.int 1))) (T.setTop (mkF m 26 #[.val (.int a), .val (.int b), .val (.int fl), .val (.int (2 : Int32)), .val (.int (2 : Int32)), .unset, .unset, .unset, .unset, .unset, .unset, .unset] [(.int j195)])) := by
       intro T j195 ej195 A
       have z_j195 : nar .boolean j195 = j195 := by rw [ej195]; (repeat' split) <;> first | decide | assumption
       refine A.istore (q := 28) (l' := #[.val (.int a), .val (.int b), .val (.int fl), .val (.int (2 : Int32)), .val (.int (2 : Int32)), .val (.int j195), .unset, .unset, .unset, .unset, .unset, .unset]) at_26 rfl rfl ?_
       have J28_199 : ∀ (T : State) (j199 : Int32), j199 = (if (fl &&& (2 : Int32)) = (0 : Int32) then (0 : Int32) else (1 : Int32)) → Here p l e room_1 s m ([(.int a), (.int b), (.int fl)] : List Value).toArray below meth c Z a0 tables_1 x.cls x.name code 12 (some .boolean) n0 T [] 0 0 → Go p e below (EndS below s n0 Z 24 128 (fun v _ => v = some (.int 1))) (T.setTop (mkF m 39 #[.val (.int a), .val (.int b), .val (.int fl), .val (.int (2 : Int32)), .val (.int (2 : Int32)), .val (.int j195), .unset, .unset, .unset, .unset, .unset, .unset] [(.int j199)])) := by
        intro T j199 ej199 A
        have z_j199 : nar .boolean j199 = j199 := by rw [ej199]; (repeat' split) <;> first | decide | assumption
        refine A.istore (q := 41) (l' := #[.val (.int a), .val (.int b), .val (.int fl), .val (.int (2 : Int32)), .val (.int (2 : Int32)), .val (.int j195), .val (.int j199), .unset, .unset, .unset, .unset, .unset]) at_39 rfl rfl ?_
        refine A.newO (q := 44) (w1 := 1) (w2 := 2) (w3 := 3) (n := 6) (fs := [(("com/example/proof_of_scan/proofofscan/Choices", "values", "[Z"), .null), (("com/example/proof_of_scan/proofofscan/Choices", "taken", "[I"), .null), (("com/example/proof_of_scan/proofofscan/Choices", "isTaken", "[Z"), .null), (("com/example/proof_of_scan/proofofscan/Choices", "isHeld", "[Z"), .null), (("com/example/proof_of_scan/proofofscan/Choices", "takenCount", "I"), (.int (0 : Int32)))]) at_41 rfl rfl rfl rfl (lay_0 Z a0 hw) (by decide) (by decide) (by decide) ?_
        intro T b201 A
        refine A.dup (q := 45) at_44 rfl rfl ?_
        refine A.iconst (q := 46) (v := (3 : Int32)) at_45 rfl (by decide) ?_
        refine A.callI (q := 49) (w1 := 4) (w2 := 5) (w3 := 3) (w4 := 6) (a := b201) (as := [(.int (3 : Int32))]) (st := [(.ref b201)]) (W := 1) at_46 rfl rfl rfl rfl rfl rfl (rm1_1 l Z a0 hw n0 b201 _) (by decide) ⟨_, _, pd_0, rfl⟩ rfl rfl rfl (by decide) (by decide) (by decide) (by decide) ?_
        rintro _ T _ ⟨b202, b203, b204, b205, rfl, rfl⟩ A
        show Go p e below _ (T.setTop (mkF m 49 #[.val (.int a), .val (.int b), .val (.int fl), .val (.int (2 : Int32)), .val (.int (2 : Int32)), .val (.int j195), .val (.int j199), .unset, .unset, .unset, .unset, .unset] [(.ref b201)]))
        refine A.astore (q := 51) (l' := #[.val (.int a), .val (.int b), .val (.int fl), .val (.int (2 : Int32)), .val (.int (2 : Int32)), .val (.int j195), .val (.int j199), .val (.ref b201), .unset, .unset, .unset, .unset]) at_49 rfl rfl rfl ?_
        have J51_211 : ∀ (T : State) (j210 : Int32) (j211 : Int32), j210 = (if j199 = (0 : Int32) then (0 : Int32) else (1 : Int32)) → j211 = (if j199 = (0 : Int32) then (0 : Int32) else ((if j195 = (0 : Int32) then (1 : Int32) else (0 : Int32)))) → Here p l e room_1 s m ([(.int a), (.int b), (.int fl)] : List Value).toArray below meth c Z a0 tables_1 x.cls x.name code 12 (some .boolean) n0 T [(b202, .inr (.boolean, [(.int (0 : Int32)), (.int (0 : Int32)), (.int j210)])), (b203, .inr (.boolean, [(.int (0 : Int32)), (.int (0 : Int32)), (.int (0 : Int32))])), (b204, .inr (.int, [(.int (0 : Int32)), (.int (0 : Int32)), (.int (0 : Int32))])), (b205, .inr (.boolean, [(.int (0 : Int32)), (.int (0 : Int32)), (.int j211)])), (b201, ob0 (.ref b205) (.ref b204) (.ref b203) (.ref b202) (.int (0 : Int32)))] 5 18 → Go p e below (EndS below s n0 Z 24 128 (fun v _ => v = some (.int 1))) (T.setTop (mkF m 72 #[.val (.int a), .val (.int b), .val (.int fl), .val (.int (2 : Int32)), .val (.int (2 : Int32)), .val (.int j195), .val (.int j199), .val (.ref b201), .unset, .unset, .unset, .unset] [])) := by
         intro T j210 j211 ej210 ej211 A
         have z_j210 : nar .boolean j210 = j210 := by rw [ej210]; (repeat' split) <;> first | decide | assumption
         have z_j211 : nar .boolean j211 = j211 := by rw [ej211]; (repeat' split) <;> first | decide | assumption
         refine A.aload (q := 74) at_72 rfl rfl rfl ?_
         refine A.iloadN (q := 75) at_74 rfl rfl ?_
         refine A.iload (q := 77) at_75 rfl rfl ?_
         have A := A.front (i := 1) rfl rfl
         have A := A.front (i := 2) rfl rfl
         have A := A.front (i := 3) rfl rfl
         have A := A.front (i := 4) (L' := [(b201, ob0 (.ref b205) (.ref b204) (.ref b203) (.ref b202) (.int (0 : Int32))), (b205, .inr (.boolean, [(.int (0 : Int32)), (.int (0 : Int32)), (.int j211)])), (b204, .inr (.int, [(.int (0 : Int32)), (.int (0 : Int32)), (.int (0 : Int32))])), (b203, .inr (.boolean, [(.int (0 : Int32)), (.int (0 : Int32)), (.int (0 : Int32))])), (b202, .inr (.boolean, [(.int (0 : Int32)), (.int (0 : Int32)), (.int j210)]))]) rfl rfl
         refine A.callV (q := 80) (i := 0) (w1 := 20) (w2 := 21) (w3 := 3) (w4 := 24) (w5 := 23) (w6 := 22) (a := b201) (as := [(.int (2 : Int32)), (.int j195)]) (st := []) (W := 0) at_77 rfl rfl rfl rfl rfl rfl rfl rfl (rm3_6 l Z a0 hw n0 b201 j195 b205 b204 b203 b202 j211 j210 _ z_j195 z_j211 z_j210) (by decide) ⟨_, _, pd_1, rfl⟩ rfl rfl rfl (by decide) (by decide) (by decide) (by decide) ?_
         rintro _ T _ ⟨rfl, rfl⟩ A
         show Go p e below _ (T.setTop (mkF m 80 #[.val (.int a), .val (.int b), .val (.int fl), .val (.int (2 : Int32)), .val (.int (2 : Int32)), .val (.int j195), .val (.int j199), .val (.ref b201), .unset, .unset, .unset, .unset] []))
         refine A.aload (q := 82) at_80 rfl rfl rfl ?_
         refine A.callV (q := 85) (i := 0) (w1 := 25) (w2 := 26) (w3 := 3) (w4 := 29) (w5 := 28) (w6 := 27) (a := b201) (as := []) (st := []) (W := 0) at_82 rfl rfl rfl rfl rfl rfl rfl rfl (rm4_10 l Z a0 hw n0 b201 b205 b204 b203 b202 j195 _ z_j195) (by decide) ⟨_, _, pd_2, rfl⟩ rfl rfl rfl (by decide) (by decide) (by decide) (by decide) ?_
         rintro _ T _ ⟨b213, rfl, rfl⟩ A
         show Go p e below _ (T.setTop (mkF m 85 #[.val (.int a), .val (.int b), .val (.int fl), .val (.int (2 : Int32)), .val (.int (2 : Int32)), .val (.int j195), .val (.int j199), .val (.ref b201), .unset, .unset, .unset, .unset] [(.ref b213)]))
         refine A.iloadN (q := 86) at_85 rfl rfl ?_
         refine A.iload (q := 88) at_86 rfl rfl ?_
         refine A.iconst (q := 89) (v := (-1 : Int32)) at_88 rfl (by decide) ?_
         refine A.callS (q := 92) (w1 := 39) (w2 := 40) (w3 := 41) (w4 := 42) (as := [(.ref b213), (.int (2 : Int32)), (.int j195), (.int (-1 : Int32))]) (st := []) (W := 0) at_89 rfl rfl rfl rfl rfl (rm5_7 l Z a0 hw n0 b213 j195 _ z_j195) (by decide) ⟨_, _, pd_3, rfl⟩ rfl rfl rfl (by decide) (by decide) (by decide) (by decide) ?_
         rintro _ T _ ⟨rfl, rfl⟩ A
         show Go p e below _ (T.setTop (mkF m 92 #[.val (.int a), .val (.int b), .val (.int fl), .val (.int (2 : Int32)), .val (.int (2 : Int32)), .val (.int j195), .val (.int j199), .val (.ref b201), .unset, .unset, .unset, .unset] [(.int (1 : Int32))]))
         refine A.istore (q := 94) (l' := #[.val (.int a), .val (.int b), .val (.int fl), .val (.int (2 : Int32)), .val (.int (2 : Int32)), .val (.int j195), .val (.int j199), .val (.ref b201), .val (.int (1 : Int32)), .unset, .unset, .unset]) at_92 rfl rfl ?_
         refine A.aload (q := 96) at_94 rfl rfl rfl ?_
         refine A.iload (q := 98) at_96 rfl rfl ?_
         have A := A.front (i := 5) rfl rfl
         have A := A.front (i := 5) rfl rfl
         have A := A.front (i := 5) rfl rfl
         have A := A.front (i := 5) rfl rfl
         have A := A.front (i := 5) (L' := [(b201, ob0 (.ref b205) (.ref b204) (.ref b203) (.ref b202) (.int (0 : Int32))), (b205, .inr (.boolean, [(.int (0 : Int32)), (.int (0 : Int32)), (.int j195)])), (b204, .inr (.int, [(.int (0 : Int32)), (.int (0 : Int32)), (.int (0 : Int32))])), (b203, .inr (.boolean, [(.int (0 : Int32)), (.int (0 : Int32)), (.int (0 : Int32))])), (b202, .inr (.boolean, [(.int (0 : Int32)), (.int (0 : Int32)), (.int (1 : Int32))])), (b213, .inr (.boolean, [(.int (0 : Int32)), (.int (0 : Int32)), (.int j195)]))]) rfl rfl
         refine A.callV (q := 101) (i := 0) (w1 := 43) (w2 := 44) (w3 := 3) (w4 := 47) (w5 := 46) (w6 := 45) (a := b201) (as := [(.int (2 : Int32))]) (st := []) (W := 0) at_98 rfl rfl rfl rfl rfl rfl rfl rfl (rm6_15 l Z a0 hw n0 b201 b205 b204 b203 b202 j195 _ z_j195) (by decide) ⟨_, _, pd_4, rfl⟩ rfl rfl rfl (by decide) (by decide) (by decide) (by decide) ?_
         rintro _ T _ ⟨rfl, rfl⟩ A
         show Go p e below _ (T.setTop (mkF m 101 #[.val (.int a), .val (.int b), .val (.int fl), .val (.int (2 : Int32)), .val (.int (2 : Int32)), .val (.int j195), .val (.int j199), .val (.ref b201), .val (.int (1 : Int32)), .unset, .unset, .unset] [(.int j195)]))
         refine A.istore (q := 103) (l' := #[.val (.int a), .val (.int b), .val (.int fl), .val (.int (2 : Int32)), .val (.int (2 : Int32)), .val (.int j195), .val (.int j199), .val (.ref b201), .val (.int (1 : Int32)), .val (.int j195), .unset, .unset]) at_101 rfl rfl ?_
         refine A.aload (q := 105) at_103 rfl rfl rfl ?_
         refine A.iloadN (q := 106) at_105 rfl rfl ?_
         refine A.callV (q := 109) (i := 0) (w1 := 43) (w2 := 44) (w3 := 3) (w4 := 47) (w5 := 46) (w6 := 45) (a := b201) (as := [(.int (2 : Int32))]) (st := []) (W := 0) at_106 rfl rfl rfl rfl rfl rfl rfl rfl (rm6_15 l Z a0 hw n0 b201 b205 b204 b203 b202 j195 _ z_j195) (by decide) ⟨_, _, pd_4, rfl⟩ rfl rfl rfl (by decide) (by decide) (by decide) (by decide) ?_
         rintro _ T _ ⟨rfl, rfl⟩ A
         show Go p e below _ (T.setTop (mkF m 109 #[.val (.int a), .val (.int b), .val (.int fl), .val (.int (2 : Int32)), .val (.int (2 : Int32)), .val (.int j195), .val (.int j199), .val (.ref b201), .val (.int (1 : Int32)), .val (.int j195), .unset, .unset] [(.int j195)]))
         refine A.istore (q := 111) (l' := #[.val (.int a), .val (.int b), .val (.int fl), .val (.int (2 : Int32)), .val (.int (2 : Int32)), .val (.int j195), .val (.int j199), .val (.ref b201), .val (.int (1 : Int32)), .val (.int j195), .val (.int j195), .unset]) at_109 rfl rfl ?_
         refine A.iload (q := 113) at_111 rfl rfl ?_
         refine A.ifF (q := 116) at_113 rfl (by decide) ?_
         refine A.iload (q := 118) at_116 rfl rfl ?_
         refine A.iload (q := 120) at_118 rfl rfl ?_
         refine A.icmpF (q := 123) at_120 rfl (teq rfl).2 ?_
         refine A.iload (q := 125) at_123 rfl rfl ?_
         refine A.iload (q := 127) at_125 rfl rfl ?_
         refine A.iloadN (q := 128) at_127 rfl rfl ?_
         refine A.icmpF (q := 131) at_128 rfl (by decide) ?_
         refine A.iload (q := 133) at_131 rfl rfl ?_
         refine A.goto (r := 137) at_133 (by decide) ?_
         refine A.icmpF (q := 140) at_137 rfl (teq rfl).2 ?_
         refine A.iconst (q := 141) (v := (1 : Int32)) at_140 rfl (by decide) ?_
         refine A.goto (r := 145) at_141 (by decide) ?_
         refine A.istore (q := 147) (l' := #[.val (.int a), .val (.int b), .val (.int fl), .val (.int (2 : Int32)), .val (.int (2 : Int32)), .val (.int j195), .val (.int j199), .val (.ref b201), .val (.int (1 : Int32)), .val (.int j195), .val (.int j195), .unset]) at_145 rfl rfl ?_
         refine A.aload (q := 149) at_147 rfl rfl rfl ?_
         refine A.callV (q := 152) (i := 0) (w1 := 48) (w2 := 49) (w3 := 3) (w4 := 52) (w5 := 51) (w6 := 50) (a := b201) (as := []) (st := []) (W := 0) at_149 rfl rfl rfl rfl rfl rfl rfl rfl (rm7_9 l Z a0 hw n0 b201 b205 b204 b203 b202 j195 _ z_j195) (by decide) ⟨_, _, pd_5, rfl⟩ rfl rfl rfl (by decide) (by decide) (by decide) (by decide) ?_
         rintro _ T _ ⟨rfl, rfl⟩ A
         show Go p e below _ (T.setTop (mkF m 152 #[.val (.int a), .val (.int b), .val (.int fl), .val (.int (2 : Int32)), .val (.int (2 : Int32)), .val (.int j195), .val (.int j199), .val (.ref b201), .val (.int (1 : Int32)), .val (.int j195), .val (.int j195), .unset] [(.int (0 : Int32))]))
         refine A.istore (q := 154) (l' := #[.val (.int a), .val (.int b), .val (.int fl), .val (.int (2 : Int32)), .val (.int (2 : Int32)), .val (.int j195), .val (.int j199), .val (.ref b201), .val (.int (1 : Int32)), .val (.int j195), .val (.int j195), .val (.int (0 : Int32))]) at_152 rfl rfl ?_
         refine A.iload (q := 156) at_154 rfl rfl ?_
         refine A.ifF (q := 159) at_156 rfl (by decide) ?_
         refine A.iload (q := 161) at_159 rfl rfl ?_
         refine A.iload (q := 163) at_161 rfl rfl ?_
         refine A.iloadN (q := 164) at_163 rfl rfl ?_
         refine A.icmpT (r := 171) at_164 (by decide) (by decide) ?_
         refine A.iconst (q := 172) (v := (0 : Int32)) at_171 rfl (by decide) ?_
         refine A.icmpF (q := 175) at_172 rfl (by decide) ?_
         refine A.aload (q := 177) at_175 rfl rfl rfl ?_
         refine A.callV (q := 180) (i := 0) (w1 := 25) (w2 := 26) (w3 := 3) (w4 := 29) (w5 := 28) (w6 := 27) (a := b201) (as := []) (st := []) (W := 0) at_177 rfl rfl rfl rfl rfl rfl rfl rfl (rm4_10 l Z a0 hw n0 b201 b205 b204 b203 b202 j195 _ z_j195) (by decide) ⟨_, _, pd_2, rfl⟩ rfl rfl rfl (by decide) (by decide) (by decide) (by decide) ?_
         rintro _ T _ ⟨b214, rfl, rfl⟩ A
         show Go p e below _ (T.setTop (mkF m 180 #[.val (.int a), .val (.int b), .val (.int fl), .val (.int (2 : Int32)), .val (.int (2 : Int32)), .val (.int j195), .val (.int j199), .val (.ref b201), .val (.int (1 : Int32)), .val (.int j195), .val (.int j195), .val (.int (0 : Int32))] [(.ref b214)]))
         refine A.iloadN (q := 181) at_180 rfl rfl ?_
         refine A.iload (q := 183) at_181 rfl rfl ?_
         refine A.iload (q := 185) at_183 rfl rfl ?_
         refine A.iloadN (q := 186) at_185 rfl rfl ?_
         refine A.icmpT (r := 194) at_186 (by decide) (by decide) ?_
         refine A.iconst (q := 195) (v := (-1 : Int32)) at_194 rfl (by decide) ?_
         refine A.callS (q := 198) (w1 := 39) (w2 := 40) (w3 := 41) (w4 := 42) (as := [(.ref b214), (.int (2 : Int32)), (.int j195), (.int (-1 : Int32))]) (st := []) (W := 0) at_195 rfl rfl rfl rfl rfl (rm5_7 l Z a0 hw n0 b214 j195 _ z_j195) (by decide) ⟨_, _, pd_3, rfl⟩ rfl rfl rfl (by decide) (by decide) (by decide) (by decide) ?_
         rintro _ T _ ⟨rfl, rfl⟩ A
         show Go p e below _ (T.setTop (mkF m 198 #[.val (.int a), .val (.int b), .val (.int fl), .val (.int (2 : Int32)), .val (.int (2 : Int32)), .val (.int j195), .val (.int j199), .val (.ref b201), .val (.int (1 : Int32)), .val (.int j195), .val (.int j195), .val (.int (0 : Int32))] [(.int (1 : Int32))]))
         refine A.ifF (q := 201) at_198 rfl (by decide) ?_
         refine A.iconst (q := 202) (v := (1 : Int32)) at_201 rfl (by decide) ?_
         refine A.goto (r := 206) at_202 (by decide) ?_
         refine A.istore (q := 208) (l' := #[.val (.int a), .val (.int b), .val (.int fl), .val (.int (2 : Int32)), .val (.int (2 : Int32)), .val (.int j195), .val (.int j199), .val (.ref b201), .val (.int (1 : Int32)), .val (.int j195), .val (.int j195), .val (.int (0 : Int32))]) at_206 rfl rfl ?_
         refine A.aload (q := 210) at_208 rfl rfl rfl ?_
         have A := A.front (i := 5) rfl rfl
         have A := A.front (i := 5) rfl rfl
         have A := A.front (i := 5) rfl rfl
         have A := A.front (i := 5) rfl rfl
         have A := A.front (i := 5) (L' := [(b201, ob0 (.ref b205) (.ref b204) (.ref b203) (.ref b202) (.int (0 : Int32))), (b205, .inr (.boolean, [(.int (0 : Int32)), (.int (0 : Int32)), (.int j195)])), (b204, .inr (.int, [(.int (0 : Int32)), (.int (0 : Int32)), (.int (0 : Int32))])), (b203, .inr (.boolean, [(.int (0 : Int32)), (.int (0 : Int32)), (.int (0 : Int32))])), (b202, .inr (.boolean, [(.int (0 : Int32)), (.int (0 : Int32)), (.int (1 : Int32))])), (b214, .inr (.boolean, [(.int (0 : Int32)), (.int (0 : Int32)), (.int j195)])), (b213, .inr (.boolean, [(.int (0 : Int32)), (.int (0 : Int32)), (.int j195)]))]) rfl rfl
         refine A.callV (q := 213) (i := 0) (w1 := 55) (w2 := 56) (w3 := 3) (w4 := 59) (w5 := 58) (w6 := 57) (a := b201) (as := []) (st := []) (W := 0) at_210 rfl rfl rfl rfl rfl rfl rfl rfl (rm8_9 l Z a0 hw n0 b201 b205 b204 b203 b202 j195 _ z_j195) (by decide) ⟨_, _, pd_6, rfl⟩ rfl rfl rfl (by decide) (by decide) (by decide) (by decide) ?_
         rintro _ T _ ⟨rfl, rfl⟩ A
         show Go p e below _ (T.setTop (mkF m 213 #[.val (.int a), .val (.int b), .val (.int fl), .val (.int (2 : Int32)), .val (.int (2 : Int32)), .val (.int j195), .val (.int j199), .val (.ref b201), .val (.int (1 : Int32)), .val (.int j195), .val (.int j195), .val (.int (0 : Int32))] []))
         refine A.iload (q := 215) at_213 rfl rfl ?_
         refine A.ifF (q := 218) at_215 rfl (by decide) ?_
         refine A.aload (q := 220) at_218 rfl rfl rfl ?_
         refine A.callV (q := 223) (i := 0) (w1 := 25) (w2 := 26) (w3 := 3) (w4 := 29) (w5 := 28) (w6 := 27) (a := b201) (as := []) (st := []) (W := 0) at_220 rfl rfl rfl rfl rfl rfl rfl rfl (rm4_10 l Z a0 hw n0 b201 b205 b204 b203 b202 j195 _ z_j195) (by decide) ⟨_, _, pd_2, rfl⟩ rfl rfl rfl (by decide) (by decide) (by decide) (by decide) ?_
         rintro _ T _ ⟨b215, rfl, rfl⟩ A
         show Go p e below _ (T.setTop (mkF m 223 #[.val (.int a), .val (.int b), .val (.int fl), .val (.int (2 : Int32)), .val (.int (2 : Int32)), .val (.int j195), .val (.int j199), .val (.ref b201), .val (.int (1 : Int32)), .val (.int j195), .val (.int j195), .val (.int (0 : Int32))] [(.ref b215)]))
         refine A.iloadN (q := 224) at_223 rfl rfl ?_
         refine A.iload (q := 226) at_224 rfl rfl ?_
         refine A.iconst (q := 227) (v := (-1 : Int32)) at_226 rfl (by decide) ?_
         refine A.callS (q := 230) (w1 := 39) (w2 := 40) (w3 := 41) (w4 := 42) (as := [(.ref b215), (.int (2 : Int32)), (.int j195), (.int (-1 : Int32))]) (st := []) (W := 0) at_227 rfl rfl rfl rfl rfl (rm5_7 l Z a0 hw n0 b215 j195 _ z_j195) (by decide) ⟨_, _, pd_3, rfl⟩ rfl rfl rfl (by decide) (by decide) (by decide) (by decide) ?_
         rintro _ T _ ⟨rfl, rfl⟩ A
         show Go p e below _ (T.setTop (mkF m 230 #[.val (.int a), .val (.int b), .val (.int fl), .val (.int (2 : Int32)), .val (.int (2 : Int32)), .val (.int j195), .val (.int j199), .val (.ref b201), .val (.int (1 : Int32)), .val (.int j195), .val (.int j195), .val (.int (0 : Int32))] [(.int (1 : Int32))]))
         refine A.ifF (q := 233) at_230 rfl (by decide) ?_
         refine A.iconst (q := 234) (v := (1 : Int32)) at_233 rfl (by decide) ?_
         refine A.goto (r := 238) at_234 (by decide) ?_
         refine A.istore (q := 240) (l' := #[.val (.int a), .val (.int b), .val (.int fl), .val (.int (2 : Int32)), .val (.int (2 : Int32)), .val (.int j195), .val (.int j199), .val (.ref b201), .val (.int (1 : Int32)), .val (.int j195), .val (.int j195), .val (.int (0 : Int32))]) at_238 rfl rfl ?_
         refine A.iload (q := 242) at_240 rfl rfl ?_
         exact A.retZ (v := 1) at_242 (by decide) (by decide) (by decide) rfl
        refine A.iload (q := 53) at_51 rfl rfl ?_
        refine A.if_eq (q := 56) (r := 72) at_53 rfl (by decide) (fun h206 => ?_) (fun h206 => ?_)
        · exact J51_211 T _ _ (by simp only [if_pos h206]) (by simp only [if_pos h206]) A
        · refine A.aload (q := 58) at_56 rfl rfl rfl ?_
          refine A.iloadN (q := 59) at_58 rfl rfl ?_
          have J59_208 : ∀ (T : State) (j208 : Int32), j208 = (if j195 = (0 : Int32) then (1 : Int32) else (0 : Int32)) → Here p l e room_1 s m ([(.int a), (.int b), (.int fl)] : List Value).toArray below meth c Z a0 tables_1 x.cls x.name code 12 (some .boolean) n0 T [(b202, .inr (.boolean, [(.int (0 : Int32)), (.int (0 : Int32)), (.int (0 : Int32))])), (b203, .inr (.boolean, [(.int (0 : Int32)), (.int (0 : Int32)), (.int (0 : Int32))])), (b204, .inr (.int, [(.int (0 : Int32)), (.int (0 : Int32)), (.int (0 : Int32))])), (b205, .inr (.boolean, [(.int (0 : Int32)), (.int (0 : Int32)), (.int (0 : Int32))])), (b201, ob0 (.ref b205) (.ref b204) (.ref b203) (.ref b202) (.int (0 : Int32)))] 5 18 → Go p e below (EndS below s n0 Z 24 128 (fun v _ => v = some (.int 1))) (T.setTop (mkF m 69 #[.val (.int a), .val (.int b), .val (.int fl), .val (.int (2 : Int32)), .val (.int (2 : Int32)), .val (.int j195), .val (.int j199), .val (.ref b201), .unset, .unset, .unset, .unset] [(.int j208), (.int (2 : Int32)), (.ref b201)])) := by
           intro T j208 ej208 A
           have z_j208 : nar .boolean j208 = j208 := by rw [ej208]; (repeat' split) <;> first | decide | assumption
           have A := A.front (i := 1) rfl rfl
           have A := A.front (i := 2) rfl rfl
           have A := A.front (i := 3) rfl rfl
           have A := A.front (i := 4) (L' := [(b201, ob0 (.ref b205) (.ref b204) (.ref b203) (.ref b202) (.int (0 : Int32))), (b205, .inr (.boolean, [(.int (0 : Int32)), (.int (0 : Int32)), (.int (0 : Int32))])), (b204, .inr (.int, [(.int (0 : Int32)), (.int (0 : Int32)), (.int (0 : Int32))])), (b203, .inr (.boolean, [(.int (0 : Int32)), (.int (0 : Int32)), (.int (0 : Int32))])), (b202, .inr (.boolean, [(.int (0 : Int32)), (.int (0 : Int32)), (.int (0 : Int32))]))]) rfl rfl
           refine A.callV (q := 72) (i := 0) (w1 := 20) (w2 := 21) (w3 := 3) (w4 := 24) (w5 := 23) (w6 := 22) (a := b201) (as := [(.int (2 : Int32)), (.int j208)]) (st := []) (W := 0) at_69 rfl rfl rfl rfl rfl rfl rfl rfl (rm3_5 l Z a0 hw n0 b201 j208 b205 b204 b203 b202 _ z_j208) (by decide) ⟨_, _, pd_1, rfl⟩ rfl rfl rfl (by decide) (by decide) (by decide) (by decide) ?_
           rintro _ T _ ⟨rfl, rfl⟩ A
           show Go p e below _ (T.setTop (mkF m 72 #[.val (.int a), .val (.int b), .val (.int fl), .val (.int (2 : Int32)), .val (.int (2 : Int32)), .val (.int j195), .val (.int j199), .val (.ref b201), .unset, .unset, .unset, .unset] []))
           have A := A.front (i := 1) rfl rfl
           have A := A.front (i := 2) rfl rfl
           have A := A.front (i := 3) rfl rfl
           have A := A.front (i := 4) (L' := [(b202, .inr (.boolean, [(.int (0 : Int32)), (.int (0 : Int32)), (.int (1 : Int32))])), (b203, .inr (.boolean, [(.int (0 : Int32)), (.int (0 : Int32)), (.int (0 : Int32))])), (b204, .inr (.int, [(.int (0 : Int32)), (.int (0 : Int32)), (.int (0 : Int32))])), (b205, .inr (.boolean, [(.int (0 : Int32)), (.int (0 : Int32)), (.int j208)])), (b201, ob0 (.ref b205) (.ref b204) (.ref b203) (.ref b202) (.int (0 : Int32)))]) rfl rfl
           exact J51_211 T _ _ (by simp only [ej208, if_neg h206]) (by simp only [ej208, if_neg h206]) A
          refine A.iload (q := 61) at_59 rfl rfl ?_
          refine A.if_ne (q := 64) (r := 68) at_61 rfl (by decide) (fun h207 => ?_) (fun h207 => ?_)
          · refine A.iconst (q := 69) (v := (0 : Int32)) at_68 rfl (by decide) ?_
            exact J59_208 T _ (by simp only [if_neg h207]) A
          · refine A.iconst (q := 65) (v := (1 : Int32)) at_64 rfl (by decide) ?_
            refine A.goto (r := 69) at_65 (by decide) ?_
            exact J59_208 T _ (by simp only [if_pos h207]) A
       refine A.iloadN (q := 29) at_28 rfl rfl ?_
       refine A.iconst (q := 30) (v := (2 : Int32)) at_29 rfl (by decide) ?_
       obtain ⟨v197, e197⟩ : ∃ v : Int32, fl &&& (2 : Int32) = v := ⟨_, rfl⟩
       refine A.iand (q := 31) at_30 rfl e197 ?_
       refine A.if_eq (q := 34) (r := 38) at_31 rfl (by decide) (fun h198 => ?_) (fun h198 => ?_)
       · refine A.iconst (q := 39) (v := (0 : Int32)) at_38 rfl (by decide) ?_
         exact J28_199 T _ (by simp only [e197, if_pos h198]) A
       · refine A.iconst (q := 35) (v := (1 : Int32)) at_34 rfl (by decide) ?_
         refine A.goto (r := 39) at_35 (by decide) ?_
         exact J28_199 T _ (by simp only [e197, if_neg h198]) A
      refine A.iloadN (q := 16) at_15 rfl rfl ?_
      refine A.iconst (q := 17) (v := (1 : Int32)) at_16 rfl (by decide) ?_
      obtain ⟨v193, e193⟩ : ∃ v : Int32, fl &&& (1 : Int32) = v := ⟨_, rfl⟩
      refine A.iand (q := 18) at_17 rfl e193 ?_
      refine A.if_eq (q := 21) (r := 25) at_18 rfl (by decide) (fun h194 => ?_) (fun h194 => ?_)
      · refine A.iconst (q := 26) (v := (0 : Int32)) at_25 rfl (by decide) ?_
        exact J15_195 T _ (by simp only [e193, if_pos h194]) A
      · refine A.iconst (q := 22) (v := (1 : Int32)) at_21 rfl (by decide) ?_
        refine A.goto (r := 26) at_22 (by decide) ?_
        exact J15_195 T _ (by simp only [e193, if_neg h194]) A
set_option maxRecDepth 65536 in
set_option maxHeartbeats 8000000 in
theorem comes_1 {Post : Tables → Env → Array Value → State → Outcome → State → Prop} (hpost : ∀ tb e args s v u, (limb_1_1.after args s (.returned v) u = true ∧ limb_1_2.after args s (.returned v) u = true ∧ True) → FrameEnd s (.returned v) u (Jvm.fieldLocs frame_1_writes args s ++ Jvm.arrayLocs frame_1_arrays args s ++ Jvm.staticLocs frame_1_statics s) 24 128 → Post tb e args s (.returned v) u) :
    ArmFor flags0 classFile x code maxLocals ret World_1 tables_1 room_1 Calls_1 rest_1 Pre_1 Post := by
  intro l hfl _ _ p e ha hc hk s m args below hf hA hF happ hP
  obtain ⟨hcalls, hrest, hpre⟩ := hP
  obtain ⟨-, -, -, hnamed, -, -, -, hat⟩ := (Spec.applies_iff hf).mp happ
  obtain ⟨hg, hn⟩ := and_e (Cond.before_iff.mp (show (Jvm.Cond.and given_1 narrow_1).before args s = true from hpre))
  obtain ⟨g1, hg⟩ := and_e hg
  obtain ⟨gv0, hg⟩ := and_e hg
  obtain ⟨gv1, hg⟩ := and_e hg
  have gv2 := hg
  obtain ⟨w0, w1, w2, rfl⟩ : ∃ w0 w1 w2 : Value, args = #[w0, w1, w2] := by
    have hs : args.size = 3 := by simpa [Cond.value, given_1] using g1
    obtain ⟨L⟩ := args
    match L, hs with
    | [w0, w1, w2], _ => exact ⟨w0, w1, w2, rfl⟩
  have hw := fun d (hd : d ∈ tables_1) => atoms_spec (ws := Jvm.Cond.code x code maxLocals ret :: tables_1) hat d (List.mem_cons_of_mem _ hd)
  obtain ⟨i0, ei0⟩ := is_v gv0
  obtain rfl : w0 = (.int i0) := Option.some.inj ei0
  obtain ⟨i1, ei1⟩ := is_v gv1
  obtain rfl : w1 = (.int i1) := Option.some.inj ei1
  obtain ⟨i2, ei2⟩ := is_v gv2
  obtain rfl : w2 = (.int i2) := Option.some.inj ei2
  obtain ⟨n, o, h1, h2, h3, _, L, rfl, ⟨N, _, L', rfl, _⟩, hq⟩ := rm0 l s _ hw s.heap.size i0 i1 i2 s.heap tables_1 (Nat.le_refl _) ⟨fun _ q => (nomatch q), List.nodup_nil⟩ p e ha hc hk s m _ below hf ((Spec.applies_iff_loose hf).mp happ).1 ⟨rfl, State.Warmed39.refl s, rfl⟩ trivial
  refine ⟨n, _, h1, h2, h3, hpost _ _ _ _ _ _ ⟨Cond.after_iff.mpr rfl, Cond.after_iff.mpr (eq_i res_at (Term.int_eval (1)) rfl), trivial⟩ ⟨hq.1, hq.2.1, hq.2.2.sift fun y hy => Or.inr (N y hy)⟩⟩
theorem main_1_1 : Claimed_1_1 := comes_1 fun _ _ _ _ _ _ h hF => ⟨h.1, hF⟩
theorem main_1_2 : Claimed_1_2 := comes_1 fun _ _ _ _ _ _ h hF => ⟨h.2.1, hF⟩
end Jvm.Pilot.@@N@@
namespace Jvm.Pilot.@@N@@
open Jvm Jvm.ClassFile Sem Op Lib Jvm.Free Jvm.Stand Jvm.Pilot.@@N@@.Jvm.D
/-! MADE BY PROGRAM (witnessworld.py) out of the Statement's table words and the real class files: 11 classes; the members and pool entries that the words name. The judged class is class 1, her method 2. -/
namespace start1
open Jvm.ClassFile
def u (s : String) : CpInfo := .utf8 (stringToUtf16 s)
/-- a pool by its gaps: so many unusable entries, then the entry; so many at the end -/
def gap : Nat → List CpInfo → List CpInfo
  | 0, r => r
  | n + 1, r => .unusable :: gap n r
def poolList (es : List (Nat × CpInfo)) (last : Nat) : List CpInfo := es.foldr (fun e r => gap e.1 (e.2 :: r)) (gap last [])
def pool (es : List (Nat × CpInfo)) (last : Nat) : Array CpInfo := ⟨poolList es last⟩
def fileOf (pool : Array CpInfo) (this : Nat) (attrs : Array Attribute := #[]) (ms : Array MethodInfo := #[]) (fl : Nat := 33) (sup : Nat := 0) (ifs : Array Nat := #[]) (fds : Array FieldInfo := #[]) : ClassFile where
  minorVersion := 0
  majorVersion := 65
  constantPool := pool
  accessFlags := fl
  thisClass := this
  superClass := sup
  interfaces := ifs
  fields := fds
  methods := ms
  attributes := attrs
def plain (name : String) (sup : Option ClassId) : Class where
  name := name
  kind := .ordinary
  loader := none
  accessFlags := 33
  super := sup
  interfaces := #[]
  cf := none
  fields := #[]
  methods := #[]
  instanceTypes := #[]
  staticTypes := #[]
  resolved := #[]
  callSites := []
  init := .initialized
  statics := none
  mirror := none

def pool0 : Array CpInfo := pool [(5, u "<init>"), (0, u "()V"), (1, .class_ 10), (1, u "java/lang/Object"), (85, u "clone"), (0, u "()Ljava/lang/Object;")] 26

def k0c0 : Code := { maxStack := 0, maxLocals := 1, code := object_method_1_code, exceptionTable := #[], attributes := #[] }
def k0m0 : Method := { name := "<init>", desc := "()V", sig := { parameters := [], returnType := none }, accessFlags := 1, code := some k0c0 }
def k0m1 : Method := { name := "clone", desc := "()Ljava/lang/Object;", sig := { parameters := [], returnType := some (.object "java/lang/Object") }, accessFlags := 260, code := none }
/-- java/lang/Object -/
def k0 : Class := { plain "java/lang/Object" none with
  accessFlags := 33
  interfaces := #[]
  cf := some (fileOf pool0 8 #[] #[{ accessFlags := 1, nameIndex := 5, descriptorIndex := 6, attributes := #[] }, { accessFlags := 260, nameIndex := 96, descriptorIndex := 97, attributes := #[] }] 33 0 #[] #[])
  fields := #[]
  methods := #[k0m0, k0m1]
  instanceTypes := #[]
  staticTypes := #[]
  resolved := Array.replicate 124 none
  statics := none }

def pool1 : Array CpInfo := pool [(2, .class_ 4), (1, u "java/lang/Object"), (0, u "<init>"), (0, u "()V"), (0, .integer 2147483647), (0, .class_ 9), (0, u "com/example/proof_of_scan/proofofscan/Choices"), (0, .methodref 8 11), (0, .nameAndType 5 12), (0, u "(I)V"), (0, .methodref 8 14), (0, .nameAndType 15 16), (0, u "hold"), (0, u "(IZ)V"), (0, .methodref 8 18), (0, .nameAndType 19 20), (0, u "values"), (0, u "()[Z"), (0, .methodref 22 23), (0, .class_ 24), (0, .nameAndType 25 26), (0, u "com/example/proof_of_scan/proofofscan/ChoicesHoldPinLaw"), (0, u "same"), (0, u "([ZIZI)Z"), (0, .methodref 8 28), (0, .nameAndType 29 30), (0, u "take"), (0, u "(I)Z"), (0, .methodref 8 32), (0, .nameAndType 33 34), (0, u "next"), (0, u "()Z"), (0, .methodref 8 36), (0, .nameAndType 37 6), (0, u "reset"), (3, u "law"), (0, u "(III)Z")] 4

def k1m0 : Method := { name := "<init>", desc := "()V", sig := { parameters := [], returnType := none }, accessFlags := 1, code := none }
def k1c1 : Code := { maxStack := 2, maxLocals := 7, code := method_2_code, exceptionTable := #[], attributes := #[] }
def k1m1 : Method := { name := "same", desc := "([ZIZI)Z", sig := { parameters := [(.array .boolean), .int, .boolean, .int], returnType := some .boolean }, accessFlags := 10, code := some k1c1 }
def k1c2 : Code := { maxStack := 5, maxLocals := 12, code := code, exceptionTable := #[], attributes := #[] }
def k1m2 : Method := { name := "law", desc := "(III)Z", sig := { parameters := [.int, .int, .int], returnType := some .boolean }, accessFlags := 9, code := some k1c2 }
/-- com/example/proof_of_scan/proofofscan/ChoicesHoldPinLaw -/
def k1 : Class := { plain "com/example/proof_of_scan/proofofscan/ChoicesHoldPinLaw" (some 0) with
  accessFlags := 49
  interfaces := #[]
  cf := some (fileOf pool1 22 #[] #[{ accessFlags := 1, nameIndex := 5, descriptorIndex := 6, attributes := #[] }, { accessFlags := 10, nameIndex := 25, descriptorIndex := 26, attributes := #[] }, { accessFlags := 9, nameIndex := 41, descriptorIndex := 42, attributes := #[] }] 49 2 #[] #[])
  fields := #[]
  methods := #[k1m0, k1m1, k1m2]
  instanceTypes := #[]
  staticTypes := #[]
  resolved := Array.replicate 47 none
  statics := none }

def pool2 : Array CpInfo := pool [(1, .methodref 2 3), (0, .class_ 4), (0, .nameAndType 5 6), (0, u "java/lang/Object"), (0, u "<init>"), (0, u "()V"), (0, .fieldref 8 9), (0, .class_ 10), (0, .nameAndType 11 12), (0, u "com/example/proof_of_scan/proofofscan/Choices"), (0, u "values"), (0, u "[Z"), (0, .fieldref 8 14), (0, .nameAndType 15 16), (0, u "taken"), (0, u "[I"), (0, .fieldref 8 18), (0, .nameAndType 19 12), (0, u "isTaken"), (0, .fieldref 8 21), (0, .nameAndType 22 12), (0, u "isHeld"), (0, .fieldref 8 24), (0, .nameAndType 25 26), (0, u "takenCount"), (0, u "I"), (2, u "rounds"), (6, .methodref 8 37), (0, .nameAndType 38 6), (0, u "forgetTaken"), (0, .methodref 40 41), (0, .class_ 12), (0, .nameAndType 42 43), (0, u "clone"), (0, u "()Ljava/lang/Object;"), (0, u "(I)V"), (2, u "hold"), (0, u "(IZ)V"), (0, u "take"), (0, u "(I)Z"), (6, u "()[Z"), (0, u "reset"), (0, u "next"), (0, u "()Z")] 2

def k2c0 : Code := { maxStack := 2, maxLocals := 2, code := prog_2_method_1_code, exceptionTable := #[], attributes := #[] }
def k2m0 : Method := { name := "<init>", desc := "(I)V", sig := { parameters := [.int], returnType := none }, accessFlags := 0, code := some k2c0 }
def k2c1 : Code := { maxStack := 3, maxLocals := 3, code := prog_2_method_2_code, exceptionTable := #[], attributes := #[] }
def k2m1 : Method := { name := "hold", desc := "(IZ)V", sig := { parameters := [.int, .boolean], returnType := none }, accessFlags := 0, code := some k2c1 }
def k2c2 : Code := { maxStack := 5, maxLocals := 2, code := prog_2_method_3_code, exceptionTable := #[], attributes := #[] }
def k2m2 : Method := { name := "take", desc := "(I)Z", sig := { parameters := [.int], returnType := some .boolean }, accessFlags := 0, code := some k2c2 }
def k2c3 : Code := { maxStack := 1, maxLocals := 1, code := prog_2_method_7_code, exceptionTable := #[], attributes := #[] }
def k2m3 : Method := { name := "values", desc := "()[Z", sig := { parameters := [], returnType := some (.array .boolean) }, accessFlags := 0, code := some k2c3 }
def k2c4 : Code := { maxStack := 5, maxLocals := 2, code := prog_2_method_8_code, exceptionTable := #[], attributes := #[] }
def k2m4 : Method := { name := "reset", desc := "()V", sig := { parameters := [], returnType := none }, accessFlags := 0, code := some k2c4 }
def k2c5 : Code := { maxStack := 3, maxLocals := 3, code := prog_2_method_9_code, exceptionTable := #[], attributes := #[] }
def k2m5 : Method := { name := "next", desc := "()Z", sig := { parameters := [], returnType := some .boolean }, accessFlags := 0, code := some k2c5 }
def k2c6 : Code := { maxStack := 3, maxLocals := 2, code := prog_2_method_10_code, exceptionTable := #[], attributes := #[] }
def k2m6 : Method := { name := "forgetTaken", desc := "()V", sig := { parameters := [], returnType := none }, accessFlags := 2, code := some k2c6 }
/-- com/example/proof_of_scan/proofofscan/Choices -/
def k2 : Class := { plain "com/example/proof_of_scan/proofofscan/Choices" (some 0) with
  accessFlags := 32
  interfaces := #[]
  cf := some (fileOf pool2 8 #[] #[{ accessFlags := 0, nameIndex := 5, descriptorIndex := 44, attributes := #[] }, { accessFlags := 0, nameIndex := 47, descriptorIndex := 48, attributes := #[] }, { accessFlags := 0, nameIndex := 49, descriptorIndex := 50, attributes := #[] }, { accessFlags := 0, nameIndex := 11, descriptorIndex := 57, attributes := #[] }, { accessFlags := 0, nameIndex := 58, descriptorIndex := 6, attributes := #[] }, { accessFlags := 0, nameIndex := 59, descriptorIndex := 60, attributes := #[] }, { accessFlags := 2, nameIndex := 38, descriptorIndex := 6, attributes := #[] }] 32 2 #[] #[{ accessFlags := 18, nameIndex := 11, descriptorIndex := 12, attributes := #[] }, { accessFlags := 18, nameIndex := 15, descriptorIndex := 16, attributes := #[] }, { accessFlags := 18, nameIndex := 19, descriptorIndex := 12, attributes := #[] }, { accessFlags := 18, nameIndex := 22, descriptorIndex := 12, attributes := #[] }, { accessFlags := 2, nameIndex := 25, descriptorIndex := 26, attributes := #[] }, { accessFlags := 2, nameIndex := 29, descriptorIndex := 26, attributes := #[] }])
  fields := #[{ name := "values", type := (.array .boolean), accessFlags := 18, slot := 0, constantValue := 0 }, { name := "taken", type := (.array .int), accessFlags := 18, slot := 1, constantValue := 0 }, { name := "isTaken", type := (.array .boolean), accessFlags := 18, slot := 2, constantValue := 0 }, { name := "isHeld", type := (.array .boolean), accessFlags := 18, slot := 3, constantValue := 0 }, { name := "takenCount", type := .int, accessFlags := 2, slot := 4, constantValue := 0 }, { name := "rounds", type := .int, accessFlags := 2, slot := 5, constantValue := 0 }]
  methods := #[k2m0, k2m1, k2m2, k2m3, k2m4, k2m5, k2m6]
  instanceTypes := #[(.array .boolean), (.array .int), (.array .boolean), (.array .boolean), .int, .int]
  staticTypes := #[]
  resolved := Array.replicate 63 none
  statics := none }

def pool3 : Array CpInfo := pool [(1, .class_ 2), (0, u "java/lang/Cloneable"), (0, .class_ 4), (0, u "java/lang/Object")] 2

/-- java/lang/Cloneable -/
def k3 : Class := { plain "java/lang/Cloneable" (some 0) with
  accessFlags := 1537
  interfaces := #[]
  cf := some (fileOf pool3 1 #[] #[] 1537 3 #[] #[])
  fields := #[]
  methods := #[]
  instanceTypes := #[]
  staticTypes := #[]
  resolved := Array.replicate 7 none
  statics := none }

def pool4 : Array CpInfo := pool [(1, u "java/io/Serializable"), (0, .class_ 1), (0, u "java/lang/Object"), (0, .class_ 3)] 3

/-- java/io/Serializable -/
def k4 : Class := { plain "java/io/Serializable" (some 0) with
  accessFlags := 1537
  interfaces := #[]
  cf := some (fileOf pool4 2 #[] #[] 1537 4 #[] #[])
  fields := #[]
  methods := #[]
  instanceTypes := #[]
  staticTypes := #[]
  resolved := Array.replicate 8 none
  statics := none }

/-- the primitive boolean -/
def k5 : Class := { plain "boolean" none with kind := .primitive 'Z', accessFlags := 0x411 }
/-- [Z -/
def k6 : Class := { plain "[Z" (some 0) with kind := .array 5 .boolean, interfaces := #[3, 4], accessFlags := 1041 }

/-- the primitive byte -/
def k7 : Class := { plain "byte" none with kind := .primitive 'B', accessFlags := 0x411 }
/-- [B -/
def k8 : Class := { plain "[B" (some 0) with kind := .array 7 .byte, interfaces := #[3, 4], accessFlags := 1041 }

/-- the primitive int -/
def k9 : Class := { plain "int" none with kind := .primitive 'I', accessFlags := 0x411 }
/-- [I -/
def k10 : Class := { plain "[I" (some 0) with kind := .array 9 .int, interfaces := #[3, 4], accessFlags := 1041 }

def heap : Heap := #[]
def classes : Array Class := #[k0, k1, k2, k3, k4, k5, k6, k7, k8, k9, k10]
def interned : List (Array UInt16 × Addr) := []
def slotsUsed : Nat := 0
def theMethod : MethodId := ⟨1, 2⟩
def args0 : Array Value := #[.int 5, .int 3, .int 3]
def aboutOver (below : List Frame) : State where
  vm := { classes := classes, interned := interned.toArray }
  heap := heap
  slotsUsed := slotsUsed
  threads := #[{ frames := .invoking theMethod args0 :: below }]
def below0 : List Frame := [.native { method := ⟨0, 0⟩, args := #[] }]
def about1 : State := aboutOver below0
def p0 : Program := .bare "" "" ""
def e0 : Env := launch0.env 0 0 0
theorem w_frames : about1.frames = Frame.invoking theMethod args0 :: below0 := rfl
set_option maxRecDepth 65536 in
theorem w_args : argsFit about1.vm theMethod args0 = true := by decide +kernel
set_option maxRecDepth 65536 in
theorem w_heap : heapFits about1 = true := by decide +kernel
set_option maxRecDepth 65536 in
theorem w_runnable : about1.curStatus? = some .runnable := by decide +kernel
set_option maxRecDepth 65536 in
theorem w_alone : about1.alone = true := by decide +kernel
set_option maxRecDepth 65536 in
theorem w_named : about1.methodNamed? x = some theMethod := by decide +kernel
set_option maxRecDepth 65536 in
theorem w_hears : about1.hears theMethod below0 = true := by decide +kernel
set_option maxRecDepth 65536 in
theorem w_ripe : about1.ripe theMethod args0 below0 = true := by decide +kernel
theorem w_running : about1.status = .running := rfl
set_option maxRecDepth 65536 in
theorem w_room : about1.hasRoom e0.platform room_1 = true :=
  launch0.hasRoom_least _ room_1 (by decide +kernel) (by decide +kernel) (by decide +kernel) (by decide +kernel) (by decide +kernel) (by decide +kernel)
theorem allAtoms_all (ts : List Jvm.Cond) (a : Array Jvm.Value) (st : Jvm.State) : (allAtoms ts).before a st = ts.all (fun c => c.before a st) := by
  induction ts with
  | nil => rfl
  | cons c t ih =>
    show (Jvm.Cond.and c (allAtoms t)).before a st = _
    rw [Jvm.Cond.before_and, ih, List.all_cons]
def words1 : List Jvm.Cond := Jvm.Cond.code x code maxLocals ret :: tables_1
/-- a 'code' word, met by the world's own term for the bytes: nothing is compared byte by byte -/
theorem code_word {y : MethodName} {bytes : ByteArray} {mx : Nat} {rt : Option FieldType} {a : Array Value} {s : State} {m : MethodId} {meth : Method} {c : Code} (h1 : s.methodNamed? y = some m) (h2 : s.vm.method? m = some meth) (h3 : meth.code = some c) (h4 : c.code = bytes)
    (h5 : (c.maxLocals == mx && c.exceptionTable.isEmpty && decide (c.maxStack ≤ mostOperands) && decide (meth.sig.returnType = rt) && !meth.locks && decide (parseMethodDescriptor y.desc = some meth.sig)) = true) : (Jvm.Cond.code y bytes mx rt).before a s = true := by
  simp only [Bool.and_eq_true, beq_iff_eq, Bool.not_eq_true', decide_eq_true_eq] at h5
  obtain ⟨⟨⟨⟨⟨g1, g2⟩, g3⟩, g4⟩, g5⟩, g6⟩ := h5
  simp [Cond.before, Cond.holds, Cond.value, h1, h2, h3, h4, g1, g2, g3, g4, g5, g6]
def isCode : Jvm.Cond → Bool
  | .code _ _ _ _ => true
  | _ => false
theorem all_split {L : List Jvm.Cond} {P : Jvm.Cond → Bool} (h1 : L.all (fun c => isCode c || P c) = true) (h2 : ∀ c ∈ L.filter isCode, P c = true) : L.all P = true := by
  refine List.all_eq_true.mpr fun c hc => ?_
  have h := List.all_eq_true.mp h1 c hc
  rcases Bool.eq_false_or_eq_true (isCode c) with hi | hi
  · exact h2 c (List.mem_filter.mpr ⟨hc, hi⟩)
  · simpa [hi] using h
set_option maxRecDepth 65536 in
theorem w_c0 : (Jvm.Cond.code x code maxLocals ret).before args0 about1 = true := code_word (m := ⟨1, 2⟩) (meth := k1m2) (c := k1c2) (by decide +kernel) rfl rfl rfl (by decide +kernel)
set_option maxRecDepth 65536 in
theorem w_c1 : (Jvm.Cond.code ({ cls := "com/example/proof_of_scan/proofofscan/Choices", name := "<init>", desc := "(I)V" } : Jvm.MethodName) prog_2_method_1_code (2 : Nat) (Option.none : Option Jvm.ClassFile.FieldType)).before args0 about1 = true := code_word (m := ⟨2, 0⟩) (meth := k2m0) (c := k2c0) (by decide +kernel) rfl rfl rfl (by decide +kernel)
set_option maxRecDepth 65536 in
theorem w_c2 : (Jvm.Cond.code ({ cls := "java/lang/Object", name := "<init>", desc := "()V" } : Jvm.MethodName) object_method_1_code (1 : Nat) (Option.none : Option Jvm.ClassFile.FieldType)).before args0 about1 = true := code_word (m := ⟨0, 0⟩) (meth := k0m0) (c := k0c0) (by decide +kernel) rfl rfl rfl (by decide +kernel)
set_option maxRecDepth 65536 in
theorem w_c3 : (Jvm.Cond.code ({ cls := "com/example/proof_of_scan/proofofscan/Choices", name := "hold", desc := "(IZ)V" } : Jvm.MethodName) prog_2_method_2_code (3 : Nat) (Option.none : Option Jvm.ClassFile.FieldType)).before args0 about1 = true := code_word (m := ⟨2, 1⟩) (meth := k2m1) (c := k2c1) (by decide +kernel) rfl rfl rfl (by decide +kernel)
set_option maxRecDepth 65536 in
theorem w_c4 : (Jvm.Cond.code ({ cls := "com/example/proof_of_scan/proofofscan/Choices", name := "values", desc := "()[Z" } : Jvm.MethodName) prog_2_method_7_code (1 : Nat) (Option.some (Jvm.ClassFile.FieldType.array Jvm.ClassFile.FieldType.boolean))).before args0 about1 = true := code_word (m := ⟨2, 3⟩) (meth := k2m3) (c := k2c3) (by decide +kernel) rfl rfl rfl (by decide +kernel)
set_option maxRecDepth 65536 in
theorem w_c5 : (Jvm.Cond.code ({ cls := "com/example/proof_of_scan/proofofscan/ChoicesHoldPinLaw", name := "same", desc := "([ZIZI)Z" } : Jvm.MethodName) method_2_code (7 : Nat) (Option.some Jvm.ClassFile.FieldType.boolean)).before args0 about1 = true := code_word (m := ⟨1, 1⟩) (meth := k1m1) (c := k1c1) (by decide +kernel) rfl rfl rfl (by decide +kernel)
set_option maxRecDepth 65536 in
theorem w_c6 : (Jvm.Cond.code ({ cls := "com/example/proof_of_scan/proofofscan/Choices", name := "take", desc := "(I)Z" } : Jvm.MethodName) prog_2_method_3_code (2 : Nat) (Option.some Jvm.ClassFile.FieldType.boolean)).before args0 about1 = true := code_word (m := ⟨2, 2⟩) (meth := k2m2) (c := k2c2) (by decide +kernel) rfl rfl rfl (by decide +kernel)
set_option maxRecDepth 65536 in
theorem w_c7 : (Jvm.Cond.code ({ cls := "com/example/proof_of_scan/proofofscan/Choices", name := "next", desc := "()Z" } : Jvm.MethodName) prog_2_method_9_code (3 : Nat) (Option.some Jvm.ClassFile.FieldType.boolean)).before args0 about1 = true := code_word (m := ⟨2, 5⟩) (meth := k2m5) (c := k2c5) (by decide +kernel) rfl rfl rfl (by decide +kernel)
set_option maxRecDepth 65536 in
theorem w_c8 : (Jvm.Cond.code ({ cls := "com/example/proof_of_scan/proofofscan/Choices", name := "reset", desc := "()V" } : Jvm.MethodName) prog_2_method_8_code (2 : Nat) (Option.none : Option Jvm.ClassFile.FieldType)).before args0 about1 = true := code_word (m := ⟨2, 4⟩) (meth := k2m4) (c := k2c4) (by decide +kernel) rfl rfl rfl (by decide +kernel)
set_option maxRecDepth 65536 in
theorem w_c9 : (Jvm.Cond.code ({ cls := "com/example/proof_of_scan/proofofscan/Choices", name := "forgetTaken", desc := "()V" } : Jvm.MethodName) prog_2_method_10_code (2 : Nat) (Option.none : Option Jvm.ClassFile.FieldType)).before args0 about1 = true := code_word (m := ⟨2, 6⟩) (meth := k2m6) (c := k2c6) (by decide +kernel) rfl rfl rfl (by decide +kernel)
def codes1 : List Jvm.Cond := [Jvm.Cond.code x code maxLocals ret, Jvm.Cond.code ({ cls := "com/example/proof_of_scan/proofofscan/Choices", name := "<init>", desc := "(I)V" } : Jvm.MethodName) prog_2_method_1_code (2 : Nat) (Option.none : Option Jvm.ClassFile.FieldType), Jvm.Cond.code ({ cls := "java/lang/Object", name := "<init>", desc := "()V" } : Jvm.MethodName) object_method_1_code (1 : Nat) (Option.none : Option Jvm.ClassFile.FieldType), Jvm.Cond.code ({ cls := "com/example/proof_of_scan/proofofscan/Choices", name := "hold", desc := "(IZ)V" } : Jvm.MethodName) prog_2_method_2_code (3 : Nat) (Option.none : Option Jvm.ClassFile.FieldType), Jvm.Cond.code ({ cls := "com/example/proof_of_scan/proofofscan/Choices", name := "values", desc := "()[Z" } : Jvm.MethodName) prog_2_method_7_code (1 : Nat) (Option.some (Jvm.ClassFile.FieldType.array Jvm.ClassFile.FieldType.boolean)), Jvm.Cond.code ({ cls := "com/example/proof_of_scan/proofofscan/ChoicesHoldPinLaw", name := "same", desc := "([ZIZI)Z" } : Jvm.MethodName) method_2_code (7 : Nat) (Option.some Jvm.ClassFile.FieldType.boolean), Jvm.Cond.code ({ cls := "com/example/proof_of_scan/proofofscan/Choices", name := "take", desc := "(I)Z" } : Jvm.MethodName) prog_2_method_3_code (2 : Nat) (Option.some Jvm.ClassFile.FieldType.boolean), Jvm.Cond.code ({ cls := "com/example/proof_of_scan/proofofscan/Choices", name := "next", desc := "()Z" } : Jvm.MethodName) prog_2_method_9_code (3 : Nat) (Option.some Jvm.ClassFile.FieldType.boolean), Jvm.Cond.code ({ cls := "com/example/proof_of_scan/proofofscan/Choices", name := "reset", desc := "()V" } : Jvm.MethodName) prog_2_method_8_code (2 : Nat) (Option.none : Option Jvm.ClassFile.FieldType), Jvm.Cond.code ({ cls := "com/example/proof_of_scan/proofofscan/Choices", name := "forgetTaken", desc := "()V" } : Jvm.MethodName) prog_2_method_10_code (2 : Nat) (Option.none : Option Jvm.ClassFile.FieldType)]
set_option maxRecDepth 65536 in
theorem codes_eq : words1.filter isCode = codes1 := rfl
theorem w_codes : ∀ c ∈ words1.filter isCode, c.before args0 about1 = true := by
  rw [codes_eq]
  intro c hc
  simp only [codes1, List.mem_cons, List.not_mem_nil, or_false] at hc
  rcases hc with rfl | rfl | rfl | rfl | rfl | rfl | rfl | rfl | rfl | rfl
  · exact w_c0
  · exact w_c1
  · exact w_c2
  · exact w_c3
  · exact w_c4
  · exact w_c5
  · exact w_c6
  · exact w_c7
  · exact w_c8
  · exact w_c9
set_option maxRecDepth 65536 in
theorem w_t1 : (words1.take 24).all (fun c => isCode c || c.before args0 about1) = true := by decide +kernel
set_option maxRecDepth 65536 in
theorem w_t2 : ((words1.drop 24).take 24).all (fun c => isCode c || c.before args0 about1) = true := by decide +kernel
set_option maxRecDepth 65536 in
theorem w_t3 : ((words1.drop 24).drop 24).all (fun c => isCode c || c.before args0 about1) = true := by decide +kernel
theorem w_tables : (allAtoms (Jvm.Cond.code x code maxLocals ret :: tables_1)).before args0 about1 = true := by
  rw [allAtoms_all]
  show words1.all (fun c => c.before args0 about1) = true
  refine all_split ?_ w_codes
  rw [← List.take_append_drop 24 words1, List.all_append, w_t1, ← List.take_append_drop 24 (words1.drop 24), List.all_append, w_t2, w_t3]
  rfl
set_option maxRecDepth 65536 in
theorem w_case : (Jvm.Cond.and given_1 narrow_1).before args0 about1 = true := by decide +kernel
theorem w_applies : (headSpec (Jvm.Cond.code x code maxLocals ret :: tables_1) room_1).applies x e0.platform about1 = true :=
  (Spec.applies_iff w_frames).mpr ⟨w_running, w_runnable, w_alone, w_named, w_hears, w_ripe, w_room, w_tables⟩
theorem atStart : AtStart classFile x code maxLocals ret World_1 tables_1 room_1 Calls_1 rest_1 Pre_1 launch0 p0 e0 about1 theMethod args0 below0 :=
  ⟨lists_1, trivial, launch0.admits_env _ _ _, launch0.least_env, fairChoices_fair.cas, fairChoices_fair.clock, w_frames, w_args, w_heap, w_applies, trivial, trivial, w_case⟩
end start1
theorem witness_1 : WitnessClaimed_1 := ⟨start1.p0, start1.e0, start1.about1, start1.theMethod, start1.args0, start1.below0, start1.atStart⟩
end Jvm.Pilot.@@N@@
