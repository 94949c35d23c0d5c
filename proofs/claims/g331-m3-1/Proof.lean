import JvmDerived
import JvmDerived.Pilot.@@N@@Statement
import JvmDerived.Pilot.@@N@@Code
set_option linter.unusedVariables false
set_option linter.unusedSimpArgs false
namespace Jvm.Pilot.@@N@@
open Jvm Jvm.ClassFile Sem Op Lib Jvm.Free Jvm.Stand Jvm.LawKit Jvm.RoadKit Bundle Jvm.Pilot.@@N@@.Jvm.D
/-! ## the own layer: a picture of the heap, one fact for where a walk stands, steps in continuation form -/
abbrev Ob : Type := Sum (String × List ((String × String × String) × Value)) (FieldType × List Value)
abbrev Obs : Type := List (Addr × Ob)
def Ara (Z : State) (h : Heap) (a : Addr) (ty : FieldType) (vs : List Value) : Prop :=
  ∃ c : Cell, Arr Z h a c ty ∧ c.slots = vs.toArray ∧ vs.length < 2 ^ 31 ∧ (∀ v ∈ vs, fits ty v = true) ∧ Exa Z h a ("[" ++ ty.toString)
def Is (Z : State) (h : Heap) (a : Addr) (o : Ob) : Prop :=
  match o with
  | .inl q => Exa Z h a q.1 ∧ ∀ f ∈ q.2, Fld Z h a f.1.1 f.1.2.1 f.1.2.2 f.2
  | .inr q => Ara Z h a q.1 q.2
def Pic (Z : State) (n0 : Nat) (h : Heap) (L : Obs) : Prop := (∀ q ∈ L, n0 ≤ q.1 ∧ Is Z h q.1 q.2) ∧ (L.map Prod.fst).Nodup
def Lays (Z : State) (a0 : Array Value) (C : String) (fn : List (String × String × String)) : Prop :=
  (∀ q ∈ fn, Laid Z a0 C q.1 q.2.1 q.2.2 ∧ ∃ t, parseFieldDescriptor q.2.2 = some t) ∧ (fn.map fun q => q.2.1).Nodup
section Pics
variable {Z : State} {h h' : Heap} {a b : Addr} {o o' : Ob} {n0 : Nat} {L L' : Obs} {sl : Nat} {v : Value} {a0 : Array Value}
theorem Is.lt (I : Is Z h a o) : a < h.size := by
  cases o with
  | inl q => exact I.1.lt
  | inr q => obtain ⟨c, A, _⟩ := I; exact A.lt
theorem Is.ext (E : Ext h h') (I : Is Z h a o) : Is Z h' a o := by
  cases o with
  | inl q => exact ⟨I.1.ext E, fun f hf => (I.2 f hf).ext E⟩
  | inr q => obtain ⟨c, A, r1, r2, r3, r4⟩ := I; exact ⟨c, A.ext E, r1, r2, r3, r4.ext E⟩
theorem Is.other (W : Wr h h' b sl v) (ne : a ≠ b) (I : Is Z h a o) : Is Z h' a o := by
  cases o with
  | inl q => exact ⟨I.1.wr W, fun f hf => (I.2 f hf).other W (Or.inl ne)⟩
  | inr q => obtain ⟨c, A, r1, r2, r3, r4⟩ := I; exact ⟨c, A.other W ne, r1, r2, r3, r4.wr W⟩
theorem nodup_get {α : Type} : ∀ {l : List α} {i j : Nat} {x : α}, l.Nodup → l[i]? = some x → l[j]? = some x → i = j
  | [], i, j, x, _, h, _ => by simp at h
  | y :: t, 0, 0, x, _, _, _ => rfl
  | y :: t, 0, j + 1, x, hn, h1, h2 => by
    simp at h1 h2; subst h1
    exact absurd (List.mem_of_getElem? h2) (List.nodup_cons.mp hn).1
  | y :: t, i + 1, 0, x, hn, h1, h2 => by
    simp at h1 h2; subst h2
    exact absurd (List.mem_of_getElem? h1) (List.nodup_cons.mp hn).1
  | y :: t, i + 1, j + 1, x, hn, h1, h2 => by
    simp at h1 h2
    rw [nodup_get (List.nodup_cons.mp hn).2 h1 h2]
theorem mem_set_get {α : Type} {l : List α} {i : Nat} {x q : α} (h : q ∈ l.set i x) : q = x ∨ ∃ j, j ≠ i ∧ l[j]? = some q := by
  obtain ⟨j, hj⟩ := List.mem_iff_getElem?.mp h
  by_cases e : j = i
  · subst e
    rw [List.getElem?_set] at hj
    by_cases hl : j < l.length
    · simp [hl] at hj; exact Or.inl hj.symm
    · simp [hl] at hj
  · rw [List.getElem?_set_ne (Ne.symm e)] at hj
    exact Or.inr ⟨j, e, hj⟩
theorem Pic.new (P : Pic Z n0 h L) (E : Ext h h') (Z0 : n0 ≤ h.size) (I : Is Z h' h.size o) : Pic Z n0 h' ((h.size, o) :: L) := by
  refine ⟨fun q hq => ?_, ?_⟩
  · rcases List.mem_cons.mp hq with rfl | hq
    · exact ⟨Z0, I⟩
    · exact ⟨(P.1 q hq).1, (P.1 q hq).2.ext E⟩
  · show (h.size :: L.map Prod.fst).Nodup
    refine List.nodup_cons.mpr ⟨fun hm => ?_, P.2⟩
    obtain ⟨q, hq, e⟩ := List.mem_map.mp hm
    have lt := (P.1 q hq).2.lt
    rw [e] at lt
    exact Nat.lt_irrefl _ lt
theorem map_set_same {α β : Type} (f : α → β) : ∀ {l : List α} {i : Nat} {x y : α}, l[i]? = some x → f y = f x → (l.set i y).map f = l.map f
  | [], i, x, y, h, _ => by simp at h
  | z :: t, 0, x, y, h, e => by simp at h; subst h; simp [e]
  | z :: t, i + 1, x, y, h, e => by simp at h; simp [map_set_same f h e]
theorem Pic.set {i : Nat} (P : Pic Z n0 h L) (W : Wr h h' a sl v) (hi : L[i]? = some (a, o)) (I : Is Z h' a o') : Pic Z n0 h' (L.set i (a, o')) := by
  refine ⟨fun q hq => ?_, ?_⟩
  · rcases mem_set_get hq with rfl | ⟨j, ne, hj⟩
    · exact ⟨(P.1 _ (List.mem_of_getElem? hi)).1, I⟩
    · refine ⟨(P.1 _ (List.mem_of_getElem? hj)).1, (P.1 _ (List.mem_of_getElem? hj)).2.other W fun e => ne ?_⟩
      refine nodup_get P.2 (x := a) ?_ ?_
      · rw [List.getElem?_map, hj]; simp [e]
      · rw [List.getElem?_map, hi]; simp
  · rw [map_set_same Prod.fst (y := (a, o')) hi rfl]; exact P.2
theorem front_perm {α : Type} : ∀ {l : List α} {i : Nat} {x : α}, l[i]? = some x → List.Perm (x :: l.eraseIdx i) l
  | [], i, x, h => by simp at h
  | z :: t, 0, x, h => by simp at h; subst h; exact List.Perm.refl _
  | z :: t, i + 1, x, h => by
    simp at h
    exact (List.Perm.swap z x _).trans ((front_perm h).cons z)
theorem Pic.perm (P : Pic Z n0 h L) (q : List.Perm L' L) : Pic Z n0 h L' :=
  ⟨fun x hx => P.1 x (q.mem_iff.mp hx), ((q.map Prod.fst).nodup_iff).mpr P.2⟩
theorem Pic.front {i : Nat} {x : Addr × Ob} (P : Pic Z n0 h L) (hi : L[i]? = some x) : Pic Z n0 h (x :: L.eraseIdx i) := P.perm (front_perm hi)
theorem Pic.ne {i j : Nat} {x y : Ob} (P : Pic Z n0 h L) (hi : L[i]? = some (a, x)) (hj : L[j]? = some (b, y)) (hn : i ≠ j) : a ≠ b := fun e => hn (by
  subst e
  refine nodup_get P.2 (x := a) ?_ ?_
  · rw [List.getElem?_map, hi]; simp
  · rw [List.getElem?_map, hj]; simp)
theorem Is.put {C O n d : String} {fs : List ((String × String × String) × Value)} {j : Nat} {old : Value} (W : Wr h h' a (Jvm.RoadKit.slotOf Z O n d) v) (hl : Lays Z a0 C (fs.map Prod.fst)) (I : Is Z h a (.inl (C, fs))) (hf : fs[j]? = some ((O, n, d), old)) : Is Z h' a (.inl (C, fs.set j ((O, n, d), v))) := by
  refine ⟨I.1.wr W, fun f hm => ?_⟩
  rcases mem_set_get hm with rfl | ⟨i, ne, hi⟩
  · exact Fld.same W (I.2 ((O, n, d), old) (List.mem_of_getElem? hf))
  · have g1 : (fs.map Prod.fst)[i]? = some f.1 := by rw [List.getElem?_map, hi]; rfl
    have g2 : (fs.map Prod.fst)[j]? = some (O, n, d) := by rw [List.getElem?_map, hf]; rfl
    obtain ⟨l1, t1, p1⟩ := hl.1 _ (List.mem_of_getElem? g1)
    obtain ⟨l2, t2, p2⟩ := hl.1 _ (List.mem_of_getElem? g2)
    refine (I.2 _ (List.mem_of_getElem? hi)).other W (Or.inr (slot_ne l1 l2 (fun e => ne ?_) p1 p2))
    refine nodup_get hl.2 (x := n) ?_ ?_
    · rw [List.getElem?_map, g1]; simp [← e]
    · rw [List.getElem?_map, g2]; try rfl
theorem Ara.put {ty : FieldType} {vs : List Value} {j : Int32} (I : Ara Z h a ty vs) (W : Wr h h' a j.toNatClampNeg v) (hf : fits ty v = true) : Ara Z h' a ty (vs.set j.toNatClampNeg v) := by
  obtain ⟨c, A, r1, r2, r3, r4⟩ := I
  refine ⟨c.setSlot j.toNatClampNeg v, A.same W, ?_, by rw [List.length_set]; exact r2, fun x hx => ?_, r4.wr W⟩
  · show c.slots.setIfInBounds _ _ = _
    rw [r1]; simp
  · rcases mem_set_get hx with rfl | ⟨i, _, hi⟩
    · exact hf
    · exact r3 _ (List.mem_of_getElem? hi)
theorem fits_def (aty : ArrayType) : fits (newarray.typeOf aty) (defaultValue (newarray.typeOf aty)) = true := by cases aty <;> decide
theorem Is.keep {ws : List Addr} (K : Keep h h' ws) (hn : a ∉ ws) (I : Is Z h a o) : Is Z h' a o := by
  cases o with
  | inl q => exact ⟨I.1.keep K, fun f hf => (I.2 f hf).keep K hn⟩
  | inr q => obtain ⟨c, A, r1, r2, r3, r4⟩ := I; exact ⟨c, ⟨K.2.1 a c A.1 hn, A.2⟩, r1, r2, r3, r4.keep K⟩
theorem Pic.setK {i : Nat} (P : Pic Z n0 h L) (K : Keep h h' [a]) (hi : L[i]? = some (a, o)) (I : Is Z h' a o') : Pic Z n0 h' (L.set i (a, o')) := by
  refine ⟨fun q hq => ?_, ?_⟩
  · rcases mem_set_get hq with rfl | ⟨j, ne, hj⟩
    · exact ⟨(P.1 _ (List.mem_of_getElem? hi)).1, I⟩
    · refine ⟨(P.1 _ (List.mem_of_getElem? hj)).1, (P.1 _ (List.mem_of_getElem? hj)).2.keep K fun e => ne ?_⟩
      have e := List.mem_singleton.mp e
      refine nodup_get P.2 (x := a) ?_ ?_
      · rw [List.getElem?_map, hj]; simp [e]
      · rw [List.getElem?_map, hi]; simp
  · rw [map_set_same Prod.fst (y := (a, o')) hi rfl]; exact P.2
theorem Arv.toAra {k : ClassId} {ty : FieldType} {z : Int32} {vs : List Value} {dv : Value} (V : Arv Z h a k ty z vs dv) (hz : z.toNatClampNeg = vs.length) (hl : vs.length < 2 ^ 31) (E : Exa Z h a ("[" ++ ty.toString)) : Ara Z h a ty vs := by
  obtain ⟨c, A, q1, q2, q3, H, G⟩ := V
  refine ⟨c, A, ?_, hl, fun v hv => ?_, E⟩
  · refine Array.ext_getElem? fun i => ?_
    by_cases hi : i < c.slots.size
    · rw [H i hi, List.getElem?_toArray, List.getD_eq_getElem?_getD]
      have : i < vs.length := by omega
      rw [List.getElem?_eq_getElem this]; rfl
    · rw [Array.getElem?_eq_none (by omega), List.getElem?_toArray, List.getElem?_eq_none (by omega)]
  · obtain ⟨i, hi⟩ := List.mem_iff_getElem?.mp hv
    have hlt := (List.getElem?_eq_some_iff.mp hi).1
    have := G i (by omega)
    rw [List.getD_eq_getElem?_getD, hi] at this
    exact this
theorem Ara.toArv {ty : FieldType} {vs : List Value} (I : Ara Z h a ty vs) (dv : Value) : ∃ k, Arv Z h a k ty vs.length.toInt32 vs dv ∧ vs.length.toInt32.toNatClampNeg = vs.length ∧ ¬ vs.length.toInt32 < 0 := by
  obtain ⟨c, A, r1, r2, r3, r4⟩ := I
  have e1 : vs.length.toInt32.toInt = vs.length := len_toInt r2
  have e2 : vs.length.toInt32.toNatClampNeg = vs.length := by simp only [Int32.toNatClampNeg, e1]; omega
  have e3 : ¬ vs.length.toInt32 < 0 := by rw [Int32.lt_iff_toInt_lt, e1]; simp only [Int32.reduceToInt]; omega
  have e4 : c.slots.size = vs.length := by rw [r1]; simp
  refine ⟨c.cls, ⟨c, A, rfl, by omega, e3, fun k hk => ?_, fun k hk => ?_⟩, e2, e3⟩
  · have : k < vs.length := by omega
    rw [r1, List.getElem?_toArray, List.getElem?_eq_getElem this, List.getD_eq_getElem?_getD, List.getElem?_eq_getElem this]; rfl
  · have : k < vs.length := by omega
    rw [List.getD_eq_getElem?_getD, List.getElem?_eq_getElem this]
    exact r3 _ (List.getElem_mem this)
end Pics
def Go (p : Program) (e : Env) (below : List Frame) (F : State → Prop) (U : State) : Prop := ∃ t, Steps p.tables e below U t ∧ F t
theorem Go.st {p : Program} {e : Env} {below : List Frame} {F : State → Prop} {U U' : State} (h : ∀ t, Steps p.tables e below U' t → Steps p.tables e below U t) (g : Go p e below F U') : Go p e below F U := by
  obtain ⟨t, s, f⟩ := g; exact ⟨t, h t s, f⟩
def Here (p : Program) (l : Launch) (e : Env) (R : Room) (s : State) (m : MethodId) (args : Array Value) (below : List Frame) (meth : Method) (c : Code) (Z : State) (a0 : Array Value) (tbl : List Jvm.Cond) (own nm : String) (bc : ByteArray) (mxl : Nat) (rt : Option FieldType) (n0 : Nat) (T : State) (L : Obs) (cells slots : Nat) : Prop :=
  (p.tables.exec = Jvm.exec ∧ Z.Warmed39 s.vm ∧ s.vm.findClass own = some m.cls ∧ c.code = bc ∧ c.maxLocals = mxl ∧ (∀ d ∈ tbl, d.before a0 Z = true) ∧ meth.name = nm ∧ meth.sig.returnType = rt ∧ meth.locks = false) ∧
  ∃ locs, Stand p l e R s m args below meth c T locs cells slots ∧ Fr n0 locs ∧ n0 ≤ T.heap.size ∧ Pic Z n0 T.heap L
def EndS (below : List Frame) (s : State) (n0 : Nat) (Z : State) (kc ks : Nat) (Q : Option Value → Obs → Prop) (t : State) : Prop :=
  ∃ o, t.status = .running ∧ Ended t below o ∧ ∃ v Lc, o = .returned v ∧ (Fr n0 Lc ∧ n0 ≤ t.heap.size ∧ ∃ L', Q v L' ∧ Pic Z n0 t.heap L') ∧ FrameEnd s o t Lc kc ks
def Triple (l : Launch) (Z : State) (n0 : Nat) (y : MethodName) (bytes : ByteArray) (ml : Nat) (rt : Option FieldType) (rm : Room) (kc ks : Nat) (as : List Value) (L : Obs) (Q : Option Value → Obs → Prop) : Prop :=
  ∀ (h0 : Heap) (ws : List Jvm.Cond), n0 ≤ h0.size → Pic Z n0 h0 L →
    MetFree l y (head1 (Jvm.Cond.code y bytes ml rt :: ws) rm) (fun a U => a = as.toArray ∧ Z.Warmed39 U.vm ∧ U.heap = h0) (fun _ _ _ _ _ => True)
      (fun _ U o U' => ∃ v Lc, o = .returned v ∧ (Fr n0 Lc ∧ n0 ≤ U'.heap.size ∧ ∃ L', Q v L' ∧ Pic Z n0 U'.heap L') ∧ FrameEnd U o U' Lc kc ks)
theorem Triple.of_body {l : Launch} {Z : State} {a0 : Array Value} {tbl : List Jvm.Cond} {n0 : Nat} {y : MethodName} {bytes : ByteArray} {ml : Nat} {rt : Option FieldType} {rm : Room} {kc ks : Nat} {as : List Value} {L : Obs} {Q : Option Value → Obs → Prop} {Ls : Array Slot}
    (hp : plainFor y = true) (hw : ∀ d ∈ tbl, d.before a0 Z = true) (ef : (Jvm.Sym.laidSlots as ++ List.replicate (ml - (Jvm.Sym.laidSlots as).length) Slot.unset).toArray = Ls)
    (body : ∀ p e s m below meth c T, Here p l e rm s m as.toArray below meth c Z a0 tbl y.cls y.name bytes ml rt n0 T L 0 0 → Go p e below (EndS below s n0 Z kc ks Q) (T.setTop (mkF m 0 Ls []))) :
    Triple l Z n0 y bytes ml rt rm kc ks as L Q := by
  intro h0 ws Z0 P0
  refine MetFree.of_bodySF hp hisR ?_
  intro p e s m args below meth c s₁ Bd hml0 hP hK
  obtain ⟨rfl, hZ, hh⟩ := hP
  have e0 : s₁.heap = h0 := by rw [← hh, Bd.state]; rfl
  have A : Here p l e rm s m as.toArray below meth c Z a0 tbl y.cls y.name bytes ml rt n0 s₁ L 0 0 :=
    ⟨⟨Bd.exec, hZ, findClass_of_methodNamed Bd.named, Bd.bytes, hml0, hw, (name_of_methodNamed Bd.named Bd.method).1, Bd.returns, Bd.notSynchronized⟩, [], Stand.of_body Bd, Fr.nil n0, by rw [e0]; exact Z0, by rw [e0]; exact P0⟩
  obtain ⟨t, st, o, h1, h2, h3⟩ := body p e s m below meth c s₁ A
  have ef' : entryFrame m as.toArray ml = mkF m 0 Ls [] := by
    have q := Jvm.Sym.argsToLocals_toList as.toArray ml
    have q2 : argsToLocals as.toArray ml = Ls := by rw [← ef, ← q, Array.toArray_toList]
    unfold entryFrame mkF; rw [q2]
  exact ⟨t, o, castTop ef' st, h1, h2, h3⟩

section Walk
variable {p : Program} {l : Launch} {e : Env} {R : Room} {s : State} {m : MethodId} {args : Array Value} {below : List Frame} {meth : Method} {c : Code} {Z : State} {a0 : Array Value} {tbl : List Jvm.Cond} {own nm : String} {bc : ByteArray} {mxl : Nat} {rt : Option FieldType} {n0 : Nat} {T : State} {L : Obs} {cells slots : Nat} {F : State → Prop}
theorem Here.pt (A : Here p l e R s m args below meth c Z a0 tbl own nm bc mxl rt n0 T L cells slots) : At T m c below := by obtain ⟨_, X, _⟩ := A.2; exact X.here
theorem Here.iadd (A : Here p l e R s m args below meth c Z a0 tbl own nm bc mxl rt n0 T L cells slots) {pc q : Nat} {Ls : Array Slot} {st : List Value} {x y v : Int32} (hd : decode bc pc = .ok (.iadd, 1)) (hq : pc + 1 = q) (hv : x + y = v) (k : Go p e below F (T.setTop (mkF m q Ls (.int v :: st)))) : Go p e below F (T.setTop (mkF m pc Ls (.int y :: .int x :: st))) := by
  subst hq hv
  exact Go.st (fun t h => XS.iadd A.pt A.1.1 rfl (hb A.1.2.2.2.1 hd) rfl h) k
theorem Here.isub (A : Here p l e R s m args below meth c Z a0 tbl own nm bc mxl rt n0 T L cells slots) {pc q : Nat} {Ls : Array Slot} {st : List Value} {x y v : Int32} (hd : decode bc pc = .ok (.isub, 1)) (hq : pc + 1 = q) (hv : x - y = v) (k : Go p e below F (T.setTop (mkF m q Ls (.int v :: st)))) : Go p e below F (T.setTop (mkF m pc Ls (.int y :: .int x :: st))) := by
  subst hq hv
  exact Go.st (fun t h => XS.isub A.pt A.1.1 rfl (hb A.1.2.2.2.1 hd) rfl h) k
theorem Here.imul (A : Here p l e R s m args below meth c Z a0 tbl own nm bc mxl rt n0 T L cells slots) {pc q : Nat} {Ls : Array Slot} {st : List Value} {x y v : Int32} (hd : decode bc pc = .ok (.imul, 1)) (hq : pc + 1 = q) (hv : x * y = v) (k : Go p e below F (T.setTop (mkF m q Ls (.int v :: st)))) : Go p e below F (T.setTop (mkF m pc Ls (.int y :: .int x :: st))) := by
  subst hq hv
  exact Go.st (fun t h => XS.imul A.pt A.1.1 rfl (hb A.1.2.2.2.1 hd) rfl h) k
theorem Here.iand (A : Here p l e R s m args below meth c Z a0 tbl own nm bc mxl rt n0 T L cells slots) {pc q : Nat} {Ls : Array Slot} {st : List Value} {x y v : Int32} (hd : decode bc pc = .ok (.iand, 1)) (hq : pc + 1 = q) (hv : x &&& y = v) (k : Go p e below F (T.setTop (mkF m q Ls (.int v :: st)))) : Go p e below F (T.setTop (mkF m pc Ls (.int y :: .int x :: st))) := by
  subst hq hv
  exact Go.st (fun t h => XS.iand A.pt A.1.1 rfl (hb A.1.2.2.2.1 hd) rfl h) k
theorem Here.ior (A : Here p l e R s m args below meth c Z a0 tbl own nm bc mxl rt n0 T L cells slots) {pc q : Nat} {Ls : Array Slot} {st : List Value} {x y v : Int32} (hd : decode bc pc = .ok (.ior, 1)) (hq : pc + 1 = q) (hv : x ||| y = v) (k : Go p e below F (T.setTop (mkF m q Ls (.int v :: st)))) : Go p e below F (T.setTop (mkF m pc Ls (.int y :: .int x :: st))) := by
  subst hq hv
  exact Go.st (fun t h => XS.ior A.pt A.1.1 rfl (hb A.1.2.2.2.1 hd) rfl h) k
theorem Here.ixor (A : Here p l e R s m args below meth c Z a0 tbl own nm bc mxl rt n0 T L cells slots) {pc q : Nat} {Ls : Array Slot} {st : List Value} {x y v : Int32} (hd : decode bc pc = .ok (.ixor, 1)) (hq : pc + 1 = q) (hv : x ^^^ y = v) (k : Go p e below F (T.setTop (mkF m q Ls (.int v :: st)))) : Go p e below F (T.setTop (mkF m pc Ls (.int y :: .int x :: st))) := by
  subst hq hv
  exact Go.st (fun t h => XS.ixor A.pt A.1.1 rfl (hb A.1.2.2.2.1 hd) rfl h) k
theorem Here.ishl (A : Here p l e R s m args below meth c Z a0 tbl own nm bc mxl rt n0 T L cells slots) {pc q : Nat} {Ls : Array Slot} {st : List Value} {x y v : Int32} (hd : decode bc pc = .ok (.ishl, 1)) (hq : pc + 1 = q) (hv : x <<< (y &&& 31) = v) (k : Go p e below F (T.setTop (mkF m q Ls (.int v :: st)))) : Go p e below F (T.setTop (mkF m pc Ls (.int y :: .int x :: st))) := by
  subst hq hv
  exact Go.st (fun t h => XS.ishl A.pt A.1.1 rfl (hb A.1.2.2.2.1 hd) rfl h) k
theorem Here.ishr (A : Here p l e R s m args below meth c Z a0 tbl own nm bc mxl rt n0 T L cells slots) {pc q : Nat} {Ls : Array Slot} {st : List Value} {x y v : Int32} (hd : decode bc pc = .ok (.ishr, 1)) (hq : pc + 1 = q) (hv : x >>> (y &&& 31) = v) (k : Go p e below F (T.setTop (mkF m q Ls (.int v :: st)))) : Go p e below F (T.setTop (mkF m pc Ls (.int y :: .int x :: st))) := by
  subst hq hv
  exact Go.st (fun t h => XS.ishr A.pt A.1.1 rfl (hb A.1.2.2.2.1 hd) rfl h) k
theorem Here.iushr (A : Here p l e R s m args below meth c Z a0 tbl own nm bc mxl rt n0 T L cells slots) {pc q : Nat} {Ls : Array Slot} {st : List Value} {x y v : Int32} (hd : decode bc pc = .ok (.iushr, 1)) (hq : pc + 1 = q) (hv : (x.toUInt32 >>> (y &&& 31).toUInt32).toInt32 = v) (k : Go p e below F (T.setTop (mkF m q Ls (.int v :: st)))) : Go p e below F (T.setTop (mkF m pc Ls (.int y :: .int x :: st))) := by
  subst hq hv
  exact Go.st (fun t h => XS.iushr A.pt A.1.1 rfl (hb A.1.2.2.2.1 hd) rfl h) k
theorem Here.idiv (A : Here p l e R s m args below meth c Z a0 tbl own nm bc mxl rt n0 T L cells slots) {pc q : Nat} {Ls : Array Slot} {st : List Value} {x y v : Int32} (hd : decode bc pc = .ok (.idiv, 1)) (hq : pc + 1 = q) (hy : y ≠ 0) (hv : x / y = v) (k : Go p e below F (T.setTop (mkF m q Ls (.int v :: st)))) : Go p e below F (T.setTop (mkF m pc Ls (.int y :: .int x :: st))) := by
  subst hq hv
  exact Go.st (fun t h => XS.idiv A.pt A.1.1 rfl (hb A.1.2.2.2.1 hd) rfl hy h) k
theorem Here.irem (A : Here p l e R s m args below meth c Z a0 tbl own nm bc mxl rt n0 T L cells slots) {pc q : Nat} {Ls : Array Slot} {st : List Value} {x y v : Int32} (hd : decode bc pc = .ok (.irem, 1)) (hq : pc + 1 = q) (hy : y ≠ 0) (hv : x % y = v) (k : Go p e below F (T.setTop (mkF m q Ls (.int v :: st)))) : Go p e below F (T.setTop (mkF m pc Ls (.int y :: .int x :: st))) := by
  subst hq hv
  obtain ⟨_, X, _⟩ := A.2
  exact Go.st (fun t h => iremM X A.1.1 rfl (hb A.1.2.2.2.1 hd) rfl hy h) k
theorem Here.ineg (A : Here p l e R s m args below meth c Z a0 tbl own nm bc mxl rt n0 T L cells slots) {pc q : Nat} {Ls : Array Slot} {st : List Value} {x v : Int32} (hd : decode bc pc = .ok (.ineg, 1)) (hq : pc + 1 = q) (hv : -x = v) (k : Go p e below F (T.setTop (mkF m q Ls (.int v :: st)))) : Go p e below F (T.setTop (mkF m pc Ls (.int x :: st))) := by
  subst hq hv
  exact Go.st (fun t h => XS.ineg A.pt A.1.1 rfl (hb A.1.2.2.2.1 hd) rfl h) k
theorem Here.ladd (A : Here p l e R s m args below meth c Z a0 tbl own nm bc mxl rt n0 T L cells slots) {pc q : Nat} {Ls : Array Slot} {st : List Value} {x y v : Int64} (hd : decode bc pc = .ok (.ladd, 1)) (hq : pc + 1 = q) (hv : x + y = v) (k : Go p e below F (T.setTop (mkF m q Ls (.long v :: st)))) : Go p e below F (T.setTop (mkF m pc Ls (.long y :: .long x :: st))) := by
  subst hq hv
  exact Go.st (fun t h => XS.ladd A.pt A.1.1 rfl (hb A.1.2.2.2.1 hd) rfl h) k
theorem Here.lsub (A : Here p l e R s m args below meth c Z a0 tbl own nm bc mxl rt n0 T L cells slots) {pc q : Nat} {Ls : Array Slot} {st : List Value} {x y v : Int64} (hd : decode bc pc = .ok (.lsub, 1)) (hq : pc + 1 = q) (hv : x - y = v) (k : Go p e below F (T.setTop (mkF m q Ls (.long v :: st)))) : Go p e below F (T.setTop (mkF m pc Ls (.long y :: .long x :: st))) := by
  subst hq hv
  exact Go.st (fun t h => XS.lsub A.pt A.1.1 rfl (hb A.1.2.2.2.1 hd) rfl h) k
theorem Here.lmul (A : Here p l e R s m args below meth c Z a0 tbl own nm bc mxl rt n0 T L cells slots) {pc q : Nat} {Ls : Array Slot} {st : List Value} {x y v : Int64} (hd : decode bc pc = .ok (.lmul, 1)) (hq : pc + 1 = q) (hv : x * y = v) (k : Go p e below F (T.setTop (mkF m q Ls (.long v :: st)))) : Go p e below F (T.setTop (mkF m pc Ls (.long y :: .long x :: st))) := by
  subst hq hv
  exact Go.st (fun t h => XS.lmul A.pt A.1.1 rfl (hb A.1.2.2.2.1 hd) rfl h) k
theorem Here.land (A : Here p l e R s m args below meth c Z a0 tbl own nm bc mxl rt n0 T L cells slots) {pc q : Nat} {Ls : Array Slot} {st : List Value} {x y v : Int64} (hd : decode bc pc = .ok (.land, 1)) (hq : pc + 1 = q) (hv : x &&& y = v) (k : Go p e below F (T.setTop (mkF m q Ls (.long v :: st)))) : Go p e below F (T.setTop (mkF m pc Ls (.long y :: .long x :: st))) := by
  subst hq hv
  exact Go.st (fun t h => XS.land A.pt A.1.1 rfl (hb A.1.2.2.2.1 hd) rfl h) k
theorem Here.lor (A : Here p l e R s m args below meth c Z a0 tbl own nm bc mxl rt n0 T L cells slots) {pc q : Nat} {Ls : Array Slot} {st : List Value} {x y v : Int64} (hd : decode bc pc = .ok (.lor, 1)) (hq : pc + 1 = q) (hv : x ||| y = v) (k : Go p e below F (T.setTop (mkF m q Ls (.long v :: st)))) : Go p e below F (T.setTop (mkF m pc Ls (.long y :: .long x :: st))) := by
  subst hq hv
  exact Go.st (fun t h => XS.lor A.pt A.1.1 rfl (hb A.1.2.2.2.1 hd) rfl h) k
theorem Here.lxor (A : Here p l e R s m args below meth c Z a0 tbl own nm bc mxl rt n0 T L cells slots) {pc q : Nat} {Ls : Array Slot} {st : List Value} {x y v : Int64} (hd : decode bc pc = .ok (.lxor, 1)) (hq : pc + 1 = q) (hv : x ^^^ y = v) (k : Go p e below F (T.setTop (mkF m q Ls (.long v :: st)))) : Go p e below F (T.setTop (mkF m pc Ls (.long y :: .long x :: st))) := by
  subst hq hv
  exact Go.st (fun t h => XS.lxor A.pt A.1.1 rfl (hb A.1.2.2.2.1 hd) rfl h) k
theorem Here.lshl (A : Here p l e R s m args below meth c Z a0 tbl own nm bc mxl rt n0 T L cells slots) {pc q : Nat} {Ls : Array Slot} {st : List Value} {x v : Int64} {y : Int32} (hd : decode bc pc = .ok (.lshl, 1)) (hq : pc + 1 = q) (hv : x <<< (y &&& 0x3f).toInt64 = v) (k : Go p e below F (T.setTop (mkF m q Ls (.long v :: st)))) : Go p e below F (T.setTop (mkF m pc Ls (.int y :: .long x :: st))) := by
  subst hq hv
  exact Go.st (fun t h => XS.lshl A.pt A.1.1 rfl (hb A.1.2.2.2.1 hd) rfl h) k
theorem Here.lshr (A : Here p l e R s m args below meth c Z a0 tbl own nm bc mxl rt n0 T L cells slots) {pc q : Nat} {Ls : Array Slot} {st : List Value} {x v : Int64} {y : Int32} (hd : decode bc pc = .ok (.lshr, 1)) (hq : pc + 1 = q) (hv : x >>> (y &&& 0x3f).toInt64 = v) (k : Go p e below F (T.setTop (mkF m q Ls (.long v :: st)))) : Go p e below F (T.setTop (mkF m pc Ls (.int y :: .long x :: st))) := by
  subst hq hv
  exact Go.st (fun t h => XS.lshr A.pt A.1.1 rfl (hb A.1.2.2.2.1 hd) rfl h) k
theorem Here.lushr (A : Here p l e R s m args below meth c Z a0 tbl own nm bc mxl rt n0 T L cells slots) {pc q : Nat} {Ls : Array Slot} {st : List Value} {x v : Int64} {y : Int32} (hd : decode bc pc = .ok (.lushr, 1)) (hq : pc + 1 = q) (hv : (x.toUInt64 >>> (y &&& 0x3f).toInt64.toUInt64).toInt64 = v) (k : Go p e below F (T.setTop (mkF m q Ls (.long v :: st)))) : Go p e below F (T.setTop (mkF m pc Ls (.int y :: .long x :: st))) := by
  subst hq hv
  exact Go.st (fun t h => XS.lushr A.pt A.1.1 rfl (hb A.1.2.2.2.1 hd) rfl h) k
theorem Here.ldiv (A : Here p l e R s m args below meth c Z a0 tbl own nm bc mxl rt n0 T L cells slots) {pc q : Nat} {Ls : Array Slot} {st : List Value} {x y v : Int64} (hd : decode bc pc = .ok (.ldiv, 1)) (hq : pc + 1 = q) (hy : y ≠ 0) (hv : x / y = v) (k : Go p e below F (T.setTop (mkF m q Ls (.long v :: st)))) : Go p e below F (T.setTop (mkF m pc Ls (.long y :: .long x :: st))) := by
  subst hq hv
  exact Go.st (fun t h => XS.ldiv A.pt A.1.1 rfl (hb A.1.2.2.2.1 hd) rfl hy h) k
theorem Here.lrem (A : Here p l e R s m args below meth c Z a0 tbl own nm bc mxl rt n0 T L cells slots) {pc q : Nat} {Ls : Array Slot} {st : List Value} {x y v : Int64} (hd : decode bc pc = .ok (.lrem, 1)) (hq : pc + 1 = q) (hy : y ≠ 0) (hv : x - (x / y) * y = v) (k : Go p e below F (T.setTop (mkF m q Ls (.long v :: st)))) : Go p e below F (T.setTop (mkF m pc Ls (.long y :: .long x :: st))) := by
  subst hq hv
  exact Go.st (fun t h => XS.lrem A.pt A.1.1 rfl (hb A.1.2.2.2.1 hd) rfl hy h) k
theorem Here.lneg (A : Here p l e R s m args below meth c Z a0 tbl own nm bc mxl rt n0 T L cells slots) {pc q : Nat} {Ls : Array Slot} {st : List Value} {x v : Int64} (hd : decode bc pc = .ok (.lneg, 1)) (hq : pc + 1 = q) (hv : -x = v) (k : Go p e below F (T.setTop (mkF m q Ls (.long v :: st)))) : Go p e below F (T.setTop (mkF m pc Ls (.long x :: st))) := by
  subst hq hv
  exact Go.st (fun t h => XS.lneg A.pt A.1.1 rfl (hb A.1.2.2.2.1 hd) rfl h) k
theorem Here.i2l (A : Here p l e R s m args below meth c Z a0 tbl own nm bc mxl rt n0 T L cells slots) {pc q : Nat} {Ls : Array Slot} {st : List Value} {x : Int32} {v : Int64} (hd : decode bc pc = .ok (.i2l, 1)) (hq : pc + 1 = q) (hv : x.toInt64 = v) (k : Go p e below F (T.setTop (mkF m q Ls (.long v :: st)))) : Go p e below F (T.setTop (mkF m pc Ls (.int x :: st))) := by
  subst hq hv
  exact Go.st (fun t h => XS.i2l A.pt A.1.1 rfl (hb A.1.2.2.2.1 hd) rfl h) k
theorem Here.l2i (A : Here p l e R s m args below meth c Z a0 tbl own nm bc mxl rt n0 T L cells slots) {pc q : Nat} {Ls : Array Slot} {st : List Value} {x : Int64} {v : Int32} (hd : decode bc pc = .ok (.l2i, 1)) (hq : pc + 1 = q) (hv : x.toInt32 = v) (k : Go p e below F (T.setTop (mkF m q Ls (.int v :: st)))) : Go p e below F (T.setTop (mkF m pc Ls (.long x :: st))) := by
  subst hq hv
  exact Go.st (fun t h => XS.l2i A.pt A.1.1 rfl (hb A.1.2.2.2.1 hd) rfl h) k
theorem Here.i2b (A : Here p l e R s m args below meth c Z a0 tbl own nm bc mxl rt n0 T L cells slots) {pc q : Nat} {Ls : Array Slot} {st : List Value} {x v : Int32} (hd : decode bc pc = .ok (.i2b, 1)) (hq : pc + 1 = q) (hv : x.toInt8.toInt32 = v) (k : Go p e below F (T.setTop (mkF m q Ls (.int v :: st)))) : Go p e below F (T.setTop (mkF m pc Ls (.int x :: st))) := by
  subst hq hv
  exact Go.st (fun t h => XS.i2b A.pt A.1.1 rfl (hb A.1.2.2.2.1 hd) rfl h) k
theorem Here.i2c (A : Here p l e R s m args below meth c Z a0 tbl own nm bc mxl rt n0 T L cells slots) {pc q : Nat} {Ls : Array Slot} {st : List Value} {x v : Int32} (hd : decode bc pc = .ok (.i2c, 1)) (hq : pc + 1 = q) (hv : x.toUInt32.toUInt16.toUInt32.toInt32 = v) (k : Go p e below F (T.setTop (mkF m q Ls (.int v :: st)))) : Go p e below F (T.setTop (mkF m pc Ls (.int x :: st))) := by
  subst hq hv
  exact Go.st (fun t h => XS.i2c A.pt A.1.1 rfl (hb A.1.2.2.2.1 hd) rfl h) k
theorem Here.i2s (A : Here p l e R s m args below meth c Z a0 tbl own nm bc mxl rt n0 T L cells slots) {pc q : Nat} {Ls : Array Slot} {st : List Value} {x v : Int32} (hd : decode bc pc = .ok (.i2s, 1)) (hq : pc + 1 = q) (hv : x.toInt16.toInt32 = v) (k : Go p e below F (T.setTop (mkF m q Ls (.int v :: st)))) : Go p e below F (T.setTop (mkF m pc Ls (.int x :: st))) := by
  subst hq hv
  exact Go.st (fun t h => XS.i2s A.pt A.1.1 rfl (hb A.1.2.2.2.1 hd) rfl h) k
theorem Here.iloadN (A : Here p l e R s m args below meth c Z a0 tbl own nm bc mxl rt n0 T L cells slots) {pc q : Nat} {Ls : Array Slot} {st : List Value} {k : Fin 4} {v : Int32} (hd : decode bc pc = .ok (.iload_n k, 1)) (hq : pc + 1 = q) (hl : Ls[k.val]? = some (.val (.int v))) (k : Go p e below F (T.setTop (mkF m q Ls (.int v :: st)))) : Go p e below F (T.setTop (mkF m pc Ls st)) := by
  subst hq
  exact Go.st (fun t h => XS.iloadN A.pt A.1.1 rfl (hb A.1.2.2.2.1 hd) hl h) k
theorem Here.iload (A : Here p l e R s m args below meth c Z a0 tbl own nm bc mxl rt n0 T L cells slots) {pc q : Nat} {Ls : Array Slot} {st : List Value} {k : Nat} {v : Int32} (hd : decode bc pc = .ok (.iload k, 2)) (hq : pc + 2 = q) (hl : Ls[k]? = some (.val (.int v))) (k : Go p e below F (T.setTop (mkF m q Ls (.int v :: st)))) : Go p e below F (T.setTop (mkF m pc Ls st)) := by
  subst hq
  exact Go.st (fun t h => XS.iload A.pt A.1.1 rfl (hb A.1.2.2.2.1 hd) hl h) k
theorem Here.istoreN (A : Here p l e R s m args below meth c Z a0 tbl own nm bc mxl rt n0 T L cells slots) {pc q : Nat} {Ls : Array Slot} {st : List Value} {k : Fin 4} {v : Int32} {l' : Array Slot} (hd : decode bc pc = .ok (.istore_n k, 1)) (hq : pc + 1 = q) (hl : storeLocals Ls k.val (.int v) = some l') (k : Go p e below F (T.setTop (mkF m q l' st))) : Go p e below F (T.setTop (mkF m pc Ls (.int v :: st))) := by
  subst hq
  exact Go.st (fun t h => XS.istoreN A.pt A.1.1 rfl (hb A.1.2.2.2.1 hd) rfl hl h) k
theorem Here.istore (A : Here p l e R s m args below meth c Z a0 tbl own nm bc mxl rt n0 T L cells slots) {pc q : Nat} {Ls : Array Slot} {st : List Value} {k : Nat} {v : Int32} {l' : Array Slot} (hd : decode bc pc = .ok (.istore k, 2)) (hq : pc + 2 = q) (hl : storeLocals Ls k (.int v) = some l') (k : Go p e below F (T.setTop (mkF m q l' st))) : Go p e below F (T.setTop (mkF m pc Ls (.int v :: st))) := by
  subst hq
  exact Go.st (fun t h => XS.istore A.pt A.1.1 rfl (hb A.1.2.2.2.1 hd) rfl hl h) k
theorem Here.lloadN (A : Here p l e R s m args below meth c Z a0 tbl own nm bc mxl rt n0 T L cells slots) {pc q : Nat} {Ls : Array Slot} {st : List Value} {k : Fin 4} {v : Int64} (hd : decode bc pc = .ok (.lload_n k, 1)) (hq : pc + 1 = q) (hl : Ls[k.val]? = some (.val (.long v))) (k : Go p e below F (T.setTop (mkF m q Ls (.long v :: st)))) : Go p e below F (T.setTop (mkF m pc Ls st)) := by
  subst hq
  exact Go.st (fun t h => XS.lloadN A.pt A.1.1 rfl (hb A.1.2.2.2.1 hd) hl h) k
theorem Here.lload (A : Here p l e R s m args below meth c Z a0 tbl own nm bc mxl rt n0 T L cells slots) {pc q : Nat} {Ls : Array Slot} {st : List Value} {k : Nat} {v : Int64} (hd : decode bc pc = .ok (.lload k, 2)) (hq : pc + 2 = q) (hl : Ls[k]? = some (.val (.long v))) (k : Go p e below F (T.setTop (mkF m q Ls (.long v :: st)))) : Go p e below F (T.setTop (mkF m pc Ls st)) := by
  subst hq
  exact Go.st (fun t h => XS.lload A.pt A.1.1 rfl (hb A.1.2.2.2.1 hd) hl h) k
theorem Here.lstoreN (A : Here p l e R s m args below meth c Z a0 tbl own nm bc mxl rt n0 T L cells slots) {pc q : Nat} {Ls : Array Slot} {st : List Value} {k : Fin 4} {v : Int64} {l' : Array Slot} (hd : decode bc pc = .ok (.lstore_n k, 1)) (hq : pc + 1 = q) (hl : storeLocals Ls k.val (.long v) = some l') (k : Go p e below F (T.setTop (mkF m q l' st))) : Go p e below F (T.setTop (mkF m pc Ls (.long v :: st))) := by
  subst hq
  exact Go.st (fun t h => XS.lstoreN A.pt A.1.1 rfl (hb A.1.2.2.2.1 hd) rfl hl h) k
theorem Here.lstore (A : Here p l e R s m args below meth c Z a0 tbl own nm bc mxl rt n0 T L cells slots) {pc q : Nat} {Ls : Array Slot} {st : List Value} {k : Nat} {v : Int64} {l' : Array Slot} (hd : decode bc pc = .ok (.lstore k, 2)) (hq : pc + 2 = q) (hl : storeLocals Ls k (.long v) = some l') (k : Go p e below F (T.setTop (mkF m q l' st))) : Go p e below F (T.setTop (mkF m pc Ls (.long v :: st))) := by
  subst hq
  exact Go.st (fun t h => XS.lstore A.pt A.1.1 rfl (hb A.1.2.2.2.1 hd) rfl hl h) k
theorem Here.aloadN (A : Here p l e R s m args below meth c Z a0 tbl own nm bc mxl rt n0 T L cells slots) {pc q : Nat} {Ls : Array Slot} {st : List Value} {k : Fin 4} {v : Value} (hd : decode bc pc = .ok (.aload_n k, 1)) (hq : pc + 1 = q) (hl : Ls[k.val]? = some (.val v)) (hr : v.isRef = true) (k : Go p e below F (T.setTop (mkF m q Ls (v :: st)))) : Go p e below F (T.setTop (mkF m pc Ls st)) := by
  subst hq
  exact Go.st (fun t h => XS.aloadN A.pt A.1.1 rfl (hb A.1.2.2.2.1 hd) hl hr h) k
theorem Here.aload (A : Here p l e R s m args below meth c Z a0 tbl own nm bc mxl rt n0 T L cells slots) {pc q : Nat} {Ls : Array Slot} {st : List Value} {k : Nat} {v : Value} (hd : decode bc pc = .ok (.aload k, 2)) (hq : pc + 2 = q) (hl : Ls[k]? = some (.val v)) (hr : v.isRef = true) (k : Go p e below F (T.setTop (mkF m q Ls (v :: st)))) : Go p e below F (T.setTop (mkF m pc Ls st)) := by
  subst hq
  exact Go.st (fun t h => XS.aload A.pt A.1.1 rfl (hb A.1.2.2.2.1 hd) hl hr h) k
theorem Here.astoreN (A : Here p l e R s m args below meth c Z a0 tbl own nm bc mxl rt n0 T L cells slots) {pc q : Nat} {Ls : Array Slot} {st : List Value} {k : Fin 4} {v : Value} {l' : Array Slot} (hd : decode bc pc = .ok (.astore_n k, 1)) (hq : pc + 1 = q) (hr : v.isRef = true) (hl : storeLocals Ls k.val v = some l') (k : Go p e below F (T.setTop (mkF m q l' st))) : Go p e below F (T.setTop (mkF m pc Ls (v :: st))) := by
  subst hq
  exact Go.st (fun t h => XS.astoreN A.pt A.1.1 rfl (hb A.1.2.2.2.1 hd) rfl hr hl h) k
theorem Here.astore (A : Here p l e R s m args below meth c Z a0 tbl own nm bc mxl rt n0 T L cells slots) {pc q : Nat} {Ls : Array Slot} {st : List Value} {k : Nat} {v : Value} {l' : Array Slot} (hd : decode bc pc = .ok (.astore k, 2)) (hq : pc + 2 = q) (hr : v.isRef = true) (hl : storeLocals Ls k v = some l') (k : Go p e below F (T.setTop (mkF m q l' st))) : Go p e below F (T.setTop (mkF m pc Ls (v :: st))) := by
  subst hq
  exact Go.st (fun t h => XS.astore A.pt A.1.1 rfl (hb A.1.2.2.2.1 hd) rfl hr hl h) k
theorem Here.iconst (A : Here p l e R s m args below meth c Z a0 tbl own nm bc mxl rt n0 T L cells slots) {pc q : Nat} {Ls : Array Slot} {st : List Value} {i : Int} {v : Int32} (hd : decode bc pc = .ok (.iconst i, 1)) (hq : pc + 1 = q) (hv : Int32.ofInt i = v) (k : Go p e below F (T.setTop (mkF m q Ls (.int v :: st)))) : Go p e below F (T.setTop (mkF m pc Ls st)) := by
  subst hq hv
  exact Go.st (fun t h => XS.iconst A.pt A.1.1 rfl (hb A.1.2.2.2.1 hd)  h) k
theorem Here.bipush (A : Here p l e R s m args below meth c Z a0 tbl own nm bc mxl rt n0 T L cells slots) {pc q : Nat} {Ls : Array Slot} {st : List Value} {i : Int} {v : Int32} (hd : decode bc pc = .ok (.bipush i, 2)) (hq : pc + 2 = q) (hv : (Int8.ofInt i).toInt32 = v) (k : Go p e below F (T.setTop (mkF m q Ls (.int v :: st)))) : Go p e below F (T.setTop (mkF m pc Ls st)) := by
  subst hq hv
  exact Go.st (fun t h => XS.bipush A.pt A.1.1 rfl (hb A.1.2.2.2.1 hd)  h) k
theorem Here.sipush (A : Here p l e R s m args below meth c Z a0 tbl own nm bc mxl rt n0 T L cells slots) {pc q : Nat} {Ls : Array Slot} {st : List Value} {i : Int} {v : Int32} (hd : decode bc pc = .ok (.sipush i, 3)) (hq : pc + 3 = q) (hv : (Int16.ofInt i).toInt32 = v) (k : Go p e below F (T.setTop (mkF m q Ls (.int v :: st)))) : Go p e below F (T.setTop (mkF m pc Ls st)) := by
  subst hq hv
  exact Go.st (fun t h => XS.sipush A.pt A.1.1 rfl (hb A.1.2.2.2.1 hd)  h) k
theorem Here.lconst (A : Here p l e R s m args below meth c Z a0 tbl own nm bc mxl rt n0 T L cells slots) {pc q : Nat} {Ls : Array Slot} {st : List Value} {i : Fin 2} {v : Int64} (hd : decode bc pc = .ok (.lconst i, 1)) (hq : pc + 1 = q) (hv : Int64.ofNat i = v) (k : Go p e below F (T.setTop (mkF m q Ls (.long v :: st)))) : Go p e below F (T.setTop (mkF m pc Ls st)) := by
  subst hq hv
  exact Go.st (fun t h => XS.lconst A.pt A.1.1 rfl (hb A.1.2.2.2.1 hd)  h) k
theorem Here.aconst_null (A : Here p l e R s m args below meth c Z a0 tbl own nm bc mxl rt n0 T L cells slots) {pc q : Nat} {Ls : Array Slot} {st : List Value}  (hd : decode bc pc = .ok (.aconst_null, 1)) (hq : pc + 1 = q)  (k : Go p e below F (T.setTop (mkF m q Ls (.null :: st)))) : Go p e below F (T.setTop (mkF m pc Ls st)) := by
  subst hq
  exact Go.st (fun t h => XS.aconstNull A.pt A.1.1 rfl (hb A.1.2.2.2.1 hd)  h) k
theorem Here.dup (A : Here p l e R s m args below meth c Z a0 tbl own nm bc mxl rt n0 T L cells slots) {pc q : Nat} {Ls : Array Slot} {st : List Value} {v : Value} (hd : decode bc pc = .ok (.dup, 1)) (hq : pc + 1 = q) (hc : v.category = 1) (k : Go p e below F (T.setTop (mkF m q Ls (v :: v :: st)))) : Go p e below F (T.setTop (mkF m pc Ls (v :: st))) := by
  subst hq
  exact Go.st (fun t h => XS.dup A.pt A.1.1 rfl (hb A.1.2.2.2.1 hd) rfl hc h) k
theorem Here.dup_x1 (A : Here p l e R s m args below meth c Z a0 tbl own nm bc mxl rt n0 T L cells slots) {pc q : Nat} {Ls : Array Slot} {st : List Value} {v w : Value} (hd : decode bc pc = .ok (.dup_x1, 1)) (hq : pc + 1 = q) (hc : v.category = 1) (hc' : w.category = 1) (k : Go p e below F (T.setTop (mkF m q Ls (v :: w :: v :: st)))) : Go p e below F (T.setTop (mkF m pc Ls (v :: w :: st))) := by
  subst hq
  exact Go.st (fun t h => XS.dupX1 A.pt A.1.1 rfl (hb A.1.2.2.2.1 hd) rfl hc hc' h) k
theorem Here.dup2 (A : Here p l e R s m args below meth c Z a0 tbl own nm bc mxl rt n0 T L cells slots) {pc q : Nat} {Ls : Array Slot} {st : List Value} {v w : Value} (hd : decode bc pc = .ok (.dup2, 1)) (hq : pc + 1 = q) (hc : v.category = 1) (hc' : w.category = 1) (k : Go p e below F (T.setTop (mkF m q Ls (v :: w :: v :: w :: st)))) : Go p e below F (T.setTop (mkF m pc Ls (v :: w :: st))) := by
  subst hq
  exact Go.st (fun t h => XT.dup2 A.pt A.1.1 rfl (hb A.1.2.2.2.1 hd) rfl hc hc' h) k
theorem Here.pop (A : Here p l e R s m args below meth c Z a0 tbl own nm bc mxl rt n0 T L cells slots) {pc q : Nat} {Ls : Array Slot} {st : List Value} {v : Value} (hd : decode bc pc = .ok (.pop, 1)) (hq : pc + 1 = q) (hc : v.category = 1) (k : Go p e below F (T.setTop (mkF m q Ls st))) : Go p e below F (T.setTop (mkF m pc Ls (v :: st))) := by
  subst hq
  exact Go.st (fun t h => XS.pop A.pt A.1.1 rfl (hb A.1.2.2.2.1 hd) rfl hc h) k
theorem Here.iinc (A : Here p l e R s m args below meth c Z a0 tbl own nm bc mxl rt n0 T L cells slots) {pc q : Nat} {Ls : Array Slot} {st : List Value} {k : Nat} {cst : Int} {x v : Int32} {l' : Array Slot} (hd : decode bc pc = .ok (.iinc k cst, 3)) (hq : pc + 3 = q) (hl : Ls[k]? = some (.val (.int x))) (hv : x + Int32.ofInt cst = v) (hl' : storeLocals Ls k (.int v) = some l') (k : Go p e below F (T.setTop (mkF m q l' st))) : Go p e below F (T.setTop (mkF m pc Ls st)) := by
  subst hq hv
  exact Go.st (fun t h => XS.iinc A.pt A.1.1 rfl (hb A.1.2.2.2.1 hd) hl hl' h) k
theorem Here.goto (A : Here p l e R s m args below meth c Z a0 tbl own nm bc mxl rt n0 T L cells slots) {pc r : Nat} {Ls : Array Slot} {st : List Value} {o : Int} (hd : decode bc pc = .ok (.goto o, 3)) (hr : (pc : Int) + o = (r : Int)) (k : Go p e below F (T.setTop (mkF m r Ls st))) : Go p e below F (T.setTop (mkF m pc Ls st)) :=
  Go.st (fun t h => XS.goto A.pt A.1.1 rfl (pc0 := pc) (pc' := r) rfl (hb A.1.2.2.2.1 hd) (by omega) (by omega) h) k
theorem Here.icmp_lt (A : Here p l e R s m args below meth c Z a0 tbl own nm bc mxl rt n0 T L cells slots) {pc q r : Nat} {Ls : Array Slot} {st : List Value} {x y : Int32} {o : Int} (hd : decode bc pc = .ok (.if_icmp .lt o, 3)) (hq : pc + 3 = q) (hr : (pc : Int) + o = (r : Int)) (kt : x < y → Go p e below F (T.setTop (mkF m r Ls st))) (kf : ¬ (x < y) → Go p e below F (T.setTop (mkF m q Ls st))) : Go p e below F (T.setTop (mkF m pc Ls (.int y :: .int x :: st))) := by
  by_cases hc : x < y
  · exact Go.st (fun t h => XS.icmpYes A.pt A.1.1 rfl (pc0 := pc) (pc' := r) rfl (hb A.1.2.2.2.1 hd) rfl (tlt hc).1 (by omega) (by omega) h) (kt hc)
  · subst hq; exact Go.st (fun t h => XS.icmpNo A.pt A.1.1 rfl (hb A.1.2.2.2.1 hd) rfl (flt hc).1 h) (kf hc)
theorem Here.if_lt (A : Here p l e R s m args below meth c Z a0 tbl own nm bc mxl rt n0 T L cells slots) {pc q r : Nat} {Ls : Array Slot} {st : List Value} {x : Int32} {o : Int} (hd : decode bc pc = .ok (.ifCond .lt o, 3)) (hq : pc + 3 = q) (hr : (pc : Int) + o = (r : Int)) (kt : x < (0 : Int32) → Go p e below F (T.setTop (mkF m r Ls st))) (kf : ¬ (x < (0 : Int32)) → Go p e below F (T.setTop (mkF m q Ls st))) : Go p e below F (T.setTop (mkF m pc Ls (.int x :: st))) := by
  by_cases hc : x < (0 : Int32)
  · exact Go.st (fun t h => XS.ifYes A.pt A.1.1 rfl (pc0 := pc) (pc' := r) rfl (hb A.1.2.2.2.1 hd) rfl ((if0 _ _).trans (tlt hc).1) (by omega) (by omega) h) (kt hc)
  · subst hq; exact Go.st (fun t h => XS.ifNo A.pt A.1.1 rfl (hb A.1.2.2.2.1 hd) rfl ((if0 _ _).trans (flt hc).1) h) (kf hc)
theorem Here.icmp_ge (A : Here p l e R s m args below meth c Z a0 tbl own nm bc mxl rt n0 T L cells slots) {pc q r : Nat} {Ls : Array Slot} {st : List Value} {x y : Int32} {o : Int} (hd : decode bc pc = .ok (.if_icmp .ge o, 3)) (hq : pc + 3 = q) (hr : (pc : Int) + o = (r : Int)) (kt : ¬ (x < y) → Go p e below F (T.setTop (mkF m r Ls st))) (kf : x < y → Go p e below F (T.setTop (mkF m q Ls st))) : Go p e below F (T.setTop (mkF m pc Ls (.int y :: .int x :: st))) := by
  by_cases hc : x < y
  · subst hq; exact Go.st (fun t h => XS.icmpNo A.pt A.1.1 rfl (hb A.1.2.2.2.1 hd) rfl (tlt hc).2.1 h) (kf hc)
  · exact Go.st (fun t h => XS.icmpYes A.pt A.1.1 rfl (pc0 := pc) (pc' := r) rfl (hb A.1.2.2.2.1 hd) rfl (flt hc).2.1 (by omega) (by omega) h) (kt hc)
theorem Here.if_ge (A : Here p l e R s m args below meth c Z a0 tbl own nm bc mxl rt n0 T L cells slots) {pc q r : Nat} {Ls : Array Slot} {st : List Value} {x : Int32} {o : Int} (hd : decode bc pc = .ok (.ifCond .ge o, 3)) (hq : pc + 3 = q) (hr : (pc : Int) + o = (r : Int)) (kt : ¬ (x < (0 : Int32)) → Go p e below F (T.setTop (mkF m r Ls st))) (kf : x < (0 : Int32) → Go p e below F (T.setTop (mkF m q Ls st))) : Go p e below F (T.setTop (mkF m pc Ls (.int x :: st))) := by
  by_cases hc : x < (0 : Int32)
  · subst hq; exact Go.st (fun t h => XS.ifNo A.pt A.1.1 rfl (hb A.1.2.2.2.1 hd) rfl ((if0 _ _).trans (tlt hc).2.1) h) (kf hc)
  · exact Go.st (fun t h => XS.ifYes A.pt A.1.1 rfl (pc0 := pc) (pc' := r) rfl (hb A.1.2.2.2.1 hd) rfl ((if0 _ _).trans (flt hc).2.1) (by omega) (by omega) h) (kt hc)
theorem Here.icmp_gt (A : Here p l e R s m args below meth c Z a0 tbl own nm bc mxl rt n0 T L cells slots) {pc q r : Nat} {Ls : Array Slot} {st : List Value} {x y : Int32} {o : Int} (hd : decode bc pc = .ok (.if_icmp .gt o, 3)) (hq : pc + 3 = q) (hr : (pc : Int) + o = (r : Int)) (kt : y < x → Go p e below F (T.setTop (mkF m r Ls st))) (kf : ¬ (y < x) → Go p e below F (T.setTop (mkF m q Ls st))) : Go p e below F (T.setTop (mkF m pc Ls (.int y :: .int x :: st))) := by
  by_cases hc : y < x
  · exact Go.st (fun t h => XS.icmpYes A.pt A.1.1 rfl (pc0 := pc) (pc' := r) rfl (hb A.1.2.2.2.1 hd) rfl (tlt hc).2.2.1 (by omega) (by omega) h) (kt hc)
  · subst hq; exact Go.st (fun t h => XS.icmpNo A.pt A.1.1 rfl (hb A.1.2.2.2.1 hd) rfl (flt hc).2.2.1 h) (kf hc)
theorem Here.if_gt (A : Here p l e R s m args below meth c Z a0 tbl own nm bc mxl rt n0 T L cells slots) {pc q r : Nat} {Ls : Array Slot} {st : List Value} {x : Int32} {o : Int} (hd : decode bc pc = .ok (.ifCond .gt o, 3)) (hq : pc + 3 = q) (hr : (pc : Int) + o = (r : Int)) (kt : (0 : Int32) < x → Go p e below F (T.setTop (mkF m r Ls st))) (kf : ¬ ((0 : Int32) < x) → Go p e below F (T.setTop (mkF m q Ls st))) : Go p e below F (T.setTop (mkF m pc Ls (.int x :: st))) := by
  by_cases hc : (0 : Int32) < x
  · exact Go.st (fun t h => XS.ifYes A.pt A.1.1 rfl (pc0 := pc) (pc' := r) rfl (hb A.1.2.2.2.1 hd) rfl ((if0 _ _).trans (tlt hc).2.2.1) (by omega) (by omega) h) (kt hc)
  · subst hq; exact Go.st (fun t h => XS.ifNo A.pt A.1.1 rfl (hb A.1.2.2.2.1 hd) rfl ((if0 _ _).trans (flt hc).2.2.1) h) (kf hc)
theorem Here.icmp_le (A : Here p l e R s m args below meth c Z a0 tbl own nm bc mxl rt n0 T L cells slots) {pc q r : Nat} {Ls : Array Slot} {st : List Value} {x y : Int32} {o : Int} (hd : decode bc pc = .ok (.if_icmp .le o, 3)) (hq : pc + 3 = q) (hr : (pc : Int) + o = (r : Int)) (kt : ¬ (y < x) → Go p e below F (T.setTop (mkF m r Ls st))) (kf : y < x → Go p e below F (T.setTop (mkF m q Ls st))) : Go p e below F (T.setTop (mkF m pc Ls (.int y :: .int x :: st))) := by
  by_cases hc : y < x
  · subst hq; exact Go.st (fun t h => XS.icmpNo A.pt A.1.1 rfl (hb A.1.2.2.2.1 hd) rfl (tlt hc).2.2.2 h) (kf hc)
  · exact Go.st (fun t h => XS.icmpYes A.pt A.1.1 rfl (pc0 := pc) (pc' := r) rfl (hb A.1.2.2.2.1 hd) rfl (flt hc).2.2.2 (by omega) (by omega) h) (kt hc)
theorem Here.if_le (A : Here p l e R s m args below meth c Z a0 tbl own nm bc mxl rt n0 T L cells slots) {pc q r : Nat} {Ls : Array Slot} {st : List Value} {x : Int32} {o : Int} (hd : decode bc pc = .ok (.ifCond .le o, 3)) (hq : pc + 3 = q) (hr : (pc : Int) + o = (r : Int)) (kt : ¬ ((0 : Int32) < x) → Go p e below F (T.setTop (mkF m r Ls st))) (kf : (0 : Int32) < x → Go p e below F (T.setTop (mkF m q Ls st))) : Go p e below F (T.setTop (mkF m pc Ls (.int x :: st))) := by
  by_cases hc : (0 : Int32) < x
  · subst hq; exact Go.st (fun t h => XS.ifNo A.pt A.1.1 rfl (hb A.1.2.2.2.1 hd) rfl ((if0 _ _).trans (tlt hc).2.2.2) h) (kf hc)
  · exact Go.st (fun t h => XS.ifYes A.pt A.1.1 rfl (pc0 := pc) (pc' := r) rfl (hb A.1.2.2.2.1 hd) rfl ((if0 _ _).trans (flt hc).2.2.2) (by omega) (by omega) h) (kt hc)
theorem Here.icmp_eq (A : Here p l e R s m args below meth c Z a0 tbl own nm bc mxl rt n0 T L cells slots) {pc q r : Nat} {Ls : Array Slot} {st : List Value} {x y : Int32} {o : Int} (hd : decode bc pc = .ok (.if_icmp .eq o, 3)) (hq : pc + 3 = q) (hr : (pc : Int) + o = (r : Int)) (kt : x = y → Go p e below F (T.setTop (mkF m r Ls st))) (kf : ¬ (x = y) → Go p e below F (T.setTop (mkF m q Ls st))) : Go p e below F (T.setTop (mkF m pc Ls (.int y :: .int x :: st))) := by
  by_cases hc : x = y
  · exact Go.st (fun t h => XS.icmpYes A.pt A.1.1 rfl (pc0 := pc) (pc' := r) rfl (hb A.1.2.2.2.1 hd) rfl (teq hc).1 (by omega) (by omega) h) (kt hc)
  · subst hq; exact Go.st (fun t h => XS.icmpNo A.pt A.1.1 rfl (hb A.1.2.2.2.1 hd) rfl (feq hc).1 h) (kf hc)
theorem Here.if_eq (A : Here p l e R s m args below meth c Z a0 tbl own nm bc mxl rt n0 T L cells slots) {pc q r : Nat} {Ls : Array Slot} {st : List Value} {x : Int32} {o : Int} (hd : decode bc pc = .ok (.ifCond .eq o, 3)) (hq : pc + 3 = q) (hr : (pc : Int) + o = (r : Int)) (kt : x = (0 : Int32) → Go p e below F (T.setTop (mkF m r Ls st))) (kf : ¬ (x = (0 : Int32)) → Go p e below F (T.setTop (mkF m q Ls st))) : Go p e below F (T.setTop (mkF m pc Ls (.int x :: st))) := by
  by_cases hc : x = (0 : Int32)
  · exact Go.st (fun t h => XS.ifYes A.pt A.1.1 rfl (pc0 := pc) (pc' := r) rfl (hb A.1.2.2.2.1 hd) rfl ((if0 _ _).trans (teq hc).1) (by omega) (by omega) h) (kt hc)
  · subst hq; exact Go.st (fun t h => XS.ifNo A.pt A.1.1 rfl (hb A.1.2.2.2.1 hd) rfl ((if0 _ _).trans (feq hc).1) h) (kf hc)
theorem Here.icmp_ne (A : Here p l e R s m args below meth c Z a0 tbl own nm bc mxl rt n0 T L cells slots) {pc q r : Nat} {Ls : Array Slot} {st : List Value} {x y : Int32} {o : Int} (hd : decode bc pc = .ok (.if_icmp .ne o, 3)) (hq : pc + 3 = q) (hr : (pc : Int) + o = (r : Int)) (kt : ¬ (x = y) → Go p e below F (T.setTop (mkF m r Ls st))) (kf : x = y → Go p e below F (T.setTop (mkF m q Ls st))) : Go p e below F (T.setTop (mkF m pc Ls (.int y :: .int x :: st))) := by
  by_cases hc : x = y
  · subst hq; exact Go.st (fun t h => XS.icmpNo A.pt A.1.1 rfl (hb A.1.2.2.2.1 hd) rfl (teq hc).2 h) (kf hc)
  · exact Go.st (fun t h => XS.icmpYes A.pt A.1.1 rfl (pc0 := pc) (pc' := r) rfl (hb A.1.2.2.2.1 hd) rfl (feq hc).2 (by omega) (by omega) h) (kt hc)
theorem Here.if_ne (A : Here p l e R s m args below meth c Z a0 tbl own nm bc mxl rt n0 T L cells slots) {pc q r : Nat} {Ls : Array Slot} {st : List Value} {x : Int32} {o : Int} (hd : decode bc pc = .ok (.ifCond .ne o, 3)) (hq : pc + 3 = q) (hr : (pc : Int) + o = (r : Int)) (kt : ¬ (x = (0 : Int32)) → Go p e below F (T.setTop (mkF m r Ls st))) (kf : x = (0 : Int32) → Go p e below F (T.setTop (mkF m q Ls st))) : Go p e below F (T.setTop (mkF m pc Ls (.int x :: st))) := by
  by_cases hc : x = (0 : Int32)
  · subst hq; exact Go.st (fun t h => XS.ifNo A.pt A.1.1 rfl (hb A.1.2.2.2.1 hd) rfl ((if0 _ _).trans (teq hc).2) h) (kf hc)
  · exact Go.st (fun t h => XS.ifYes A.pt A.1.1 rfl (pc0 := pc) (pc' := r) rfl (hb A.1.2.2.2.1 hd) rfl ((if0 _ _).trans (feq hc).2) (by omega) (by omega) h) (kt hc)
theorem Here.icmpT (A : Here p l e R s m args below meth c Z a0 tbl own nm bc mxl rt n0 T L cells slots) {pc r : Nat} {Ls : Array Slot} {st : List Value} {x y : Int32} {o : Int} {cd : ClassFile.Cond} (hd : decode bc pc = .ok (.if_icmp cd o, 3)) (hr : (pc : Int) + o = (r : Int)) (hc : if_icmp.holds cd x y = true) (k : Go p e below F (T.setTop (mkF m r Ls st))) : Go p e below F (T.setTop (mkF m pc Ls (.int y :: .int x :: st))) :=
  Go.st (fun t h => XS.icmpYes A.pt A.1.1 rfl (pc0 := pc) (pc' := r) rfl (hb A.1.2.2.2.1 hd) rfl hc (by omega) (by omega) h) k
theorem Here.icmpF (A : Here p l e R s m args below meth c Z a0 tbl own nm bc mxl rt n0 T L cells slots) {pc q : Nat} {Ls : Array Slot} {st : List Value} {x y : Int32} {o : Int} {cd : ClassFile.Cond} (hd : decode bc pc = .ok (.if_icmp cd o, 3)) (hq : pc + 3 = q) (hc : if_icmp.holds cd x y = false) (k : Go p e below F (T.setTop (mkF m q Ls st))) : Go p e below F (T.setTop (mkF m pc Ls (.int y :: .int x :: st))) := by
  subst hq; exact Go.st (fun t h => XS.icmpNo A.pt A.1.1 rfl (hb A.1.2.2.2.1 hd) rfl hc h) k
theorem Here.ifT (A : Here p l e R s m args below meth c Z a0 tbl own nm bc mxl rt n0 T L cells slots) {pc r : Nat} {Ls : Array Slot} {st : List Value} {x : Int32} {o : Int} {cd : ClassFile.Cond} (hd : decode bc pc = .ok (.ifCond cd o, 3)) (hr : (pc : Int) + o = (r : Int)) (hc : ifCond.holds cd x = true) (k : Go p e below F (T.setTop (mkF m r Ls st))) : Go p e below F (T.setTop (mkF m pc Ls (.int x :: st))) :=
  Go.st (fun t h => XS.ifYes A.pt A.1.1 rfl (pc0 := pc) (pc' := r) rfl (hb A.1.2.2.2.1 hd) rfl hc (by omega) (by omega) h) k
theorem Here.ifF (A : Here p l e R s m args below meth c Z a0 tbl own nm bc mxl rt n0 T L cells slots) {pc q : Nat} {Ls : Array Slot} {st : List Value} {x : Int32} {o : Int} {cd : ClassFile.Cond} (hd : decode bc pc = .ok (.ifCond cd o, 3)) (hq : pc + 3 = q) (hc : ifCond.holds cd x = false) (k : Go p e below F (T.setTop (mkF m q Ls st))) : Go p e below F (T.setTop (mkF m pc Ls (.int x :: st))) := by
  subst hq; exact Go.st (fun t h => XS.ifNo A.pt A.1.1 rfl (hb A.1.2.2.2.1 hd) rfl hc h) k
theorem Here.lcmp_lt (A : Here p l e R s m args below meth c Z a0 tbl own nm bc mxl rt n0 T L cells slots) {pc q q2 r : Nat} {Ls : Array Slot} {st : List Value} {x y : Int64} {o : Int} (hd : decode bc pc = .ok (.lcmp, 1)) (hq : pc + 1 = q) (hd2 : decode bc q = .ok (.ifCond .lt o, 3)) (hq2 : q + 3 = q2) (hr : (q : Int) + o = (r : Int)) (kt : x < y → Go p e below F (T.setTop (mkF m r Ls st))) (kf : ¬ (x < y) → Go p e below F (T.setTop (mkF m q2 Ls st))) : Go p e below F (T.setTop (mkF m pc Ls (.long y :: .long x :: st))) := by
  have key : Go p e below F (T.setTop (mkF m q Ls (.int (lcmpW x y) :: st))) := by
    by_cases hc : x < y
    · exact A.ifT hd2 hr ((if0 _ _).trans (tlt ((lw_lt x y).mpr hc)).1) (kt hc)
    · exact A.ifF hd2 hq2 ((if0 _ _).trans (flt (mt (lw_lt x y).mp hc)).1) (kf hc)
  subst hq
  exact Go.st (fun t h => XS.lcmp A.pt A.1.1 rfl (hb A.1.2.2.2.1 hd) rfl h) key
theorem Here.lcmp_ge (A : Here p l e R s m args below meth c Z a0 tbl own nm bc mxl rt n0 T L cells slots) {pc q q2 r : Nat} {Ls : Array Slot} {st : List Value} {x y : Int64} {o : Int} (hd : decode bc pc = .ok (.lcmp, 1)) (hq : pc + 1 = q) (hd2 : decode bc q = .ok (.ifCond .ge o, 3)) (hq2 : q + 3 = q2) (hr : (q : Int) + o = (r : Int)) (kt : ¬ (x < y) → Go p e below F (T.setTop (mkF m r Ls st))) (kf : x < y → Go p e below F (T.setTop (mkF m q2 Ls st))) : Go p e below F (T.setTop (mkF m pc Ls (.long y :: .long x :: st))) := by
  have key : Go p e below F (T.setTop (mkF m q Ls (.int (lcmpW x y) :: st))) := by
    by_cases hc : x < y
    · exact A.ifF hd2 hq2 ((if0 _ _).trans (tlt ((lw_lt x y).mpr hc)).2.1) (kf hc)
    · exact A.ifT hd2 hr ((if0 _ _).trans (flt (mt (lw_lt x y).mp hc)).2.1) (kt hc)
  subst hq
  exact Go.st (fun t h => XS.lcmp A.pt A.1.1 rfl (hb A.1.2.2.2.1 hd) rfl h) key
theorem Here.lcmp_gt (A : Here p l e R s m args below meth c Z a0 tbl own nm bc mxl rt n0 T L cells slots) {pc q q2 r : Nat} {Ls : Array Slot} {st : List Value} {x y : Int64} {o : Int} (hd : decode bc pc = .ok (.lcmp, 1)) (hq : pc + 1 = q) (hd2 : decode bc q = .ok (.ifCond .gt o, 3)) (hq2 : q + 3 = q2) (hr : (q : Int) + o = (r : Int)) (kt : y < x → Go p e below F (T.setTop (mkF m r Ls st))) (kf : ¬ (y < x) → Go p e below F (T.setTop (mkF m q2 Ls st))) : Go p e below F (T.setTop (mkF m pc Ls (.long y :: .long x :: st))) := by
  have key : Go p e below F (T.setTop (mkF m q Ls (.int (lcmpW x y) :: st))) := by
    by_cases hc : y < x
    · exact A.ifT hd2 hr ((if0 _ _).trans (tlt ((lw_gt x y).mpr hc)).2.2.1) (kt hc)
    · exact A.ifF hd2 hq2 ((if0 _ _).trans (flt (mt (lw_gt x y).mp hc)).2.2.1) (kf hc)
  subst hq
  exact Go.st (fun t h => XS.lcmp A.pt A.1.1 rfl (hb A.1.2.2.2.1 hd) rfl h) key
theorem Here.lcmp_le (A : Here p l e R s m args below meth c Z a0 tbl own nm bc mxl rt n0 T L cells slots) {pc q q2 r : Nat} {Ls : Array Slot} {st : List Value} {x y : Int64} {o : Int} (hd : decode bc pc = .ok (.lcmp, 1)) (hq : pc + 1 = q) (hd2 : decode bc q = .ok (.ifCond .le o, 3)) (hq2 : q + 3 = q2) (hr : (q : Int) + o = (r : Int)) (kt : ¬ (y < x) → Go p e below F (T.setTop (mkF m r Ls st))) (kf : y < x → Go p e below F (T.setTop (mkF m q2 Ls st))) : Go p e below F (T.setTop (mkF m pc Ls (.long y :: .long x :: st))) := by
  have key : Go p e below F (T.setTop (mkF m q Ls (.int (lcmpW x y) :: st))) := by
    by_cases hc : y < x
    · exact A.ifF hd2 hq2 ((if0 _ _).trans (tlt ((lw_gt x y).mpr hc)).2.2.2) (kf hc)
    · exact A.ifT hd2 hr ((if0 _ _).trans (flt (mt (lw_gt x y).mp hc)).2.2.2) (kt hc)
  subst hq
  exact Go.st (fun t h => XS.lcmp A.pt A.1.1 rfl (hb A.1.2.2.2.1 hd) rfl h) key
theorem Here.lcmp_eq (A : Here p l e R s m args below meth c Z a0 tbl own nm bc mxl rt n0 T L cells slots) {pc q q2 r : Nat} {Ls : Array Slot} {st : List Value} {x y : Int64} {o : Int} (hd : decode bc pc = .ok (.lcmp, 1)) (hq : pc + 1 = q) (hd2 : decode bc q = .ok (.ifCond .eq o, 3)) (hq2 : q + 3 = q2) (hr : (q : Int) + o = (r : Int)) (kt : x = y → Go p e below F (T.setTop (mkF m r Ls st))) (kf : ¬ (x = y) → Go p e below F (T.setTop (mkF m q2 Ls st))) : Go p e below F (T.setTop (mkF m pc Ls (.long y :: .long x :: st))) := by
  have key : Go p e below F (T.setTop (mkF m q Ls (.int (lcmpW x y) :: st))) := by
    by_cases hc : x = y
    · exact A.ifT hd2 hr ((if0 _ _).trans (teq ((lw_eq x y).mpr hc)).1) (kt hc)
    · exact A.ifF hd2 hq2 ((if0 _ _).trans (feq (mt (lw_eq x y).mp hc)).1) (kf hc)
  subst hq
  exact Go.st (fun t h => XS.lcmp A.pt A.1.1 rfl (hb A.1.2.2.2.1 hd) rfl h) key
theorem Here.lcmp_ne (A : Here p l e R s m args below meth c Z a0 tbl own nm bc mxl rt n0 T L cells slots) {pc q q2 r : Nat} {Ls : Array Slot} {st : List Value} {x y : Int64} {o : Int} (hd : decode bc pc = .ok (.lcmp, 1)) (hq : pc + 1 = q) (hd2 : decode bc q = .ok (.ifCond .ne o, 3)) (hq2 : q + 3 = q2) (hr : (q : Int) + o = (r : Int)) (kt : ¬ (x = y) → Go p e below F (T.setTop (mkF m r Ls st))) (kf : x = y → Go p e below F (T.setTop (mkF m q2 Ls st))) : Go p e below F (T.setTop (mkF m pc Ls (.long y :: .long x :: st))) := by
  have key : Go p e below F (T.setTop (mkF m q Ls (.int (lcmpW x y) :: st))) := by
    by_cases hc : x = y
    · exact A.ifF hd2 hq2 ((if0 _ _).trans (teq ((lw_eq x y).mpr hc)).2) (kf hc)
    · exact A.ifT hd2 hr ((if0 _ _).trans (feq (mt (lw_eq x y).mp hc)).2) (kt hc)
  subst hq
  exact Go.st (fun t h => XS.lcmp A.pt A.1.1 rfl (hb A.1.2.2.2.1 hd) rfl h) key
theorem Here.ifnonnullT (A : Here p l e R s m args below meth c Z a0 tbl own nm bc mxl rt n0 T L cells slots) {pc r : Nat} {Ls : Array Slot} {st : List Value} {b : Addr} {o : Int} (hd : decode bc pc = .ok (.ifnonnull o, 3)) (hr : (pc : Int) + o = (r : Int)) (k : Go p e below F (T.setTop (mkF m r Ls st))) : Go p e below F (T.setTop (mkF m pc Ls (.ref b :: st))) :=
  Go.st (fun t h => XS.ifnonnullYes A.pt A.1.1 rfl (pc0 := pc) (pc' := r) rfl (hb A.1.2.2.2.1 hd) rfl (by omega) (by omega) h) k
theorem Here.ifnonnullF (A : Here p l e R s m args below meth c Z a0 tbl own nm bc mxl rt n0 T L cells slots) {pc q : Nat} {Ls : Array Slot} {st : List Value} {o : Int} (hd : decode bc pc = .ok (.ifnonnull o, 3)) (hq : pc + 3 = q) (k : Go p e below F (T.setTop (mkF m q Ls st))) : Go p e below F (T.setTop (mkF m pc Ls (.null :: st))) := by
  subst hq; exact Go.st (fun t h => XS.ifnonnullNo A.pt A.1.1 rfl (hb A.1.2.2.2.1 hd) rfl h) k
theorem Here.ifnullT (A : Here p l e R s m args below meth c Z a0 tbl own nm bc mxl rt n0 T L cells slots) {pc r : Nat} {Ls : Array Slot} {st : List Value} {o : Int} (hd : decode bc pc = .ok (.ifnull o, 3)) (hr : (pc : Int) + o = (r : Int)) (k : Go p e below F (T.setTop (mkF m r Ls st))) : Go p e below F (T.setTop (mkF m pc Ls (.null :: st))) :=
  Go.st (fun t h => XS.ifnullYes A.pt A.1.1 rfl (pc0 := pc) (pc' := r) rfl (hb A.1.2.2.2.1 hd) rfl (by omega) (by omega) h) k
theorem Here.ifnullF (A : Here p l e R s m args below meth c Z a0 tbl own nm bc mxl rt n0 T L cells slots) {pc q : Nat} {Ls : Array Slot} {st : List Value} {b : Addr} {o : Int} (hd : decode bc pc = .ok (.ifnull o, 3)) (hq : pc + 3 = q) (k : Go p e below F (T.setTop (mkF m q Ls st))) : Go p e below F (T.setTop (mkF m pc Ls (.ref b :: st))) := by
  subst hq; exact Go.st (fun t h => XS.ifnullNo A.pt A.1.1 rfl (hb A.1.2.2.2.1 hd) rfl h) k
theorem Here.acmp (A : Here p l e R s m args below meth c Z a0 tbl own nm bc mxl rt n0 T L cells slots) {pc r : Nat} {Ls : Array Slot} {st : List Value} {x y : Value} {cd : ACond} {o : Int} {same : Bool} (hd : decode bc pc = .ok (.if_acmp cd o, 3)) (h1 : x.isRef = true) (h2 : y.isRef = true) (hs : decide (x = y) = same) (ho : 0 ≤ (pc : Int) + o) (hp : r = if acV cd same = true then ((pc : Int) + o).toNat else pc + 3) (k : Go p e below F (T.setTop (mkF m r Ls st))) : Go p e below F (T.setTop (mkF m pc Ls (y :: x :: st))) := by
  obtain ⟨_, X, _⟩ := A.2
  exact Go.st (fun t h => Jvm.RoadKit.acmp X A.1.1 rfl h1 h2 (pc0 := pc) (pc' := r) (same := same) rfl (hb A.1.2.2.2.1 hd) rfl hs ho hp h) k
theorem Here.ldc (A : Here p l e R s m args below meth c Z a0 tbl own nm bc mxl rt n0 T L cells slots) {pc q w index : Nat} {Ls : Array Slot} {st : List Value} {v : Int32} (hd : decode bc pc = .ok (.ldc index, 2)) (hq : pc + 2 = q) (hw : tbl[w]? = some (Jvm.Cond.constant own index v)) (k : Go p e below F (T.setTop (mkF m q Ls (.int v :: st)))) : Go p e below F (T.setTop (mkF m pc Ls st)) := by
  obtain ⟨⟨hx, hZ, hown, hby, hml, hww, hnm, hrt, hlk⟩, locs, X, N, Z0, P⟩ := id A
  subst hq
  exact Go.st (X.ldcInt hx hown (mvT hZ (hww _ (List.mem_of_getElem? hw))) (g := mkF m pc Ls st) rfl (hb hby hd)) k
theorem Here.ldc_w (A : Here p l e R s m args below meth c Z a0 tbl own nm bc mxl rt n0 T L cells slots) {pc q w index : Nat} {Ls : Array Slot} {st : List Value} {v : Int32} (hd : decode bc pc = .ok (.ldc_w index, 3)) (hq : pc + 3 = q) (hw : tbl[w]? = some (Jvm.Cond.constant own index v)) (k : Go p e below F (T.setTop (mkF m q Ls (.int v :: st)))) : Go p e below F (T.setTop (mkF m pc Ls st)) := by
  obtain ⟨⟨hx, hZ, hown, hby, hml, hww, hnm, hrt, hlk⟩, locs, X, N, Z0, P⟩ := id A
  subst hq
  exact Go.st (X.ldcwInt hx hown (mvT hZ (hww _ (List.mem_of_getElem? hw))) (g := mkF m pc Ls st) rfl (hb hby hd)) k
theorem Here.ldc2_w (A : Here p l e R s m args below meth c Z a0 tbl own nm bc mxl rt n0 T L cells slots) {pc q w index : Nat} {Ls : Array Slot} {st : List Value} {v : Int64} (hd : decode bc pc = .ok (.ldc2_w index, 3)) (hq : pc + 3 = q) (hw : tbl[w]? = some (Jvm.Cond.constantLong own index v)) (k : Go p e below F (T.setTop (mkF m q Ls (.long v :: st)))) : Go p e below F (T.setTop (mkF m pc Ls st)) := by
  obtain ⟨⟨hx, hZ, hown, hby, hml, hww, hnm, hrt, hlk⟩, locs, X, N, Z0, P⟩ := id A
  subst hq
  exact Go.st (X.ldc2Long hx hown (mvT hZ (hww _ (List.mem_of_getElem? hw))) (g := mkF m pc Ls st) rfl (hb hby hd)) k
theorem Here.getF (A : Here p l e R s m args below meth c Z a0 tbl own nm bc mxl rt n0 T L cells slots) {pc q w i j index : Nat} {Ls : Array Slot} {st : List Value} {O n d C : String} {a : Addr} {fs : List ((String × String × String) × Value)} {v : Value} (hd : decode bc pc = .ok (.getfield index, 3)) (hq : pc + 3 = q) (hw : tbl[w]? = some (Jvm.Cond.fieldLink own index O n d)) (hL : L[i]? = some (a, .inl (C, fs))) (hf : fs[j]? = some ((O, n, d), v))
    (k : ∀ T', Here p l e R s m args below meth c Z a0 tbl own nm bc mxl rt n0 T' L cells slots → Go p e below F (T'.setTop (mkF m q Ls (v :: st)))) : Go p e below F (T.setTop (mkF m pc Ls (.ref a :: st))) := by
  obtain ⟨⟨hx, hZ, hown, hby, hml, hww, hnm, hrt, hlk⟩, locs, X, N, Z0, P⟩ := id A
  have Fd := (P.1 _ (List.mem_of_getElem? hL)).2.2 _ (List.mem_of_getElem? hf)
  obtain ⟨T', X', e', st'⟩ := Jvm.RoadKit.getF X hx hZ hown (host := "") (Or.inl (hww _ (List.mem_of_getElem? hw))) Via.refl rfl Fd (g := mkF m pc Ls (.ref a :: st)) rfl rfl (hb hby hd)
  subst hq
  exact Go.st st' (k T' ⟨A.1, locs, X', N, by rw [e']; exact Z0, by rw [e']; exact P⟩)
theorem Here.putF (A : Here p l e R s m args below meth c Z a0 tbl own nm bc mxl rt n0 T L cells slots) {pc q w w2 w3 i j index kk : Nat} {Ls : Array Slot} {st : List Value} {O n d C : String} {a : Addr} {fs : List ((String × String × String) × Value)} {v v' old : Value} {ty : FieldType} {L' : Obs} (hd : decode bc pc = .ok (.putfield index, 3)) (hq : pc + 3 = q) (hw : tbl[w]? = some (Jvm.Cond.fieldLink own index O n d)) (hL : L[i]? = some (a, .inl (C, fs))) (hf : fs[j]? = some ((O, n, d), old))
    (hl : Lays Z a0 C (fs.map Prod.fst)) (hp : tbl[w2]? = some (Jvm.Cond.lays C O n d) ∨ (tbl[w2]? = some (Jvm.Cond.laysFinal C O n d) ∧ own = O ∧ nm = "<init>")) (hi : tbl[w3]? = some (Jvm.Cond.instantiable C kk)) (hty : parseFieldDescriptor d = some ty) (hn : narrow ty v = v') (hfit : fits ty v' = true) (hL' : L.set i (a, .inl (C, fs.set j ((O, n, d), v'))) = L')
    (k : ∀ T', Here p l e R s m args below meth c Z a0 tbl own nm bc mxl rt n0 T' L' cells slots → Go p e below F (T'.setTop (mkF m q Ls st))) : Go p e below F (T.setTop (mkF m pc Ls (v :: .ref a :: st))) := by
  obtain ⟨⟨hx, hZ, hown, hby, hml, hww, hnm, hrt, hlk⟩, locs, X, N, Z0, P⟩ := id A
  have I := P.1 _ (List.mem_of_getElem? hL)
  obtain ⟨T', h', X', e', W, st'⟩ := Jvm.RoadKit.putFN X hx hZ hown (hww _ (List.mem_of_getElem? hw)) Via.refl rfl (I.2.2 _ (List.mem_of_getElem? hf)) I.2.1 (hp.imp (fun q => hww _ (List.mem_of_getElem? q)) (fun q => ⟨hww _ (List.mem_of_getElem? q.1), q.2.1, by rw [hnm]; exact q.2.2⟩)) (hww _ (List.mem_of_getElem? hi)) hty hn hfit (g := mkF m pc Ls (v :: .ref a :: st)) rfl rfl (hb hby hd)
  subst hq hL' e'
  exact Go.st st' (k T' ⟨A.1, _, X', Fr.snoc X' N I.1, by rw [W.size]; exact Z0, P.set W hL (I.2.put W hl hf)⟩)
theorem Here.newO (A : Here p l e R s m args below meth c Z a0 tbl own nm bc mxl rt n0 T L cells slots) {pc q w1 w2 w3 index n : Nat} {Ls : Array Slot} {st : List Value} {C : String} {fs : List ((String × String × String) × Value)} (hd : decode bc pc = .ok (.new index, 3)) (hq : pc + 3 = q) (h1 : tbl[w1]? = some (Jvm.Cond.classLink own index C)) (h2 : tbl[w2]? = some (Jvm.Cond.instantiable C n)) (h3 : tbl[w3]? = some (Jvm.Cond.initialized C)) (hl : Lays Z a0 C (fs.map Prod.fst))
    (hdef : (fs.all fun q => match parseFieldDescriptor q.1.2.2 with | some t => decide (defaultValue t = q.2) | none => false) = true) (hc : cells + 1 ≤ R.cells) (hs : slots + n ≤ R.slots)
    (k : ∀ T' a, Here p l e R s m args below meth c Z a0 tbl own nm bc mxl rt n0 T' ((a, .inl (C, fs)) :: L) (cells + 1) (slots + n) → Go p e below F (T'.setTop (mkF m q Ls (.ref a :: st)))) : Go p e below F (T.setTop (mkF m pc Ls st)) := by
  obtain ⟨⟨hx, hZ, hown, hby, hml, hww, hnm, hrt, hlk⟩, locs, X, N, Z0, P⟩ := id A
  obtain ⟨T', h', X', e', E, Ex, D, -, st'⟩ := Jvm.RoadKit.newO X hx hZ hown (hww _ (List.mem_of_getElem? h1)) (hww _ (List.mem_of_getElem? h2)) (hww _ (List.mem_of_getElem? h3)) rfl (g := mkF m pc Ls st) rfl (hb hby hd) hc hs
  subst hq e'
  refine Go.st st' (k T' _ ⟨A.1, locs, X', N, Nat.le_trans Z0 E.1, P.new E Z0 ⟨Ex, fun f hf => ?_⟩⟩)
  obtain ⟨lf, -⟩ := hl.1 _ (List.mem_map.mpr ⟨f, hf, rfl⟩)
  have q := List.all_eq_true.mp hdef f hf
  cases ht : parseFieldDescriptor f.1.2.2 with
  | none => rw [ht] at q; cases q
  | some t =>
    rw [ht] at q
    have q' : defaultValue t = f.2 := of_decide_eq_true q
    rw [← q']; exact D lf ht
theorem Here.newA (A : Here p l e R s m args below meth c Z a0 tbl own nm bc mxl rt n0 T L cells slots) {pc q w cap : Nat} {Ls : Array Slot} {st : List Value} {aty : ArrayType} {n : Int32} {ty : FieldType} {vs : List Value} (hd : decode bc pc = .ok (.newarray aty, 2)) (hq : pc + 2 = q) (hty : newarray.typeOf aty = ty) (hw : tbl[w]? = some (Jvm.Cond.arrayClass ty)) (hn : ¬ n < 0) (hcap : n.toNatClampNeg ≤ cap) (hb8 : cap * 8 ≤ 536870912) (hvs : List.replicate n.toNatClampNeg (defaultValue ty) = vs) (hc : cells + 1 ≤ R.cells) (hs : slots + cap ≤ R.slots)
    (k : ∀ T' a, Here p l e R s m args below meth c Z a0 tbl own nm bc mxl rt n0 T' ((a, .inr (ty, vs)) :: L) (cells + 1) (slots + cap) → Go p e below F (T'.setTop (mkF m q Ls (.ref a :: st)))) : Go p e below F (T.setTop (mkF m pc Ls (.int n :: st))) := by
  obtain ⟨⟨hx, hZ, hown, hby, hml, hww, hnm, hrt, hlk⟩, locs, X, N, Z0, P⟩ := id A
  subst hty
  obtain ⟨T', h', cA, X', e', E, Ar, Ex, st'⟩ := newPE X hx hZ (hww _ (List.mem_of_getElem? hw)) rfl (g := mkF m pc Ls (.int n :: st)) rfl (hb hby hd) rfl hn hcap hb8 hc hs rfl
  subst hq e' hvs
  refine Go.st st' (k T' _ ⟨A.1, locs, X', N, Nat.le_trans Z0 E.1, P.new E Z0 ⟨_, Ar, ?_, ?_, ?_, Ex⟩⟩)
  · simp [Jvm.RoadKit.newA]
  · rw [List.length_replicate]; omega
  · intro v hv
    rw [(List.mem_replicate.mp hv).2]; exact fits_def aty

theorem Here.iaload (A : Here p l e R s m args below meth c Z a0 tbl own nm bc mxl rt n0 T L cells slots) {pc q i : Nat} {Ls : Array Slot} {st : List Value} {a : Addr} {j : Int32} {vs : List Value} {v : Value} (hd : decode bc pc = .ok (.iaload, 1)) (hq : pc + 1 = q) (hL : L[i]? = some (a, .inr (.int, vs))) (hj : ¬ j < 0) (hv : vs[j.toNatClampNeg]? = some v) (k : Go p e below F (T.setTop (mkF m q Ls (v :: st)))) : Go p e below F (T.setTop (mkF m pc Ls (.int j :: .ref a :: st))) := by
  obtain ⟨⟨hx, hZ, hown, hby, hml, hww, hnm, hrt, hlk⟩, locs, X, N, Z0, P⟩ := id A
  obtain ⟨cl, Ar, r1, r2, r3, r4⟩ := (P.1 _ (List.mem_of_getElem? hL)).2
  have hlt : j.toNatClampNeg < vs.length := (List.getElem?_eq_some_iff.mp hv).1
  subst hq
  exact Go.st (fun t h => X.iaload hx (j := j) (v := v) Ar.1 (State.isArrayOf_alike hZ.alike Ar.2.1) Ar.2.2 (fun q => q.elim hj (fun q => by rw [r1] at q; simp at q; omega)) (by rw [r1]; simpa using hv) (g := mkF m pc Ls (.int j :: .ref a :: st)) rfl rfl (hb hby hd) t h) k
theorem Here.laload (A : Here p l e R s m args below meth c Z a0 tbl own nm bc mxl rt n0 T L cells slots) {pc q i : Nat} {Ls : Array Slot} {st : List Value} {a : Addr} {j : Int32} {vs : List Value} {v : Value} (hd : decode bc pc = .ok (.laload, 1)) (hq : pc + 1 = q) (hL : L[i]? = some (a, .inr (.long, vs))) (hj : ¬ j < 0) (hv : vs[j.toNatClampNeg]? = some v) (k : Go p e below F (T.setTop (mkF m q Ls (v :: st)))) : Go p e below F (T.setTop (mkF m pc Ls (.int j :: .ref a :: st))) := by
  obtain ⟨⟨hx, hZ, hown, hby, hml, hww, hnm, hrt, hlk⟩, locs, X, N, Z0, P⟩ := id A
  obtain ⟨cl, Ar, r1, r2, r3, r4⟩ := (P.1 _ (List.mem_of_getElem? hL)).2
  have hlt : j.toNatClampNeg < vs.length := (List.getElem?_eq_some_iff.mp hv).1
  subst hq
  exact Go.st (fun t h => X.laload hx (j := j) (v := v) Ar.1 (State.isArrayOf_alike hZ.alike Ar.2.1) Ar.2.2 (fun q => q.elim hj (fun q => by rw [r1] at q; simp at q; omega)) (by rw [r1]; simpa using hv) (g := mkF m pc Ls (.int j :: .ref a :: st)) rfl rfl (hb hby hd) t h) k
theorem Here.baloadB (A : Here p l e R s m args below meth c Z a0 tbl own nm bc mxl rt n0 T L cells slots) {pc q i : Nat} {Ls : Array Slot} {st : List Value} {a : Addr} {j : Int32} {vs : List Value} {v : Value} (hd : decode bc pc = .ok (.baload, 1)) (hq : pc + 1 = q) (hL : L[i]? = some (a, .inr (.byte, vs))) (hj : ¬ j < 0) (hv : vs[j.toNatClampNeg]? = some v) (k : Go p e below F (T.setTop (mkF m q Ls (v :: st)))) : Go p e below F (T.setTop (mkF m pc Ls (.int j :: .ref a :: st))) := by
  obtain ⟨⟨hx, hZ, hown, hby, hml, hww, hnm, hrt, hlk⟩, locs, X, N, Z0, P⟩ := id A
  obtain ⟨cl, Ar, r1, r2, r3, r4⟩ := (P.1 _ (List.mem_of_getElem? hL)).2
  have hlt : j.toNatClampNeg < vs.length := (List.getElem?_eq_some_iff.mp hv).1
  subst hq
  exact Go.st (fun t h => X.baloadBytes hx (j := j) (v := v) Ar.1 (State.isArrayOf_alike hZ.alike Ar.2.1) Ar.2.2 (fun q => q.elim hj (fun q => by rw [r1] at q; simp at q; omega)) (by rw [r1]; simpa using hv) (g := mkF m pc Ls (.int j :: .ref a :: st)) rfl rfl (hb hby hd) t h) k
theorem Here.baloadZ (A : Here p l e R s m args below meth c Z a0 tbl own nm bc mxl rt n0 T L cells slots) {pc q i : Nat} {Ls : Array Slot} {st : List Value} {a : Addr} {j : Int32} {vs : List Value} {v : Value} (hd : decode bc pc = .ok (.baload, 1)) (hq : pc + 1 = q) (hL : L[i]? = some (a, .inr (.boolean, vs))) (hj : ¬ j < 0) (hv : vs[j.toNatClampNeg]? = some v) (k : Go p e below F (T.setTop (mkF m q Ls (v :: st)))) : Go p e below F (T.setTop (mkF m pc Ls (.int j :: .ref a :: st))) := by
  obtain ⟨⟨hx, hZ, hown, hby, hml, hww, hnm, hrt, hlk⟩, locs, X, N, Z0, P⟩ := id A
  obtain ⟨cl, Ar, r1, r2, r3, r4⟩ := (P.1 _ (List.mem_of_getElem? hL)).2
  have hlt : j.toNatClampNeg < vs.length := (List.getElem?_eq_some_iff.mp hv).1
  subst hq
  exact Go.st (fun t h => X.baloadBooleans hx (j := j) (v := v) Ar.1 (State.isArrayOf_alike hZ.alike Ar.2.1) Ar.2.2 (fun q => q.elim hj (fun q => by rw [r1] at q; simp at q; omega)) (by rw [r1]; simpa using hv) (g := mkF m pc Ls (.int j :: .ref a :: st)) rfl rfl (hb hby hd) t h) k
theorem Here.iastore (A : Here p l e R s m args below meth c Z a0 tbl own nm bc mxl rt n0 T L cells slots) {pc q i : Nat} {Ls : Array Slot} {st : List Value} {a : Addr} {j : Int32} {x x' : Int32} {vs : List Value} {L' : Obs} (hd : decode bc pc = .ok (.iastore, 1)) (hq : pc + 1 = q) (hL : L[i]? = some (a, .inr (.int, vs))) (hj : ¬ j < 0) (hlt : j.toNatClampNeg < vs.length) (hx' : x = x') (hL' : L.set i (a, .inr (.int, vs.set j.toNatClampNeg (.int x'))) = L') (k : ∀ T', Here p l e R s m args below meth c Z a0 tbl own nm bc mxl rt n0 T' L' cells slots → Go p e below F (T'.setTop (mkF m q Ls st))) : Go p e below F (T.setTop (mkF m pc Ls (.int x :: .int j :: .ref a :: st))) := by
  obtain ⟨⟨hx, hZ, hown, hby, hml, hww, hnm, hrt, hlk⟩, locs, X, N, Z0, P⟩ := id A
  have I := P.1 _ (List.mem_of_getElem? hL)
  obtain ⟨cl, Ar, r1, r2, r3, r4⟩ := id I.2
  obtain ⟨T', h', X', e', W, st'⟩ := stI X hx hZ rfl Ar (j := j) (x := x) (fun q => q.elim hj (fun q => by rw [r1] at q; simp at q; omega)) (g := mkF m pc Ls (.int x :: .int j :: .ref a :: st)) rfl rfl (hb hby hd)
  subst hq hL' e' hx'
  exact Go.st st' (k T' ⟨A.1, _, X', Fr.snoc X' N I.1, by rw [W.size]; exact Z0, P.set W hL (Ara.put (show Ara Z T.heap a .int vs from I.2) W rfl)⟩)
theorem Here.lastore (A : Here p l e R s m args below meth c Z a0 tbl own nm bc mxl rt n0 T L cells slots) {pc q i : Nat} {Ls : Array Slot} {st : List Value} {a : Addr} {j : Int32} {x x' : Int64} {vs : List Value} {L' : Obs} (hd : decode bc pc = .ok (.lastore, 1)) (hq : pc + 1 = q) (hL : L[i]? = some (a, .inr (.long, vs))) (hj : ¬ j < 0) (hlt : j.toNatClampNeg < vs.length) (hx' : x = x') (hL' : L.set i (a, .inr (.long, vs.set j.toNatClampNeg (.long x'))) = L') (k : ∀ T', Here p l e R s m args below meth c Z a0 tbl own nm bc mxl rt n0 T' L' cells slots → Go p e below F (T'.setTop (mkF m q Ls st))) : Go p e below F (T.setTop (mkF m pc Ls (.long x :: .int j :: .ref a :: st))) := by
  obtain ⟨⟨hx, hZ, hown, hby, hml, hww, hnm, hrt, hlk⟩, locs, X, N, Z0, P⟩ := id A
  have I := P.1 _ (List.mem_of_getElem? hL)
  obtain ⟨cl, Ar, r1, r2, r3, r4⟩ := id I.2
  obtain ⟨T', h', X', e', W, st'⟩ := stJ X hx hZ rfl Ar (j := j) (x := x) (fun q => q.elim hj (fun q => by rw [r1] at q; simp at q; omega)) (g := mkF m pc Ls (.long x :: .int j :: .ref a :: st)) rfl rfl (hb hby hd)
  subst hq hL' e' hx'
  exact Go.st st' (k T' ⟨A.1, _, X', Fr.snoc X' N I.1, by rw [W.size]; exact Z0, P.set W hL (Ara.put (show Ara Z T.heap a .long vs from I.2) W rfl)⟩)
theorem Here.bastoreB (A : Here p l e R s m args below meth c Z a0 tbl own nm bc mxl rt n0 T L cells slots) {pc q i : Nat} {Ls : Array Slot} {st : List Value} {a : Addr} {j : Int32} {x x' : Int32} {vs : List Value} {L' : Obs} (hd : decode bc pc = .ok (.bastore, 1)) (hq : pc + 1 = q) (hL : L[i]? = some (a, .inr (.byte, vs))) (hj : ¬ j < 0) (hlt : j.toNatClampNeg < vs.length) (hx' : (nar .byte x) = x') (hL' : L.set i (a, .inr (.byte, vs.set j.toNatClampNeg (.int x'))) = L') (k : ∀ T', Here p l e R s m args below meth c Z a0 tbl own nm bc mxl rt n0 T' L' cells slots → Go p e below F (T'.setTop (mkF m q Ls st))) : Go p e below F (T.setTop (mkF m pc Ls (.int x :: .int j :: .ref a :: st))) := by
  obtain ⟨⟨hx, hZ, hown, hby, hml, hww, hnm, hrt, hlk⟩, locs, X, N, Z0, P⟩ := id A
  have I := P.1 _ (List.mem_of_getElem? hL)
  obtain ⟨cl, Ar, r1, r2, r3, r4⟩ := id I.2
  obtain ⟨T', h', X', e', W, st'⟩ := stB X hx hZ rfl Ar (j := j) (x := x) (fun q => q.elim hj (fun q => by rw [r1] at q; simp at q; omega)) (g := mkF m pc Ls (.int x :: .int j :: .ref a :: st)) rfl rfl (hb hby hd)
  subst hq hL' e' hx'
  exact Go.st st' (k T' ⟨A.1, _, X', Fr.snoc X' N I.1, by rw [W.size]; exact Z0, P.set W hL (Ara.put (show Ara Z T.heap a .byte vs from I.2) W (fits_nar_byte _))⟩)
theorem Here.bastoreZ (A : Here p l e R s m args below meth c Z a0 tbl own nm bc mxl rt n0 T L cells slots) {pc q i : Nat} {Ls : Array Slot} {st : List Value} {a : Addr} {j : Int32} {x x' : Int32} {vs : List Value} {L' : Obs} (hd : decode bc pc = .ok (.bastore, 1)) (hq : pc + 1 = q) (hL : L[i]? = some (a, .inr (.boolean, vs))) (hj : ¬ j < 0) (hlt : j.toNatClampNeg < vs.length) (hx' : (nar .boolean x) = x') (hL' : L.set i (a, .inr (.boolean, vs.set j.toNatClampNeg (.int x'))) = L') (k : ∀ T', Here p l e R s m args below meth c Z a0 tbl own nm bc mxl rt n0 T' L' cells slots → Go p e below F (T'.setTop (mkF m q Ls st))) : Go p e below F (T.setTop (mkF m pc Ls (.int x :: .int j :: .ref a :: st))) := by
  obtain ⟨⟨hx, hZ, hown, hby, hml, hww, hnm, hrt, hlk⟩, locs, X, N, Z0, P⟩ := id A
  have I := P.1 _ (List.mem_of_getElem? hL)
  obtain ⟨cl, Ar, r1, r2, r3, r4⟩ := id I.2
  obtain ⟨T', h', X', e', W, st'⟩ := stZ X hx hZ rfl Ar (j := j) (x := x) (fun q => q.elim hj (fun q => by rw [r1] at q; simp at q; omega)) (g := mkF m pc Ls (.int x :: .int j :: .ref a :: st)) rfl rfl (hb hby hd)
  subst hq hL' e' hx'
  exact Go.st st' (k T' ⟨A.1, _, X', Fr.snoc X' N I.1, by rw [W.size]; exact Z0, P.set W hL (Ara.put (show Ara Z T.heap a .boolean vs from I.2) W (fits_nar_bool _))⟩)
theorem Here.arraylength (A : Here p l e R s m args below meth c Z a0 tbl own nm bc mxl rt n0 T L cells slots) {pc q i : Nat} {Ls : Array Slot} {st : List Value} {a : Addr} {ty : FieldType} {vs : List Value} {v : Int32} (hd : decode bc pc = .ok (.arraylength, 1)) (hq : pc + 1 = q) (hL : L[i]? = some (a, .inr (ty, vs))) (hv : vs.length.toInt32 = v) (k : Go p e below F (T.setTop (mkF m q Ls (.int v :: st)))) : Go p e below F (T.setTop (mkF m pc Ls (.ref a :: st))) := by
  obtain ⟨⟨hx, hZ, hown, hby, hml, hww, hnm, hrt, hlk⟩, locs, X, N, Z0, P⟩ := id A
  obtain ⟨cl, Ar, r1, r2, r3, r4⟩ := (P.1 _ (List.mem_of_getElem? hL)).2
  have hn : cl.slots.size = vs.length := by rw [r1]; simp
  subst hq hv
  exact Go.st (fun t h => X.arraylength hx Ar.1 (State.isArrayOf_alike hZ.alike Ar.2.1) (g := mkF m pc Ls (.ref a :: st)) rfl rfl (hb hby hd) t (by rw [hn]; exact h)) k
theorem Here.castArr (A : Here p l e R s m args below meth c Z a0 tbl own nm bc mxl rt n0 T L cells slots) {pc q i w index : Nat} {Ls : Array Slot} {st : List Value} {a : Addr} {ty : FieldType} {vs : List Value} {K : String} (hd : decode bc pc = .ok (.checkcast index, 3)) (hq : pc + 3 = q) (hw : tbl[w]? = some (Jvm.Cond.classLink own index K)) (hL : L[i]? = some (a, .inr (ty, vs))) (hK : "[" ++ ty.toString = K) (k : ∀ T', Here p l e R s m args below meth c Z a0 tbl own nm bc mxl rt n0 T' L cells slots → Go p e below F (T'.setTop (mkF m q Ls (.ref a :: st)))) : Go p e below F (T.setTop (mkF m pc Ls (.ref a :: st))) := by
  obtain ⟨⟨hx, hZ, hown, hby, hml, hww, hnm, hrt, hlk⟩, locs, X, N, Z0, P⟩ := id A
  obtain ⟨cl, Ar, r1, r2, r3, r4⟩ := (P.1 _ (List.mem_of_getElem? hL)).2
  subst hK hq
  obtain ⟨T', X', e', st'⟩ := castY X hx hZ hown (hww _ (List.mem_of_getElem? hw)) rfl (Ins.self r4) (g := mkF m pc Ls (.ref a :: st)) rfl rfl (hb hby hd)
  exact Go.st st' (k T' ⟨A.1, locs, X', N, by rw [e']; exact Z0, by rw [e']; exact P⟩)
theorem Here.clone (A : Here p l e R s m args below meth c Z a0 tbl own nm bc mxl rt n0 T L cells slots) {pc q i index W w1 w2 w3 w4 w5 w6 cap : Nat} {Ls : Array Slot} {st : List Value} {a : Addr} {ty : FieldType} {vs : List Value} {ad : String} (hd : decode bc pc = .ok (.invokevirtual index, 3)) (hq : pc + 3 = q) (hL : L[i]? = some (a, .inr (ty, vs))) (hK : "[" ++ ty.toString = ad)
    (h1 : tbl[w1]? = some (Jvm.Cond.methodLink own index ⟨ad, "clone", "()Ljava/lang/Object;"⟩)) (h2 : tbl[w2]? = some (Jvm.Cond.sameMethod ad "java/lang/Object" "clone" "()Ljava/lang/Object;")) (h3 : tbl[w3]? = some (Jvm.Cond.native ⟨"java/lang/Object", "clone", "()Ljava/lang/Object;"⟩)) (h4 : tbl[w4]? = some (Jvm.Cond.instanceMethod ⟨"java/lang/Object", "clone", "()Ljava/lang/Object;"⟩)) (h5 : tbl[w5]? = some (Jvm.Cond.selects ad ⟨ad, "clone", "()Ljava/lang/Object;"⟩ ⟨"java/lang/Object", "clone", "()Ljava/lang/Object;"⟩)) (h6 : tbl[w6]? = some (Jvm.Cond.castable ad "java/lang/Cloneable"))
    (hsz : Ls.size = mxl) (hW : (st.map fun v => v.category).sum = W) (hf : 1 ≤ R.frames) (hl : W + 14 ≤ R.locals) (hcap : vs.length ≤ cap) (hc : cells + 1 ≤ R.cells) (hs : slots + cap ≤ R.slots)
    (k : ∀ T' b, Here p l e R s m args below meth c Z a0 tbl own nm bc mxl rt n0 T' ((b, .inr (ty, vs)) :: L) (cells + 1) (slots + cap) → Go p e below F (T'.setTop (mkF m q Ls (.ref b :: st)))) : Go p e below F (T.setTop (mkF m pc Ls (.ref a :: st))) := by
  obtain ⟨⟨hx, hZ, hown, hby, hml, hww, hnm, hrt, hlk⟩, locs, X, N, Z0, P⟩ := id A
  obtain ⟨cl, Ar, r1, r2, r3, r4⟩ := (P.1 _ (List.mem_of_getElem? hL)).2
  subst hK hq
  have hn : cl.slots.size = vs.length := by rw [r1]; simp
  have FC : FitC Z cl := fitC_of Ar fun i hi v hv => r3 v (by rw [r1] at hv; exact List.mem_of_getElem? (by simpa using hv))
  obtain ⟨T', h', X', e', E, Ar', Ex, st'⟩ := cloneA X hx hZ hown (hww _ (List.mem_of_getElem? h1)) (hww _ (List.mem_of_getElem? h2)) (hww _ (List.mem_of_getElem? h3)) (hww _ (List.mem_of_getElem? h4)) (hww _ (List.mem_of_getElem? h5)) (hww _ (List.mem_of_getElem? h6)) rfl Ar r4 FC (g := mkF m pc Ls (.ref a :: st)) rfl (by rw [hml]; exact hsz) rfl (hb hby hd) hf (W := W) (cap := cap) (by show 2 * 0 + _ ≤ _; omega) hl (by omega) hc hs
  subst e'
  exact Go.st st' (k T' _ ⟨A.1, locs, X', N, Nat.le_trans Z0 E.1, P.new E Z0 ⟨_, Ar', r1, r2, r3, Ex⟩⟩)
theorem Here.initObj (A : Here p l e R s m args below meth c Z a0 tbl own nm bc mxl rt n0 T L cells slots) {pc q index w1 w2 w3 W : Nat} {Ls : Array Slot} {st : List Value} {a : Addr} (hd : decode bc pc = .ok (.invokespecial index, 3)) (hq : pc + 3 = q) (h1 : tbl[w1]? = some (Jvm.Cond.methodLink own index Lib.objectInit)) (h2 : tbl[w2]? = some (Jvm.Cond.instanceMethod Lib.objectInit)) (h3 : tbl[w3]? = some (Jvm.Cond.code Lib.objectInit ⟨#[0xb1]⟩ 1 none)) (hsz : Ls.size = mxl) (hW : (st.map fun v => v.category).sum = W) (hf : 1 ≤ R.frames) (hl : W + 12 ≤ R.locals) (k : ∀ T', Here p l e R s m args below meth c Z a0 tbl own nm bc mxl rt n0 T' L cells slots → Go p e below F (T'.setTop (mkF m q Ls st))) : Go p e below F (T.setTop (mkF m pc Ls (.ref a :: st))) := by
  obtain ⟨⟨hx, hZ, hown, hby, hml, hww, hnm, hrt, hlk⟩, locs, X, N, Z0, P⟩ := id A
  subst hq
  obtain ⟨T', X', e', st'⟩ := initO X hx hZ hown (hww _ (List.mem_of_getElem? h1)) (hww _ (List.mem_of_getElem? h2)) (hww _ (List.mem_of_getElem? h3)) rfl (g := mkF m pc Ls (.ref a :: st)) rfl (by rw [hml]; exact hsz) rfl (hb hby hd) hf (W := W) (by show 2 * 0 + _ ≤ _; omega) hl
  exact Go.st st' (k T' ⟨A.1, locs, X', N, by rw [e']; exact Z0, by rw [e']; exact P⟩)
theorem Here.front (A : Here p l e R s m args below meth c Z a0 tbl own nm bc mxl rt n0 T L cells slots) {i : Nat} {x : Addr × Ob} {L' : Obs} (hi : L[i]? = some x) (hL' : x :: L.eraseIdx i = L') : Here p l e R s m args below meth c Z a0 tbl own nm bc mxl rt n0 T L' cells slots := by
  obtain ⟨⟨hx, hZ, hown, hby, hml, hww, hnm, hrt, hlk⟩, locs, X, N, Z0, P⟩ := id A
  subst hL'
  exact ⟨A.1, locs, X, N, Z0, P.front hi⟩
theorem Here.ne (A : Here p l e R s m args below meth c Z a0 tbl own nm bc mxl rt n0 T L cells slots) {i j : Nat} {a b : Addr} {x y : Ob} (hi : L[i]? = some (a, x)) (hj : L[j]? = some (b, y)) (hn : i ≠ j) : a ≠ b := by
  obtain ⟨⟨hx, hZ, hown, hby, hml, hww, hnm, hrt, hlk⟩, locs, X, N, Z0, P⟩ := id A
  exact P.ne hi hj hn

theorem Here.ialoadM (A : Here p l e R s m args below meth c Z a0 tbl own nm bc mxl rt n0 T L cells slots) {pc q i : Nat} {Ls : Array Slot} {st : List Value} {a : Addr} {j : Int32} {xs : List Int32} {v : Int32} (hd : decode bc pc = .ok (.iaload, 1)) (hq : pc + 1 = q) (hL : L[i]? = some (a, .inr (.int, xs.map Value.int))) (hj : ¬ j < 0) (hv : xs[j.toNatClampNeg]? = some v) (k : Go p e below F (T.setTop (mkF m q Ls (Value.int v :: st)))) : Go p e below F (T.setTop (mkF m pc Ls (.int j :: .ref a :: st))) :=
  A.iaload hd hq hL hj (by rw [List.getElem?_map, hv]; rfl) k
theorem Here.laloadM (A : Here p l e R s m args below meth c Z a0 tbl own nm bc mxl rt n0 T L cells slots) {pc q i : Nat} {Ls : Array Slot} {st : List Value} {a : Addr} {j : Int32} {xs : List Int64} {v : Int64} (hd : decode bc pc = .ok (.laload, 1)) (hq : pc + 1 = q) (hL : L[i]? = some (a, .inr (.long, xs.map Value.long))) (hj : ¬ j < 0) (hv : xs[j.toNatClampNeg]? = some v) (k : Go p e below F (T.setTop (mkF m q Ls (Value.long v :: st)))) : Go p e below F (T.setTop (mkF m pc Ls (.int j :: .ref a :: st))) :=
  A.laload hd hq hL hj (by rw [List.getElem?_map, hv]; rfl) k
theorem Here.baloadBM (A : Here p l e R s m args below meth c Z a0 tbl own nm bc mxl rt n0 T L cells slots) {pc q i : Nat} {Ls : Array Slot} {st : List Value} {a : Addr} {j : Int32} {xs : List Int32} {v : Int32} (hd : decode bc pc = .ok (.baload, 1)) (hq : pc + 1 = q) (hL : L[i]? = some (a, .inr (.byte, xs.map Value.int))) (hj : ¬ j < 0) (hv : xs[j.toNatClampNeg]? = some v) (k : Go p e below F (T.setTop (mkF m q Ls (Value.int v :: st)))) : Go p e below F (T.setTop (mkF m pc Ls (.int j :: .ref a :: st))) :=
  A.baloadB hd hq hL hj (by rw [List.getElem?_map, hv]; rfl) k
theorem Here.baloadZM (A : Here p l e R s m args below meth c Z a0 tbl own nm bc mxl rt n0 T L cells slots) {pc q i : Nat} {Ls : Array Slot} {st : List Value} {a : Addr} {j : Int32} {xs : List Int32} {v : Int32} (hd : decode bc pc = .ok (.baload, 1)) (hq : pc + 1 = q) (hL : L[i]? = some (a, .inr (.boolean, xs.map Value.int))) (hj : ¬ j < 0) (hv : xs[j.toNatClampNeg]? = some v) (k : Go p e below F (T.setTop (mkF m q Ls (Value.int v :: st)))) : Go p e below F (T.setTop (mkF m pc Ls (.int j :: .ref a :: st))) :=
  A.baloadZ hd hq hL hj (by rw [List.getElem?_map, hv]; rfl) k
theorem Here.iastoreM (A : Here p l e R s m args below meth c Z a0 tbl own nm bc mxl rt n0 T L cells slots) {pc q i : Nat} {Ls : Array Slot} {st : List Value} {a : Addr} {j : Int32} {x x' : Int32} {xs : List Int32} {L' : Obs} (hd : decode bc pc = .ok (.iastore, 1)) (hq : pc + 1 = q) (hL : L[i]? = some (a, .inr (.int, xs.map Value.int))) (hj : ¬ j < 0) (hlt : j.toNatClampNeg < xs.length) (hx' : x = x') (hL' : L.set i (a, .inr (.int, (xs.set j.toNatClampNeg x').map Value.int)) = L') (k : ∀ T', Here p l e R s m args below meth c Z a0 tbl own nm bc mxl rt n0 T' L' cells slots → Go p e below F (T'.setTop (mkF m q Ls st))) : Go p e below F (T.setTop (mkF m pc Ls (Value.int x :: .int j :: .ref a :: st))) :=
  A.iastore hd hq hL hj (by rw [List.length_map]; exact hlt) hx' (by rw [← hL', List.map_set]) k
theorem Here.lastoreM (A : Here p l e R s m args below meth c Z a0 tbl own nm bc mxl rt n0 T L cells slots) {pc q i : Nat} {Ls : Array Slot} {st : List Value} {a : Addr} {j : Int32} {x x' : Int64} {xs : List Int64} {L' : Obs} (hd : decode bc pc = .ok (.lastore, 1)) (hq : pc + 1 = q) (hL : L[i]? = some (a, .inr (.long, xs.map Value.long))) (hj : ¬ j < 0) (hlt : j.toNatClampNeg < xs.length) (hx' : x = x') (hL' : L.set i (a, .inr (.long, (xs.set j.toNatClampNeg x').map Value.long)) = L') (k : ∀ T', Here p l e R s m args below meth c Z a0 tbl own nm bc mxl rt n0 T' L' cells slots → Go p e below F (T'.setTop (mkF m q Ls st))) : Go p e below F (T.setTop (mkF m pc Ls (Value.long x :: .int j :: .ref a :: st))) :=
  A.lastore hd hq hL hj (by rw [List.length_map]; exact hlt) hx' (by rw [← hL', List.map_set]) k
theorem Here.bastoreBM (A : Here p l e R s m args below meth c Z a0 tbl own nm bc mxl rt n0 T L cells slots) {pc q i : Nat} {Ls : Array Slot} {st : List Value} {a : Addr} {j : Int32} {x x' : Int32} {xs : List Int32} {L' : Obs} (hd : decode bc pc = .ok (.bastore, 1)) (hq : pc + 1 = q) (hL : L[i]? = some (a, .inr (.byte, xs.map Value.int))) (hj : ¬ j < 0) (hlt : j.toNatClampNeg < xs.length) (hx' : (nar .byte x) = x') (hL' : L.set i (a, .inr (.byte, (xs.set j.toNatClampNeg x').map Value.int)) = L') (k : ∀ T', Here p l e R s m args below meth c Z a0 tbl own nm bc mxl rt n0 T' L' cells slots → Go p e below F (T'.setTop (mkF m q Ls st))) : Go p e below F (T.setTop (mkF m pc Ls (Value.int x :: .int j :: .ref a :: st))) :=
  A.bastoreB hd hq hL hj (by rw [List.length_map]; exact hlt) hx' (by rw [← hL', List.map_set]) k
theorem Here.bastoreZM (A : Here p l e R s m args below meth c Z a0 tbl own nm bc mxl rt n0 T L cells slots) {pc q i : Nat} {Ls : Array Slot} {st : List Value} {a : Addr} {j : Int32} {x x' : Int32} {xs : List Int32} {L' : Obs} (hd : decode bc pc = .ok (.bastore, 1)) (hq : pc + 1 = q) (hL : L[i]? = some (a, .inr (.boolean, xs.map Value.int))) (hj : ¬ j < 0) (hlt : j.toNatClampNeg < xs.length) (hx' : (nar .boolean x) = x') (hL' : L.set i (a, .inr (.boolean, (xs.set j.toNatClampNeg x').map Value.int)) = L') (k : ∀ T', Here p l e R s m args below meth c Z a0 tbl own nm bc mxl rt n0 T' L' cells slots → Go p e below F (T'.setTop (mkF m q Ls st))) : Go p e below F (T.setTop (mkF m pc Ls (Value.int x :: .int j :: .ref a :: st))) :=
  A.bastoreZ hd hq hL hj (by rw [List.length_map]; exact hlt) hx' (by rw [← hL', List.map_set]) k
theorem Here.arraylengthM (A : Here p l e R s m args below meth c Z a0 tbl own nm bc mxl rt n0 T L cells slots) {pc q i : Nat} {Ls : Array Slot} {st : List Value} {a : Addr} {ty : FieldType} {α : Type} {f : α → Value} {xs : List α} {v : Int32} (hd : decode bc pc = .ok (.arraylength, 1)) (hq : pc + 1 = q) (hL : L[i]? = some (a, .inr (ty, xs.map f))) (hv : xs.length.toInt32 = v) (k : Go p e below F (T.setTop (mkF m q Ls (.int v :: st)))) : Go p e below F (T.setTop (mkF m pc Ls (.ref a :: st))) :=
  A.arraylength hd hq hL (by rw [List.length_map]; exact hv) k
theorem own_gd {α : Type} {xs : List α} {n : Nat} {d : α} (h : n < xs.length) : xs[n]? = some (xs.getD n d) := by simp [List.getD, h]
theorem Here.callS (A : Here p l e R s m args below meth c Z a0 tbl own nm bc mxl rt n0 T L cells slots) {pc q index W w1 w2 w3 w4 : Nat} {Ls : Array Slot} {st stk : List Value} {y : MethodName} {bytes : ByteArray} {ml : Nat} {rt' : Option FieldType} {rm : Room} {as : List Value} {Q : Option Value → Obs → Prop} (hd : decode bc pc = .ok (.invokestatic index, 3)) (hq : pc + 3 = q) (h1 : tbl[w1]? = some (Jvm.Cond.methodLink own index y)) (h2 : tbl[w2]? = some (Jvm.Cond.static y)) (h3 : tbl[w3]? = some (Jvm.Cond.initialized y.cls)) (h4 : tbl[w4]? = some (Jvm.Cond.code y bytes ml rt')) (hT : Triple l Z n0 y bytes ml rt' rm rm.cells rm.slots as L Q) (hy : y.cls ≠ "java/lang/invoke/MethodHandle" ∧ y.cls ≠ "java/lang/invoke/VarHandle") (hlen : ∃ ps r, parseMethodDescriptor y.desc = some ⟨ps, r⟩ ∧ as.length = ps.length) (hst : stk = as.reverse ++ st) (hsz : Ls.size = mxl) (hW : (st.map fun v => v.category).sum = W) (hf : rm.frames + 1 ≤ R.frames) (hl : W + (ml + 11) + rm.locals ≤ R.locals) (hc : cells + rm.cells ≤ R.cells) (hs : slots + rm.slots ≤ R.slots)
    (k : ∀ v T' L', Q v L' → Here p l e R s m args below meth c Z a0 tbl own nm bc mxl rt n0 T' L' (cells + rm.cells) (slots + rm.slots) → Go p e below F (T'.setTop (mkF m q Ls (v.toList ++ st)))) : Go p e below F (T.setTop (mkF m pc Ls stk)) := by
  obtain ⟨⟨hx, hZ, hown, hby, hml, hww, hnm, hrt, hlk⟩, locs, X, N, Z0, P⟩ := id A
  obtain ⟨ps, r, hps, hle⟩ := hlen
  subst hst hq
  obtain ⟨v, _, ⟨T1, L1, k1, n1⟩, -, X1, ⟨Lc, hQ, l1, y1, z1⟩, st1⟩ := Jvm.LawKit.callS X hx (y := y) hown (mvT hZ (hww _ (List.mem_of_getElem? h1))) (mvT hZ (hww _ (List.mem_of_getElem? h2))) (mvT hZ (hww _ (List.mem_of_getElem? h3))) (mvT hZ (hww _ (List.mem_of_getElem? h4))) hy (backOf (W := W) (Q := fun v h Lc => Fr n0 Lc ∧ n0 ≤ h.size ∧ ∃ L', Q v L' ∧ Pic Z n0 h L') (hT T.heap [] Z0 P) hZ (hww _ (List.mem_of_getElem? h4)) (hww _ (List.mem_of_getElem? h3)) hf hl) (g := mkF m pc Ls (as.reverse ++ st)) rfl (by rw [hml]; exact hsz) (argsL := as) (rest := st) (lenOf hps hle) rfl (by show 2 * 0 + _ ≤ _; omega) (hb hby hd) (fun _ _ => ⟨rfl, rfl, hc, hs⟩)
  dsimp only [Pt.U, Pt.locs, Pt.cells, Pt.slots] at X1 l1 y1 z1 st1 hQ
  subst l1 y1 z1
  obtain ⟨Nq, Zq, L', q, Pq⟩ := hQ
  exact Go.st st1 (k v T1 L' q ⟨A.1, _, X1, N.app Nq, Zq, Pq⟩)
theorem Here.callI (A : Here p l e R s m args below meth c Z a0 tbl own nm bc mxl rt n0 T L cells slots) {pc q index W w1 w2 w3 w4 : Nat} {Ls : Array Slot} {st stk : List Value} {a : Addr} {y : MethodName} {bytes : ByteArray} {ml : Nat} {rm : Room} {as : List Value} {Q : Option Value → Obs → Prop} (hd : decode bc pc = .ok (.invokespecial index, 3)) (hq : pc + 3 = q) (hy1 : y.name = "<init>") (h1 : tbl[w1]? = some (Jvm.Cond.methodLink own index y)) (h2 : tbl[w2]? = some (Jvm.Cond.instanceMethod y)) (h3 : tbl[w3]? = some (Jvm.Cond.initialized y.cls)) (h4 : tbl[w4]? = some (Jvm.Cond.code y bytes ml none)) (hT : Triple l Z n0 y bytes ml none rm rm.cells rm.slots (.ref a :: as) L Q) (hy : y.cls ≠ "java/lang/invoke/MethodHandle" ∧ y.cls ≠ "java/lang/invoke/VarHandle") (hlen : ∃ ps r, parseMethodDescriptor y.desc = some ⟨ps, r⟩ ∧ as.length = ps.length) (hst : stk = as.reverse ++ .ref a :: st) (hsz : Ls.size = mxl) (hW : (st.map fun v => v.category).sum = W) (hf : rm.frames + 1 ≤ R.frames) (hl : W + (ml + 11) + rm.locals ≤ R.locals) (hc : cells + rm.cells ≤ R.cells) (hs : slots + rm.slots ≤ R.slots)
    (k : ∀ v T' L', Q v L' → Here p l e R s m args below meth c Z a0 tbl own nm bc mxl rt n0 T' L' (cells + rm.cells) (slots + rm.slots) → Go p e below F (T'.setTop (mkF m q Ls (v.toList ++ st)))) : Go p e below F (T.setTop (mkF m pc Ls stk)) := by
  obtain ⟨⟨hx, hZ, hown, hby, hml, hww, hnm, hrt, hlk⟩, locs, X, N, Z0, P⟩ := id A
  obtain ⟨ps, r, hps, hle⟩ := hlen
  subst hst hq
  obtain ⟨v, _, ⟨T1, L1, k1, n1⟩, -, X1, ⟨Lc, hQ, l1, y1, z1⟩, st1⟩ := X.specialBack hx (y := y) hy1 hown (mvT hZ (hww _ (List.mem_of_getElem? h1))) (mvT hZ (hww _ (List.mem_of_getElem? h2))) (mvT hZ (hww _ (List.mem_of_getElem? h4))) hy (backOf (W := W) (Q := fun v h Lc => Fr n0 Lc ∧ n0 ≤ h.size ∧ ∃ L', Q v L' ∧ Pic Z n0 h L') (hT T.heap [] Z0 P) hZ (hww _ (List.mem_of_getElem? h4)) (hww _ (List.mem_of_getElem? h3)) hf hl) (g := mkF m pc Ls (as.reverse ++ .ref a :: st)) rfl (by rw [hml]; exact hsz) (Steps.refl _) (a := a) (argsL := as) (rest := st) (lenOf hps hle) rfl (by show 2 * 0 + _ ≤ _; omega) (hb hby hd) (fun _ _ => ⟨rfl, rfl, hc, hs⟩)
  dsimp only [Pt.U, Pt.locs, Pt.cells, Pt.slots] at X1 l1 y1 z1 st1 hQ
  subst l1 y1 z1
  obtain ⟨Nq, Zq, L', q, Pq⟩ := hQ
  exact Go.st (fun t h => st1.trans h) (k v T1 L' q ⟨A.1, _, X1, N.app Nq, Zq, Pq⟩)
theorem Here.callV (A : Here p l e R s m args below meth c Z a0 tbl own nm bc mxl rt n0 T L cells slots) {pc q index W i w1 w2 w3 w4 w5 w6 : Nat} {Ls : Array Slot} {st stk : List Value} {a : Addr} {C : String} {fs : List ((String × String × String) × Value)} {y : MethodName} {bytes : ByteArray} {ml : Nat} {rt' : Option FieldType} {rm : Room} {as : List Value} {Q : Option Value → Obs → Prop} (hd : decode bc pc = .ok (.invokevirtual index, 3)) (hq : pc + 3 = q) (hL : L[i]? = some (a, .inl (C, fs))) (h1 : tbl[w1]? = some (Jvm.Cond.methodLink own index y)) (h2 : tbl[w2]? = some (Jvm.Cond.declares y)) (h5 : tbl[w5]? = some (Jvm.Cond.selects C y y)) (h6 : tbl[w6]? = some (Jvm.Cond.instanceMethod y)) (h3 : tbl[w3]? = some (Jvm.Cond.initialized y.cls)) (h4 : tbl[w4]? = some (Jvm.Cond.code y bytes ml rt')) (hT : Triple l Z n0 y bytes ml rt' rm rm.cells rm.slots (.ref a :: as) L Q) (hy : y.cls ≠ "java/lang/invoke/MethodHandle" ∧ y.cls ≠ "java/lang/invoke/VarHandle") (hlen : ∃ ps r, parseMethodDescriptor y.desc = some ⟨ps, r⟩ ∧ as.length = ps.length) (hst : stk = as.reverse ++ .ref a :: st) (hsz : Ls.size = mxl) (hW : (st.map fun v => v.category).sum = W) (hf : rm.frames + 1 ≤ R.frames) (hl : W + (ml + 11) + rm.locals ≤ R.locals) (hc : cells + rm.cells ≤ R.cells) (hs : slots + rm.slots ≤ R.slots)
    (k : ∀ v T' L', Q v L' → Here p l e R s m args below meth c Z a0 tbl own nm bc mxl rt n0 T' L' (cells + rm.cells) (slots + rm.slots) → Go p e below F (T'.setTop (mkF m q Ls (v.toList ++ st)))) : Go p e below F (T.setTop (mkF m pc Ls stk)) := by
  obtain ⟨⟨hx, hZ, hown, hby, hml, hww, hnm, hrt, hlk⟩, locs, X, N, Z0, P⟩ := id A
  obtain ⟨ps, r, hps, hle⟩ := hlen
  subst hst hq
  obtain ⟨cq, kq, qa, qb, qc⟩ := isOf (T := T) hZ rfl (P.1 _ (List.mem_of_getElem? hL)).2.1
  obtain ⟨v, _, ⟨T1, L1, k1, n1⟩, -, X1, ⟨Lc, hQ, l1, y1, z1⟩, st1⟩ := X.virtualBack hx (y := y) (z := y) hown (mvT hZ (hww _ (List.mem_of_getElem? h1))) (mvT hZ (hww _ (List.mem_of_getElem? h2))) (notFace_of_selects (args := #[]) (mvT hZ (hww _ (List.mem_of_getElem? h5)))) (mvT hZ (hww _ (List.mem_of_getElem? h5))) (mvT hZ (hww _ (List.mem_of_getElem? h6))) hy (backOf (W := W) (Q := fun v h Lc => Fr n0 Lc ∧ n0 ≤ h.size ∧ ∃ L', Q v L' ∧ Pic Z n0 h L') (hT T.heap [] Z0 P) hZ (hww _ (List.mem_of_getElem? h4)) (hww _ (List.mem_of_getElem? h3)) hf hl) qa qc (g := mkF m pc Ls (as.reverse ++ .ref a :: st)) rfl (by rw [hml]; exact hsz) (Steps.refl _) (argsL := as) (rest := st) (lenOf hps hle) rfl (by show 2 * 0 + _ ≤ _; omega) (hb hby hd) (fun _ _ => ⟨rfl, rfl, hc, hs⟩)
  dsimp only [Pt.U, Pt.locs, Pt.cells, Pt.slots] at X1 l1 y1 z1 st1 hQ
  subst l1 y1 z1
  obtain ⟨Nq, Zq, L', q, Pq⟩ := hQ
  exact Go.st (fun t h => st1.trans h) (k v T1 L' q ⟨A.1, _, X1, N.app Nq, Zq, Pq⟩)

theorem Here.callP (A : Here p l e R s m args below meth c Z a0 tbl own nm bc mxl rt n0 T L cells slots) {pc q index W i w1 w2 w3 w4 w5 w6 kk : Nat} {Ls : Array Slot} {st stk : List Value} {a : Addr} {C : String} {fs : List ((String × String × String) × Value)} {y : MethodName} {bytes : ByteArray} {ml : Nat} {rt' : Option FieldType} {rm : Room} {as : List Value} {Q : Option Value → Obs → Prop} (hd : decode bc pc = .ok (.invokevirtual index, 3)) (hq : pc + 3 = q) (hL : L[i]? = some (a, .inl (C, fs))) (h1 : tbl[w1]? = some (Jvm.Cond.methodLink own index y)) (h2 : tbl[w2]? = some (Jvm.Cond.privateMethod y)) (h5 : tbl[w5]? = some (Jvm.Cond.instantiable y.cls kk)) (h6 : tbl[w6]? = some (Jvm.Cond.instanceMethod y)) (h3 : tbl[w3]? = some (Jvm.Cond.initialized y.cls)) (h4 : tbl[w4]? = some (Jvm.Cond.code y bytes ml rt')) (hT : Triple l Z n0 y bytes ml rt' rm rm.cells rm.slots (.ref a :: as) L Q) (hy : y.cls ≠ "java/lang/invoke/MethodHandle" ∧ y.cls ≠ "java/lang/invoke/VarHandle") (hlen : ∃ ps r, parseMethodDescriptor y.desc = some ⟨ps, r⟩ ∧ as.length = ps.length) (hst : stk = as.reverse ++ .ref a :: st) (hsz : Ls.size = mxl) (hW : (st.map fun v => v.category).sum = W) (hf : rm.frames + 1 ≤ R.frames) (hl : W + (ml + 11) + rm.locals ≤ R.locals) (hc : cells + rm.cells ≤ R.cells) (hs : slots + rm.slots ≤ R.slots)
    (k : ∀ v T' L', Q v L' → Here p l e R s m args below meth c Z a0 tbl own nm bc mxl rt n0 T' L' (cells + rm.cells) (slots + rm.slots) → Go p e below F (T'.setTop (mkF m q Ls (v.toList ++ st)))) : Go p e below F (T.setTop (mkF m pc Ls stk)) := by
  obtain ⟨⟨hx, hZ, hown, hby, hml, hww, hnm, hrt, hlk⟩, locs, X, N, Z0, P⟩ := id A
  obtain ⟨ps, r, hps, hle⟩ := hlen
  subst hst hq
  have hp : s.PrivateAt y := Cond.privateMethod_at (mvP hZ (hww _ (List.mem_of_getElem? h2)) (args := #[]))
  have hin : (Jvm.Cond.instanceMethod y).before args s = true := mvT hZ (hww _ (List.mem_of_getElem? h6))
  have hit : (Jvm.Cond.instantiable y.cls kk).before args s = true := mvT hZ (hww _ (List.mem_of_getElem? h5))
  obtain ⟨cI, kI, i1, i2, -, i4, -⟩ := Cond.instantiable_spec hit
  have hni : kI.isInterface = false := by simp only [Bool.or_eq_false_iff] at i4; exact i4.1
  have hsel := selects_self_of_private (args := args) i1 i2 hni hp hin hy
  obtain ⟨cq, q1, q2⟩ := (P.1 _ (List.mem_of_getElem? hL)).2.1.cell
  obtain ⟨v, _, ⟨T1, L1, k1, n1⟩, -, X1, ⟨Lc, hQ, l1, y1, z1⟩, st1⟩ := X.privateBack hx (y := y) hown (mvT hZ (hww _ (List.mem_of_getElem? h1))) hin hsel hp (mvT hZ (hww _ (List.mem_of_getElem? h4))) hy (backOf (W := W) (Q := fun v h Lc => Fr n0 Lc ∧ n0 ≤ h.size ∧ ∃ L', Q v L' ∧ Pic Z n0 h L') (hT T.heap [] Z0 P) hZ (hww _ (List.mem_of_getElem? h4)) (hww _ (List.mem_of_getElem? h3)) hf hl) (g := mkF m pc Ls (as.reverse ++ .ref a :: st)) rfl (by rw [hml]; exact hsz) (Steps.refl _) (a := a) q1 q2 (argsL := as) (rest := st) (lenOf hps hle) rfl (by show 2 * 0 + _ ≤ _; omega) (hb hby hd) (fun _ _ => ⟨rfl, rfl, hc, hs⟩)
  dsimp only [Pt.U, Pt.locs, Pt.cells, Pt.slots] at X1 l1 y1 z1 st1 hQ
  subst l1 y1 z1
  obtain ⟨Nq, Zq, L', q, Pq⟩ := hQ
  exact Go.st (fun t h => st1.trans h) (k v T1 L' q ⟨A.1, _, X1, N.app Nq, Zq, Pq⟩)
theorem Here.pop2L (A : Here p l e R s m args below meth c Z a0 tbl own nm bc mxl rt n0 T L cells slots) {pc q : Nat} {Ls : Array Slot} {st : List Value} {x : Int64} (hd : decode bc pc = .ok (.pop2, 1)) (hq : pc + 1 = q) (k : Go p e below F (T.setTop (mkF m q Ls st))) : Go p e below F (T.setTop (mkF m pc Ls (.long x :: st))) := by
  obtain ⟨⟨hx, hZ, hown, hby, hml, hww, hnm, hrt, hlk⟩, locs, X, N, Z0, P⟩ := id A
  subst hq
  have hd' := hb hby hd
  refine Go.st (fun t h => ?_) k
  show Steps p.tables e below (T.setTop { method := m, pc := pc, locals := Ls, stack := _ :: st, locked := none }) _
  jvm_step X.here [X.here.top, hx, hd', Value.category]
  exact h

theorem Here.copyAll (A : Here p l e R s m args below meth c Z a0 tbl own nm bc mxl rt n0 T L cells slots) {pc q index W w1 w2 w3 w4 i j : Nat} {Ls : Array Slot} {st : List Value} {a b : Addr} {ty : FieldType} {vs vd : List Value} {nn : Int32} {L' : Obs} (hd : decode bc pc = .ok (.invokestatic index, 3)) (hq : pc + 3 = q) (h1 : tbl[w1]? = some (Jvm.Cond.methodLink own index Jvm.Stand.acN)) (h2 : tbl[w2]? = some (Jvm.Cond.native Jvm.Stand.acN)) (h3 : tbl[w3]? = some (Jvm.Cond.static Jvm.Stand.acN)) (h4 : tbl[w4]? = some (Jvm.Cond.initialized "java/lang/System")) (hi : L[i]? = some (a, .inr (ty, vs))) (hj : L[j]? = some (b, .inr (ty, vd))) (hr : refKind ty = false) (hn : vd.length = vs.length) (hnn : vs.length.toInt32 = nn)
    (hsz : Ls.size = mxl) (hW : (st.map fun v => v.category).sum = W) (hf : 1 ≤ R.frames) (hlo : W + (nativeFrameWords "java/lang/System" "arraycopy" 5 + 11) ≤ R.locals) (hL' : L.set j (b, .inr (ty, vs)) = L') (k : ∀ T', Here p l e R s m args below meth c Z a0 tbl own nm bc mxl rt n0 T' L' cells slots → Go p e below F (T'.setTop (mkF m q Ls st))) : Go p e below F (T.setTop (mkF m pc Ls (.int nn :: .int 0 :: .ref b :: .int 0 :: .ref a :: st))) := by
  obtain ⟨⟨hx, hZ, hown, hby, hml, hww, hnm, hrt, hlk⟩, locs, X, N, Z0, P⟩ := id A
  have Ia := P.1 _ (List.mem_of_getElem? hi)
  have Ib := P.1 _ (List.mem_of_getElem? hj)
  have Ib2 : Ara Z T.heap b ty vd := Ib.2
  have Ia2 : Ara Z T.heap a ty vs := Ia.2
  obtain ⟨ka, VA, la, na⟩ := Ia2.toArv (defaultValue ty)
  obtain ⟨kb, VB, lb, nb⟩ := Ib2.toArv (defaultValue ty)
  rw [hn] at VB lb
  subst hq hnn hL'
  have z0 : (0 : Int32).toNatClampNeg = 0 := by decide
  obtain ⟨T', h', L1, X', e', N', K, V', st'⟩ := cpA X hx hZ hown (hww _ (List.mem_of_getElem? h1)) (hww _ (List.mem_of_getElem? h2)) (hww _ (List.mem_of_getElem? h3)) (hww _ (List.mem_of_getElem? h4)) rfl VA VB (Or.inl ⟨rfl, hr⟩) (sp := 0) (dp := 0) (by decide) (by decide) na (by rw [z0]; omega) (by rw [z0]; omega) rfl (by rw [z0]; omega) N Ib.1 (g := mkF m pc Ls (.int vs.length.toInt32 :: .int 0 :: .ref b :: .int 0 :: .ref a :: st)) rfl (by rw [hml]; exact hsz) rfl (hb hby hd) hf (W := W) (by show 2 * 0 + _ ≤ _; omega) hlo
  subst e'
  have ev : vd.take (0 : Int32).toNatClampNeg ++ (List.range vs.length.toInt32.toNatClampNeg).map (fun i => vs.getD ((0 : Int32).toNatClampNeg + i) (defaultValue ty)) ++ vd.drop ((0 : Int32).toNatClampNeg + vs.length.toInt32.toNatClampNeg) = vs := by
    rw [z0, la, List.take_zero, List.nil_append, List.drop_eq_nil_of_le (by omega), List.append_nil]
    refine List.ext_getElem? fun i => ?_
    by_cases hi' : i < vs.length
    · rw [List.getElem?_map, List.getElem?_range hi']; simp [List.getD_eq_getElem?_getD, hi']
    · rw [List.getElem?_eq_none (by simp; omega), List.getElem?_eq_none (by omega)]
  rw [ev] at V'
  obtain ⟨_, _, _, l31, _, Eb⟩ := Ib2
  exact Go.st st' (k T' ⟨A.1, L1, X', N', Nat.le_trans Z0 K.1, P.setK K hj (Arv.toAra V' la (by rw [hn] at l31; exact l31) (Eb.keep K))⟩)

theorem Here.retV  (A : Here p l e R s m args below meth c Z a0 tbl own nm bc mxl none n0 T L cells slots) {pc kc ks : Nat} {Ls : Array Slot} {Q : Option Value → Obs → Prop} (hd : decode bc pc = .ok (.return_, 1)) (hc : cells ≤ kc) (hs : slots ≤ ks) (hQ : Q none L) : Go p e below (EndS below s n0 Z kc ks Q) (T.setTop (mkF m pc Ls [])) := by
  obtain ⟨⟨hx, hZ, hown, hby, hml, hww, hnm, hrt, hlk⟩, locs, X, N, Z0, P⟩ := id A
  obtain ⟨fs, hr, hrun, hended, hW, hsame⟩ := X.leave (v := none) (fun _ => rfl)
  refine ⟨T.setFrames fs, ?_, _, hrun, hended, _, locs, rfl, ⟨N, Z0, L, hQ, P⟩, ⟨_, rfl⟩, hW, hsame.mono hc hs⟩
  exact X.returnOut hx hrt (hb hby hd) hr
theorem Here.retZ {x v : Int32} (A : Here p l e R s m args below meth c Z a0 tbl own nm bc mxl (some .boolean) n0 T L cells slots) {pc kc ks : Nat} {Ls : Array Slot} {st : List Value} {Q : Option Value → Obs → Prop} (hd : decode bc pc = .ok (.ireturn, 1)) (hv : nar .boolean x = v) (hc : cells ≤ kc) (hs : slots ≤ ks) (hQ : Q (some (.int v)) L) : Go p e below (EndS below s n0 Z kc ks Q) (T.setTop (mkF m pc Ls (.int x :: st))) := by
  obtain ⟨⟨hx, hZ, hown, hby, hml, hww, hnm, hrt, hlk⟩, locs, X, N, Z0, P⟩ := id A
  obtain ⟨fs, hr, hrun, hended, hW, hsame⟩ := X.leave (v := (some (.int v))) (fun h => by rw [hrt] at h; cases h)
  refine ⟨T.setFrames fs, ?_, _, hrun, hended, _, locs, rfl, ⟨N, Z0, L, hQ, P⟩, ⟨_, rfl⟩, hW, hsame.mono hc hs⟩
  subst hv; exact retN X hx (t := .boolean) hrt (by simp) (hb hby hd) hr
theorem Here.retB {x v : Int32} (A : Here p l e R s m args below meth c Z a0 tbl own nm bc mxl (some .byte) n0 T L cells slots) {pc kc ks : Nat} {Ls : Array Slot} {st : List Value} {Q : Option Value → Obs → Prop} (hd : decode bc pc = .ok (.ireturn, 1)) (hv : nar .byte x = v) (hc : cells ≤ kc) (hs : slots ≤ ks) (hQ : Q (some (.int v)) L) : Go p e below (EndS below s n0 Z kc ks Q) (T.setTop (mkF m pc Ls (.int x :: st))) := by
  obtain ⟨⟨hx, hZ, hown, hby, hml, hww, hnm, hrt, hlk⟩, locs, X, N, Z0, P⟩ := id A
  obtain ⟨fs, hr, hrun, hended, hW, hsame⟩ := X.leave (v := (some (.int v))) (fun h => by rw [hrt] at h; cases h)
  refine ⟨T.setFrames fs, ?_, _, hrun, hended, _, locs, rfl, ⟨N, Z0, L, hQ, P⟩, ⟨_, rfl⟩, hW, hsame.mono hc hs⟩
  subst hv; exact retN X hx (t := .byte) hrt (by simp) (hb hby hd) hr
theorem Here.retI {x : Int32} (A : Here p l e R s m args below meth c Z a0 tbl own nm bc mxl (some .int) n0 T L cells slots) {pc kc ks : Nat} {Ls : Array Slot} {st : List Value} {Q : Option Value → Obs → Prop} (hd : decode bc pc = .ok (.ireturn, 1)) (hc : cells ≤ kc) (hs : slots ≤ ks) (hQ : Q (some (.int x)) L) : Go p e below (EndS below s n0 Z kc ks Q) (T.setTop (mkF m pc Ls (.int x :: st))) := by
  obtain ⟨⟨hx, hZ, hown, hby, hml, hww, hnm, hrt, hlk⟩, locs, X, N, Z0, P⟩ := id A
  obtain ⟨fs, hr, hrun, hended, hW, hsame⟩ := X.leave (v := (some (.int x))) (fun h => by rw [hrt] at h; cases h)
  refine ⟨T.setFrames fs, ?_, _, hrun, hended, _, locs, rfl, ⟨N, Z0, L, hQ, P⟩, ⟨_, rfl⟩, hW, hsame.mono hc hs⟩
  exact retOut X hx (t := .int) hrt rfl (Or.inl ⟨rfl, Or.inl rfl, _, rfl⟩) (hb hby hd) hr
theorem Here.retJ {x : Int64} (A : Here p l e R s m args below meth c Z a0 tbl own nm bc mxl (some .long) n0 T L cells slots) {pc kc ks : Nat} {Ls : Array Slot} {st : List Value} {Q : Option Value → Obs → Prop} (hd : decode bc pc = .ok (.lreturn, 1)) (hc : cells ≤ kc) (hs : slots ≤ ks) (hQ : Q (some (.long x)) L) : Go p e below (EndS below s n0 Z kc ks Q) (T.setTop (mkF m pc Ls (.long x :: st))) := by
  obtain ⟨⟨hx, hZ, hown, hby, hml, hww, hnm, hrt, hlk⟩, locs, X, N, Z0, P⟩ := id A
  obtain ⟨fs, hr, hrun, hended, hW, hsame⟩ := X.leave (v := (some (.long x))) (fun h => by rw [hrt] at h; cases h)
  refine ⟨T.setFrames fs, ?_, _, hrun, hended, _, locs, rfl, ⟨N, Z0, L, hQ, P⟩, ⟨_, rfl⟩, hW, hsame.mono hc hs⟩
  exact retOut X hx (t := .long) hrt rfl (Or.inr (Or.inl ⟨rfl, rfl, _, rfl⟩)) (hb hby hd) hr
theorem Here.retA {x : Value} {t : FieldType} (A : Here p l e R s m args below meth c Z a0 tbl own nm bc mxl (some t) n0 T L cells slots) {pc kc ks : Nat} {Ls : Array Slot} {st : List Value} {Q : Option Value → Obs → Prop} (hd : decode bc pc = .ok (.areturn, 1)) (hrf : x.isRef = true) (htr : t.isReference = true) (hnn : narrow t x = x) (hc : cells ≤ kc) (hs : slots ≤ ks) (hQ : Q (some x) L) : Go p e below (EndS below s n0 Z kc ks Q) (T.setTop (mkF m pc Ls (x :: st))) := by
  obtain ⟨⟨hx, hZ, hown, hby, hml, hww, hnm, hrt, hlk⟩, locs, X, N, Z0, P⟩ := id A
  obtain ⟨fs, hr, hrun, hended, hW, hsame⟩ := X.leave (v := (some x)) (fun h => by rw [hrt] at h; cases h)
  refine ⟨T.setFrames fs, ?_, _, hrun, hended, _, locs, rfl, ⟨N, Z0, L, hQ, P⟩, ⟨_, rfl⟩, hW, hsame.mono hc hs⟩
  exact retOut X hx (t := t) hrt hnn (Or.inr (Or.inr (Or.inr (Or.inr ⟨rfl, htr, hrf⟩)))) (hb hby hd) hr
end Walk
abbrev ob0 (v0 v1 v2 v3 v4 v5 v6 v7 v8 v9 v10 v11 v12 : Value) : Ob := .inl ("com/example/urd/urd/BatchHeader", [(("com/example/urd/urd/BatchHeader", "baseOffset", "J"), v0), (("com/example/urd/urd/BatchHeader", "length", "I"), v1), (("com/example/urd/urd/BatchHeader", "partitionLeaderEpoch", "I"), v2), (("com/example/urd/urd/BatchHeader", "magic", "B"), v3), (("com/example/urd/urd/BatchHeader", "crc", "I"), v4), (("com/example/urd/urd/BatchHeader", "attributes", "S"), v5), (("com/example/urd/urd/BatchHeader", "lastOffsetDelta", "I"), v6), (("com/example/urd/urd/BatchHeader", "baseTimestamp", "J"), v7), (("com/example/urd/urd/BatchHeader", "maxTimestamp", "J"), v8), (("com/example/urd/urd/BatchHeader", "producerId", "J"), v9), (("com/example/urd/urd/BatchHeader", "producerEpoch", "S"), v10), (("com/example/urd/urd/BatchHeader", "baseSequence", "I"), v11), (("com/example/urd/urd/BatchHeader", "recordCount", "I"), v12)])
theorem d2_0 : decode jdk_30_method_1_code 0 = .ok (.aload_n 0, 1) := by decide +kernel
theorem d2_1 : decode jdk_30_method_1_code 1 = .ok (.invokespecial 1, 3) := by decide +kernel
theorem d2_4 : decode jdk_30_method_1_code 4 = .ok (.return_, 1) := by decide +kernel
theorem pn_2 : plainFor (⟨"java/lang/Record", "<init>", "()V"⟩ : MethodName) = true := plainFor_of_name (by first | (simp [plainName, overriddenIn]; done) | decide +kernel)
set_option maxRecDepth 65536 in
set_option maxHeartbeats 8000000 in
theorem rm2 (l : Launch) (Z : State) (a0 : Array Value) (hw : ∀ d ∈ tables_1, d.before a0 Z = true) (n0 : Nat) (r0 : Addr) (RR : Obs) :
    Triple l Z n0 (⟨"java/lang/Record", "<init>", "()V"⟩ : MethodName) jdk_30_method_1_code 1 none ({ frames := 1, cells := 0, slots := 0, locals := 12 } : Room) 0 0 [(.ref r0)] (RR) (fun v L' => v = none ∧ L' = (RR)) := by
  refine Triple.of_body (tbl := tables_1) (a0 := a0) (Ls := #[.val (.ref r0)]) pn_2 hw rfl ?_
  intro p e s m below meth c T A
  refine A.aloadN (q := 1) d2_0 rfl rfl rfl ?_
  refine A.initObj (q := 4) (w1 := 11) (w2 := 12) (w3 := 13) (W := 0) d2_1 rfl rfl rfl rfl rfl rfl (by decide) (by decide) ?_
  intro T A
  exact A.retV d2_4 (by decide) (by decide) ⟨rfl, rfl⟩
theorem pd_0 : parseMethodDescriptor "()V" = some ⟨[], none⟩ := by decide +kernel
theorem lay_0 (Z : State) (a0 : Array Value) (hw : ∀ d ∈ tables_1, d.before a0 Z = true) : Lays Z a0 "com/example/urd/urd/BatchHeader" [("com/example/urd/urd/BatchHeader", "baseOffset", "J"), ("com/example/urd/urd/BatchHeader", "length", "I"), ("com/example/urd/urd/BatchHeader", "partitionLeaderEpoch", "I"), ("com/example/urd/urd/BatchHeader", "magic", "B"), ("com/example/urd/urd/BatchHeader", "crc", "I"), ("com/example/urd/urd/BatchHeader", "attributes", "S"), ("com/example/urd/urd/BatchHeader", "lastOffsetDelta", "I"), ("com/example/urd/urd/BatchHeader", "baseTimestamp", "J"), ("com/example/urd/urd/BatchHeader", "maxTimestamp", "J"), ("com/example/urd/urd/BatchHeader", "producerId", "J"), ("com/example/urd/urd/BatchHeader", "producerEpoch", "S"), ("com/example/urd/urd/BatchHeader", "baseSequence", "I"), ("com/example/urd/urd/BatchHeader", "recordCount", "I")] := by
  refine ⟨fun q hq => ?_, by decide⟩
  simp only [List.mem_cons, List.not_mem_nil, or_false] at hq
  rcases hq with rfl | rfl | rfl | rfl | rfl | rfl | rfl | rfl | rfl | rfl | rfl | rfl | rfl
  · exact ⟨Or.inr (hw _ (List.mem_of_getElem? (i := 15) rfl)), .long, by decide⟩
  · exact ⟨Or.inr (hw _ (List.mem_of_getElem? (i := 17) rfl)), .int, by decide⟩
  · exact ⟨Or.inr (hw _ (List.mem_of_getElem? (i := 19) rfl)), .int, by decide⟩
  · exact ⟨Or.inr (hw _ (List.mem_of_getElem? (i := 21) rfl)), .byte, by decide⟩
  · exact ⟨Or.inr (hw _ (List.mem_of_getElem? (i := 23) rfl)), .int, by decide⟩
  · exact ⟨Or.inr (hw _ (List.mem_of_getElem? (i := 25) rfl)), .short, by decide⟩
  · exact ⟨Or.inr (hw _ (List.mem_of_getElem? (i := 27) rfl)), .int, by decide⟩
  · exact ⟨Or.inr (hw _ (List.mem_of_getElem? (i := 29) rfl)), .long, by decide⟩
  · exact ⟨Or.inr (hw _ (List.mem_of_getElem? (i := 31) rfl)), .long, by decide⟩
  · exact ⟨Or.inr (hw _ (List.mem_of_getElem? (i := 33) rfl)), .long, by decide⟩
  · exact ⟨Or.inr (hw _ (List.mem_of_getElem? (i := 35) rfl)), .short, by decide⟩
  · exact ⟨Or.inr (hw _ (List.mem_of_getElem? (i := 37) rfl)), .int, by decide⟩
  · exact ⟨Or.inr (hw _ (List.mem_of_getElem? (i := 39) rfl)), .int, by decide⟩
theorem d1_0 : decode prog_2_method_1_code 0 = .ok (.aload_n 0, 1) := by decide +kernel
theorem d1_1 : decode prog_2_method_1_code 1 = .ok (.invokespecial 5, 3) := by decide +kernel
theorem d1_4 : decode prog_2_method_1_code 4 = .ok (.aload_n 0, 1) := by decide +kernel
theorem d1_5 : decode prog_2_method_1_code 5 = .ok (.lload_n 1, 1) := by decide +kernel
theorem d1_6 : decode prog_2_method_1_code 6 = .ok (.putfield 11, 3) := by decide +kernel
theorem d1_9 : decode prog_2_method_1_code 9 = .ok (.aload_n 0, 1) := by decide +kernel
theorem d1_10 : decode prog_2_method_1_code 10 = .ok (.iload_n 3, 1) := by decide +kernel
theorem d1_11 : decode prog_2_method_1_code 11 = .ok (.putfield 15, 3) := by decide +kernel
theorem d1_14 : decode prog_2_method_1_code 14 = .ok (.aload_n 0, 1) := by decide +kernel
theorem d1_15 : decode prog_2_method_1_code 15 = .ok (.iload 4, 2) := by decide +kernel
theorem d1_17 : decode prog_2_method_1_code 17 = .ok (.putfield 19, 3) := by decide +kernel
theorem d1_20 : decode prog_2_method_1_code 20 = .ok (.aload_n 0, 1) := by decide +kernel
theorem d1_21 : decode prog_2_method_1_code 21 = .ok (.iload 5, 2) := by decide +kernel
theorem d1_23 : decode prog_2_method_1_code 23 = .ok (.putfield 22, 3) := by decide +kernel
theorem d1_26 : decode prog_2_method_1_code 26 = .ok (.aload_n 0, 1) := by decide +kernel
theorem d1_27 : decode prog_2_method_1_code 27 = .ok (.iload 6, 2) := by decide +kernel
theorem d1_29 : decode prog_2_method_1_code 29 = .ok (.putfield 26, 3) := by decide +kernel
theorem d1_32 : decode prog_2_method_1_code 32 = .ok (.aload_n 0, 1) := by decide +kernel
theorem d1_33 : decode prog_2_method_1_code 33 = .ok (.iload 7, 2) := by decide +kernel
theorem d1_35 : decode prog_2_method_1_code 35 = .ok (.putfield 29, 3) := by decide +kernel
theorem d1_38 : decode prog_2_method_1_code 38 = .ok (.aload_n 0, 1) := by decide +kernel
theorem d1_39 : decode prog_2_method_1_code 39 = .ok (.iload 8, 2) := by decide +kernel
theorem d1_41 : decode prog_2_method_1_code 41 = .ok (.putfield 33, 3) := by decide +kernel
theorem d1_44 : decode prog_2_method_1_code 44 = .ok (.aload_n 0, 1) := by decide +kernel
theorem d1_45 : decode prog_2_method_1_code 45 = .ok (.lload 9, 2) := by decide +kernel
theorem d1_47 : decode prog_2_method_1_code 47 = .ok (.putfield 36, 3) := by decide +kernel
theorem d1_50 : decode prog_2_method_1_code 50 = .ok (.aload_n 0, 1) := by decide +kernel
theorem d1_51 : decode prog_2_method_1_code 51 = .ok (.lload 11, 2) := by decide +kernel
theorem d1_53 : decode prog_2_method_1_code 53 = .ok (.putfield 39, 3) := by decide +kernel
theorem d1_56 : decode prog_2_method_1_code 56 = .ok (.aload_n 0, 1) := by decide +kernel
theorem d1_57 : decode prog_2_method_1_code 57 = .ok (.lload 13, 2) := by decide +kernel
theorem d1_59 : decode prog_2_method_1_code 59 = .ok (.putfield 42, 3) := by decide +kernel
theorem d1_62 : decode prog_2_method_1_code 62 = .ok (.aload_n 0, 1) := by decide +kernel
theorem d1_63 : decode prog_2_method_1_code 63 = .ok (.iload 15, 2) := by decide +kernel
theorem d1_65 : decode prog_2_method_1_code 65 = .ok (.putfield 45, 3) := by decide +kernel
theorem d1_68 : decode prog_2_method_1_code 68 = .ok (.aload_n 0, 1) := by decide +kernel
theorem d1_69 : decode prog_2_method_1_code 69 = .ok (.iload 16, 2) := by decide +kernel
theorem d1_71 : decode prog_2_method_1_code 71 = .ok (.putfield 48, 3) := by decide +kernel
theorem d1_74 : decode prog_2_method_1_code 74 = .ok (.aload_n 0, 1) := by decide +kernel
theorem d1_75 : decode prog_2_method_1_code 75 = .ok (.iload 17, 2) := by decide +kernel
theorem d1_77 : decode prog_2_method_1_code 77 = .ok (.putfield 51, 3) := by decide +kernel
theorem d1_80 : decode prog_2_method_1_code 80 = .ok (.return_, 1) := by decide +kernel
theorem pn_1 : plainFor (⟨"com/example/urd/urd/BatchHeader", "<init>", "(JIIBISIJJJSII)V"⟩ : MethodName) = true := plainFor_of_name (by first | (simp [plainName, overriddenIn]; done) | decide +kernel)
set_option maxRecDepth 65536 in
set_option maxHeartbeats 8000000 in
theorem rm1 (l : Launch) (Z : State) (a0 : Array Value) (hw : ∀ d ∈ tables_1, d.before a0 Z = true) (n0 : Nat) (r0 : Addr) (x0 : Int64) (x1 : Int32) (x2 : Int32) (x3 : Int32) (x4 : Int32) (x5 : Int32) (x6 : Int32) (x7 : Int64) (x8 : Int64) (x9 : Int64) (x10 : Int32) (x11 : Int32) (x12 : Int32) (RR : Obs) :
    Triple l Z n0 (⟨"com/example/urd/urd/BatchHeader", "<init>", "(JIIBISIJJJSII)V"⟩ : MethodName) prog_2_method_1_code 18 none ({ frames := 2, cells := 0, slots := 0, locals := 24 } : Room) 0 0 [(.ref r0), (.long x0), (.int x1), (.int x2), (.int x3), (.int x4), (.int x5), (.int x6), (.long x7), (.long x8), (.long x9), (.int x10), (.int x11), (.int x12)] ((r0, ob0 (.long (0 : Int64)) (.int (0 : Int32)) (.int (0 : Int32)) (.int (0 : Int32)) (.int (0 : Int32)) (.int (0 : Int32)) (.int (0 : Int32)) (.long (0 : Int64)) (.long (0 : Int64)) (.long (0 : Int64)) (.int (0 : Int32)) (.int (0 : Int32)) (.int (0 : Int32))) :: RR) (fun v L' => v = none ∧ L' = ((r0, ob0 (.long x0) (.int x1) (.int x2) (.int (nar .byte x3)) (.int x4) (.int (nar .short x5)) (.int x6) (.long x7) (.long x8) (.long x9) (.int (nar .short x10)) (.int x11) (.int x12)) :: RR)) := by
  refine Triple.of_body (tbl := tables_1) (a0 := a0) (Ls := #[.val (.ref r0), .val (.long x0), .second, .val (.int x1), .val (.int x2), .val (.int x3), .val (.int x4), .val (.int x5), .val (.int x6), .val (.long x7), .second, .val (.long x8), .second, .val (.long x9), .second, .val (.int x10), .val (.int x11), .val (.int x12)]) pn_1 hw rfl ?_
  intro p e s m below meth c T A
  refine A.aloadN (q := 1) d1_0 rfl rfl rfl ?_
  refine A.callI (q := 4) (w1 := 6) (w2 := 7) (w3 := 9) (w4 := 10) (a := r0) (as := []) (st := []) (W := 0) d1_1 rfl rfl rfl rfl rfl rfl (rm2 l Z a0 hw n0 r0 _) (by decide) ⟨_, _, pd_0, rfl⟩ rfl rfl rfl (by decide) (by decide) (by decide) (by decide) ?_
  rintro _ T _ ⟨rfl, rfl⟩ A
  show Go p e below _ (T.setTop (mkF m 4 #[.val (.ref r0), .val (.long x0), .second, .val (.int x1), .val (.int x2), .val (.int x3), .val (.int x4), .val (.int x5), .val (.int x6), .val (.long x7), .second, .val (.long x8), .second, .val (.long x9), .second, .val (.int x10), .val (.int x11), .val (.int x12)] []))
  refine A.aloadN (q := 5) d1_4 rfl rfl rfl ?_
  refine A.lloadN (q := 6) d1_5 rfl rfl ?_
  refine A.putF (q := 9) (w := 14) (w2 := 15) (w3 := 1) (i := 0) (j := 0) (ty := .long) (v' := (.long x0)) (L' := ((r0, ob0 (.long x0) (.int (0 : Int32)) (.int (0 : Int32)) (.int (0 : Int32)) (.int (0 : Int32)) (.int (0 : Int32)) (.int (0 : Int32)) (.long (0 : Int64)) (.long (0 : Int64)) (.long (0 : Int64)) (.int (0 : Int32)) (.int (0 : Int32)) (.int (0 : Int32))) :: RR)) d1_6 rfl rfl rfl rfl (lay_0 Z a0 hw) (Or.inr ⟨rfl, rfl, rfl⟩) rfl (by decide) rfl rfl rfl ?_
  intro T A
  refine A.aloadN (q := 10) d1_9 rfl rfl rfl ?_
  refine A.iloadN (q := 11) d1_10 rfl rfl ?_
  refine A.putF (q := 14) (w := 16) (w2 := 17) (w3 := 1) (i := 0) (j := 1) (ty := .int) (v' := (.int x1)) (L' := ((r0, ob0 (.long x0) (.int x1) (.int (0 : Int32)) (.int (0 : Int32)) (.int (0 : Int32)) (.int (0 : Int32)) (.int (0 : Int32)) (.long (0 : Int64)) (.long (0 : Int64)) (.long (0 : Int64)) (.int (0 : Int32)) (.int (0 : Int32)) (.int (0 : Int32))) :: RR)) d1_11 rfl rfl rfl rfl (lay_0 Z a0 hw) (Or.inr ⟨rfl, rfl, rfl⟩) rfl (by decide) rfl rfl rfl ?_
  intro T A
  refine A.aloadN (q := 15) d1_14 rfl rfl rfl ?_
  refine A.iload (q := 17) d1_15 rfl rfl ?_
  refine A.putF (q := 20) (w := 18) (w2 := 19) (w3 := 1) (i := 0) (j := 2) (ty := .int) (v' := (.int x2)) (L' := ((r0, ob0 (.long x0) (.int x1) (.int x2) (.int (0 : Int32)) (.int (0 : Int32)) (.int (0 : Int32)) (.int (0 : Int32)) (.long (0 : Int64)) (.long (0 : Int64)) (.long (0 : Int64)) (.int (0 : Int32)) (.int (0 : Int32)) (.int (0 : Int32))) :: RR)) d1_17 rfl rfl rfl rfl (lay_0 Z a0 hw) (Or.inr ⟨rfl, rfl, rfl⟩) rfl (by decide) rfl rfl rfl ?_
  intro T A
  refine A.aloadN (q := 21) d1_20 rfl rfl rfl ?_
  refine A.iload (q := 23) d1_21 rfl rfl ?_
  refine A.putF (q := 26) (w := 20) (w2 := 21) (w3 := 1) (i := 0) (j := 3) (ty := .byte) (v' := (.int (nar .byte x3))) (L' := ((r0, ob0 (.long x0) (.int x1) (.int x2) (.int (nar .byte x3)) (.int (0 : Int32)) (.int (0 : Int32)) (.int (0 : Int32)) (.long (0 : Int64)) (.long (0 : Int64)) (.long (0 : Int64)) (.int (0 : Int32)) (.int (0 : Int32)) (.int (0 : Int32))) :: RR)) d1_23 rfl rfl rfl rfl (lay_0 Z a0 hw) (Or.inr ⟨rfl, rfl, rfl⟩) rfl (by decide) rfl (fits_nar_byte _) rfl ?_
  intro T A
  refine A.aloadN (q := 27) d1_26 rfl rfl rfl ?_
  refine A.iload (q := 29) d1_27 rfl rfl ?_
  refine A.putF (q := 32) (w := 22) (w2 := 23) (w3 := 1) (i := 0) (j := 4) (ty := .int) (v' := (.int x4)) (L' := ((r0, ob0 (.long x0) (.int x1) (.int x2) (.int (nar .byte x3)) (.int x4) (.int (0 : Int32)) (.int (0 : Int32)) (.long (0 : Int64)) (.long (0 : Int64)) (.long (0 : Int64)) (.int (0 : Int32)) (.int (0 : Int32)) (.int (0 : Int32))) :: RR)) d1_29 rfl rfl rfl rfl (lay_0 Z a0 hw) (Or.inr ⟨rfl, rfl, rfl⟩) rfl (by decide) rfl rfl rfl ?_
  intro T A
  refine A.aloadN (q := 33) d1_32 rfl rfl rfl ?_
  refine A.iload (q := 35) d1_33 rfl rfl ?_
  refine A.putF (q := 38) (w := 24) (w2 := 25) (w3 := 1) (i := 0) (j := 5) (ty := .short) (v' := (.int (nar .short x5))) (L' := ((r0, ob0 (.long x0) (.int x1) (.int x2) (.int (nar .byte x3)) (.int x4) (.int (nar .short x5)) (.int (0 : Int32)) (.long (0 : Int64)) (.long (0 : Int64)) (.long (0 : Int64)) (.int (0 : Int32)) (.int (0 : Int32)) (.int (0 : Int32))) :: RR)) d1_35 rfl rfl rfl rfl (lay_0 Z a0 hw) (Or.inr ⟨rfl, rfl, rfl⟩) rfl (by decide) rfl (fits_nar_short _) rfl ?_
  intro T A
  refine A.aloadN (q := 39) d1_38 rfl rfl rfl ?_
  refine A.iload (q := 41) d1_39 rfl rfl ?_
  refine A.putF (q := 44) (w := 26) (w2 := 27) (w3 := 1) (i := 0) (j := 6) (ty := .int) (v' := (.int x6)) (L' := ((r0, ob0 (.long x0) (.int x1) (.int x2) (.int (nar .byte x3)) (.int x4) (.int (nar .short x5)) (.int x6) (.long (0 : Int64)) (.long (0 : Int64)) (.long (0 : Int64)) (.int (0 : Int32)) (.int (0 : Int32)) (.int (0 : Int32))) :: RR)) d1_41 rfl rfl rfl rfl (lay_0 Z a0 hw) (Or.inr ⟨rfl, rfl, rfl⟩) rfl (by decide) rfl rfl rfl ?_
  intro T A
  refine A.aloadN (q := 45) d1_44 rfl rfl rfl ?_
  refine A.lload (q := 47) d1_45 rfl rfl ?_
  refine A.putF (q := 50) (w := 28) (w2 := 29) (w3 := 1) (i := 0) (j := 7) (ty := .long) (v' := (.long x7)) (L' := ((r0, ob0 (.long x0) (.int x1) (.int x2) (.int (nar .byte x3)) (.int x4) (.int (nar .short x5)) (.int x6) (.long x7) (.long (0 : Int64)) (.long (0 : Int64)) (.int (0 : Int32)) (.int (0 : Int32)) (.int (0 : Int32))) :: RR)) d1_47 rfl rfl rfl rfl (lay_0 Z a0 hw) (Or.inr ⟨rfl, rfl, rfl⟩) rfl (by decide) rfl rfl rfl ?_
  intro T A
  refine A.aloadN (q := 51) d1_50 rfl rfl rfl ?_
  refine A.lload (q := 53) d1_51 rfl rfl ?_
  refine A.putF (q := 56) (w := 30) (w2 := 31) (w3 := 1) (i := 0) (j := 8) (ty := .long) (v' := (.long x8)) (L' := ((r0, ob0 (.long x0) (.int x1) (.int x2) (.int (nar .byte x3)) (.int x4) (.int (nar .short x5)) (.int x6) (.long x7) (.long x8) (.long (0 : Int64)) (.int (0 : Int32)) (.int (0 : Int32)) (.int (0 : Int32))) :: RR)) d1_53 rfl rfl rfl rfl (lay_0 Z a0 hw) (Or.inr ⟨rfl, rfl, rfl⟩) rfl (by decide) rfl rfl rfl ?_
  intro T A
  refine A.aloadN (q := 57) d1_56 rfl rfl rfl ?_
  refine A.lload (q := 59) d1_57 rfl rfl ?_
  refine A.putF (q := 62) (w := 32) (w2 := 33) (w3 := 1) (i := 0) (j := 9) (ty := .long) (v' := (.long x9)) (L' := ((r0, ob0 (.long x0) (.int x1) (.int x2) (.int (nar .byte x3)) (.int x4) (.int (nar .short x5)) (.int x6) (.long x7) (.long x8) (.long x9) (.int (0 : Int32)) (.int (0 : Int32)) (.int (0 : Int32))) :: RR)) d1_59 rfl rfl rfl rfl (lay_0 Z a0 hw) (Or.inr ⟨rfl, rfl, rfl⟩) rfl (by decide) rfl rfl rfl ?_
  intro T A
  refine A.aloadN (q := 63) d1_62 rfl rfl rfl ?_
  refine A.iload (q := 65) d1_63 rfl rfl ?_
  refine A.putF (q := 68) (w := 34) (w2 := 35) (w3 := 1) (i := 0) (j := 10) (ty := .short) (v' := (.int (nar .short x10))) (L' := ((r0, ob0 (.long x0) (.int x1) (.int x2) (.int (nar .byte x3)) (.int x4) (.int (nar .short x5)) (.int x6) (.long x7) (.long x8) (.long x9) (.int (nar .short x10)) (.int (0 : Int32)) (.int (0 : Int32))) :: RR)) d1_65 rfl rfl rfl rfl (lay_0 Z a0 hw) (Or.inr ⟨rfl, rfl, rfl⟩) rfl (by decide) rfl (fits_nar_short _) rfl ?_
  intro T A
  refine A.aloadN (q := 69) d1_68 rfl rfl rfl ?_
  refine A.iload (q := 71) d1_69 rfl rfl ?_
  refine A.putF (q := 74) (w := 36) (w2 := 37) (w3 := 1) (i := 0) (j := 11) (ty := .int) (v' := (.int x11)) (L' := ((r0, ob0 (.long x0) (.int x1) (.int x2) (.int (nar .byte x3)) (.int x4) (.int (nar .short x5)) (.int x6) (.long x7) (.long x8) (.long x9) (.int (nar .short x10)) (.int x11) (.int (0 : Int32))) :: RR)) d1_71 rfl rfl rfl rfl (lay_0 Z a0 hw) (Or.inr ⟨rfl, rfl, rfl⟩) rfl (by decide) rfl rfl rfl ?_
  intro T A
  refine A.aloadN (q := 75) d1_74 rfl rfl rfl ?_
  refine A.iload (q := 77) d1_75 rfl rfl ?_
  refine A.putF (q := 80) (w := 38) (w2 := 39) (w3 := 1) (i := 0) (j := 12) (ty := .int) (v' := (.int x12)) (L' := ((r0, ob0 (.long x0) (.int x1) (.int x2) (.int (nar .byte x3)) (.int x4) (.int (nar .short x5)) (.int x6) (.long x7) (.long x8) (.long x9) (.int (nar .short x10)) (.int x11) (.int x12)) :: RR)) d1_77 rfl rfl rfl rfl (lay_0 Z a0 hw) (Or.inr ⟨rfl, rfl, rfl⟩) rfl (by decide) rfl rfl rfl ?_
  intro T A
  exact A.retV d1_80 (by decide) (by decide) ⟨rfl, rfl⟩
def FA (f_attributes : Int32) : Int32 := (if (f_attributes &&& (8 : Int32)) = (0 : Int32) then (0 : Int32) else (1 : Int32))
theorem d4_0 : decode prog_2_method_7_code 0 = .ok (.aload_n 0, 1) := by decide +kernel
theorem d4_1 : decode prog_2_method_7_code 1 = .ok (.getfield 29, 3) := by decide +kernel
theorem d4_4 : decode prog_2_method_7_code 4 = .ok (.bipush 8, 2) := by decide +kernel
theorem d4_6 : decode prog_2_method_7_code 6 = .ok (.iand, 1) := by decide +kernel
theorem d4_7 : decode prog_2_method_7_code 7 = .ok (.ifCond .eq 7, 3) := by decide +kernel
theorem d4_10 : decode prog_2_method_7_code 10 = .ok (.iconst 1, 1) := by decide +kernel
theorem d4_11 : decode prog_2_method_7_code 11 = .ok (.goto 4, 3) := by decide +kernel
theorem d4_14 : decode prog_2_method_7_code 14 = .ok (.iconst 0, 1) := by decide +kernel
theorem d4_15 : decode prog_2_method_7_code 15 = .ok (.ireturn, 1) := by decide +kernel
theorem pn_4 : plainFor (⟨"com/example/urd/urd/BatchHeader", "isLogAppendTime", "()Z"⟩ : MethodName) = true := plainFor_of_name (by first | (simp [plainName, overriddenIn]; done) | decide +kernel)
set_option maxRecDepth 65536 in
set_option maxHeartbeats 8000000 in
theorem rmA (l : Launch) (Z : State) (a0 : Array Value) (hw : ∀ d ∈ tables_1, d.before a0 Z = true) (n0 : Nat) (r0 : Addr) (f_baseOffset : Int64) (f_length : Int32) (f_partitionLeaderEpoch : Int32) (f_magic : Int32) (f_crc : Int32) (f_attributes : Int32) (f_lastOffsetDelta : Int32) (f_baseTimestamp : Int64) (f_maxTimestamp : Int64) (f_producerId : Int64) (f_producerEpoch : Int32) (f_baseSequence : Int32) (f_recordCount : Int32) (RR : Obs) :
    Triple l Z n0 (⟨"com/example/urd/urd/BatchHeader", "isLogAppendTime", "()Z"⟩ : MethodName) prog_2_method_7_code 1 (some .boolean) ({ frames := 0, cells := 0, slots := 0, locals := 0 } : Room) 0 0 [(.ref r0)] ((r0, ob0 (.long f_baseOffset) (.int f_length) (.int f_partitionLeaderEpoch) (.int f_magic) (.int f_crc) (.int f_attributes) (.int f_lastOffsetDelta) (.long f_baseTimestamp) (.long f_maxTimestamp) (.long f_producerId) (.int f_producerEpoch) (.int f_baseSequence) (.int f_recordCount)) :: RR) (fun v L' => v = some (.int (FA f_attributes)) ∧ L' = ((r0, ob0 (.long f_baseOffset) (.int f_length) (.int f_partitionLeaderEpoch) (.int f_magic) (.int f_crc) (.int f_attributes) (.int f_lastOffsetDelta) (.long f_baseTimestamp) (.long f_maxTimestamp) (.long f_producerId) (.int f_producerEpoch) (.int f_baseSequence) (.int f_recordCount)) :: RR)) := by
  refine Triple.of_body (tbl := tables_1) (a0 := a0) (Ls := #[.val (.ref r0)]) pn_4 hw rfl ?_
  intro p e s m below meth c T A
  refine A.aloadN (q := 1) d4_0 rfl rfl rfl ?_
  refine A.getF (q := 4) (w := 24) (i := 0) (j := 5) d4_1 rfl rfl rfl rfl ?_
  intro T A
  refine A.bipush (q := 6) (v := (8 : Int32)) d4_4 rfl (by decide) ?_
  obtain ⟨v1, e1⟩ : ∃ v : Int32, f_attributes &&& (8 : Int32) = v := ⟨_, rfl⟩
  refine A.iand (q := 7) d4_6 rfl e1 ?_
  refine A.if_eq (q := 10) (r := 14) d4_7 rfl (by decide) (fun h2 => ?_) (fun h2 => ?_)
  · refine A.iconst (q := 15) (v := (0 : Int32)) d4_14 rfl (by decide) ?_
    subst e1
    exact A.retZ (v := (FA f_attributes)) d4_15 (by simp only [FA, if_pos h2]; rfl) (by decide) (by decide) ⟨rfl, by first | rfl | (simp only [if_pos h2])⟩
  · refine A.iconst (q := 11) (v := (1 : Int32)) d4_10 rfl (by decide) ?_
    refine A.goto (r := 15) d4_11 (by decide) ?_
    subst e1
    exact A.retZ (v := (FA f_attributes)) d4_15 (by simp only [FA, if_neg h2]; rfl) (by decide) (by decide) ⟨rfl, by first | rfl | (simp only [if_neg h2])⟩
def FB (x0 : Int32) : Int32 := (if (((x0 &&& (65535 : Int32)) / (8 : Int32)) % (2 : Int32)) = (1 : Int32) then (1 : Int32) else (0 : Int32))
theorem d5_0 : decode method_2_code 0 = .ok (.iload_n 0, 1) := by decide +kernel
theorem d5_1 : decode method_2_code 1 = .ok (.ldc 7, 2) := by decide +kernel
theorem d5_3 : decode method_2_code 3 = .ok (.iand, 1) := by decide +kernel
theorem d5_4 : decode method_2_code 4 = .ok (.istore_n 1, 1) := by decide +kernel
theorem d5_5 : decode method_2_code 5 = .ok (.iload_n 1, 1) := by decide +kernel
theorem d5_6 : decode method_2_code 6 = .ok (.bipush 8, 2) := by decide +kernel
theorem d5_8 : decode method_2_code 8 = .ok (.idiv, 1) := by decide +kernel
theorem d5_9 : decode method_2_code 9 = .ok (.iconst 2, 1) := by decide +kernel
theorem d5_10 : decode method_2_code 10 = .ok (.irem, 1) := by decide +kernel
theorem d5_11 : decode method_2_code 11 = .ok (.iconst 1, 1) := by decide +kernel
theorem d5_12 : decode method_2_code 12 = .ok (.if_icmp .ne 7, 3) := by decide +kernel
theorem d5_15 : decode method_2_code 15 = .ok (.iconst 1, 1) := by decide +kernel
theorem d5_16 : decode method_2_code 16 = .ok (.goto 4, 3) := by decide +kernel
theorem d5_19 : decode method_2_code 19 = .ok (.iconst 0, 1) := by decide +kernel
theorem d5_20 : decode method_2_code 20 = .ok (.ireturn, 1) := by decide +kernel
theorem pn_5 : plainFor (⟨"com/example/urd/urd/BatchHeaderIsLogAppendTimePinLaw", "bit3", "(I)Z"⟩ : MethodName) = true := plainFor_of_name (by first | (simp [plainName, overriddenIn]; done) | decide +kernel)
set_option maxRecDepth 65536 in
set_option maxHeartbeats 8000000 in
theorem rmB (l : Launch) (Z : State) (a0 : Array Value) (hw : ∀ d ∈ tables_1, d.before a0 Z = true) (n0 : Nat) (x0 : Int32) (RR : Obs) :
    Triple l Z n0 (⟨"com/example/urd/urd/BatchHeaderIsLogAppendTimePinLaw", "bit3", "(I)Z"⟩ : MethodName) method_2_code 2 (some .boolean) ({ frames := 0, cells := 0, slots := 0, locals := 0 } : Room) 0 0 [(.int x0)] (RR) (fun v L' => v = some (.int (FB x0)) ∧ L' = (RR)) := by
  refine Triple.of_body (tbl := tables_1) (a0 := a0) (Ls := #[.val (.int x0), .unset]) pn_5 hw rfl ?_
  intro p e s m below meth c T A
  refine A.iloadN (q := 1) d5_0 rfl rfl ?_
  refine A.ldc (q := 3) (v := (65535 : Int32)) (w := 49) d5_1 rfl rfl ?_
  obtain ⟨v1, e1⟩ : ∃ v : Int32, x0 &&& (65535 : Int32) = v := ⟨_, rfl⟩
  refine A.iand (q := 4) d5_3 rfl e1 ?_
  refine A.istoreN (q := 5) (l' := #[.val (.int x0), .val (.int v1)]) d5_4 rfl rfl ?_
  refine A.iloadN (q := 6) d5_5 rfl rfl ?_
  refine A.bipush (q := 8) (v := (8 : Int32)) d5_6 rfl (by decide) ?_
  obtain ⟨v2, e2⟩ : ∃ v : Int32, v1 / (8 : Int32) = v := ⟨_, rfl⟩
  refine A.idiv (q := 9) d5_8 rfl (by decide) e2 ?_
  refine A.iconst (q := 10) (v := (2 : Int32)) d5_9 rfl (by decide) ?_
  obtain ⟨v3, e3⟩ : ∃ v : Int32, v2 % (2 : Int32) = v := ⟨_, rfl⟩
  refine A.irem (q := 11) d5_10 rfl (by decide) e3 ?_
  refine A.iconst (q := 12) (v := (1 : Int32)) d5_11 rfl (by decide) ?_
  refine A.icmp_ne (q := 15) (r := 19) d5_12 rfl (by decide) (fun h4 => ?_) (fun h4 => ?_)
  · refine A.iconst (q := 20) (v := (0 : Int32)) d5_19 rfl (by decide) ?_
    subst e1 e2 e3
    exact A.retZ (v := (FB x0)) d5_20 (by simp only [FB, if_neg h4]; rfl) (by decide) (by decide) ⟨rfl, by first | rfl | (simp only [if_neg h4])⟩
  · refine A.iconst (q := 16) (v := (1 : Int32)) d5_15 rfl (by decide) ?_
    refine A.goto (r := 20) d5_16 (by decide) ?_
    subst e1 e2 e3
    exact A.retZ (v := (FB x0)) d5_20 (by simp only [FB, if_pos h4]; rfl) (by decide) (by decide) ⟨rfl, by first | rfl | (simp only [if_pos h4])⟩
theorem own_bit (x m : Int32) (k : Nat) (hk : k < 32) (hm : m.toBitVec = BitVec.twoPow 32 k) : x &&& m = 0 ↔ x.toBitVec.getLsbD k = false := by
  rw [← Int32.toBitVec_inj, Int32.toBitVec_and, hm, BitVec.and_twoPow]
  generalize x.toBitVec.getLsbD k = b
  cases b
  · simp
  · simp only [↓reduceIte, Bool.true_eq_false, iff_false]
    intro h
    have := congrArg (fun z => z.getLsbD k) h
    simp [hk] at this
theorem own_short (x : Int32) (k : Nat) (hk : k < 16) : x.toInt16.toInt32.toBitVec.getLsbD k = x.toBitVec.getLsbD k := by
  show ((x.toBitVec.signExtend 16).signExtend 32).getLsbD k = _
  have h1 : k < 32 := by omega
  rw [BitVec.getLsbD_signExtend, BitVec.getLsbD_signExtend]
  simp [hk, h1]
theorem own_xor (x m : Int32) (k : Nat) (hk : k < 32) (hm : m.toBitVec = BitVec.twoPow 32 k) : (x ^^^ m).toBitVec.getLsbD k = !x.toBitVec.getLsbD k := by
  rw [Int32.toBitVec_xor, hm]
  simp [hk]

theorem own_m3 : (8 : Int32).toBitVec = BitVec.twoPow 32 3 := by decide
theorem own_F (x : Int32) : FA (nar .short x) = if x.toBitVec.getLsbD 3 = true then 1 else 0 := by
  have h := own_bit (nar .short x) 8 3 (by decide) own_m3
  have h2 : (nar .short x).toBitVec.getLsbD 3 = x.toBitVec.getLsbD 3 := own_short x 3 (by decide)
  rw [h2] at h
  unfold FA
  cases hb : x.toBitVec.getLsbD 3
  · have q := h.mpr hb
    rw [if_pos q]; rfl
  · have q : ¬ nar .short x &&& 8 = 0 := fun q => by rw [h.mp q] at hb; cases hb
    rw [if_neg q]; rfl
theorem own_lsb (x : Int32) : (x.toBitVec.getLsbD 3 = true) ↔ (x.toInt / 8) % 2 = 1 := by
  have h : x.toBitVec.getLsbD 3 = x.toBitVec.toNat.testBit 3 := rfl
  have e : x.toInt = x.toBitVec.toInt := rfl
  rw [h, Nat.testBit_eq_decide_div_mod_eq, decide_eq_true_iff, e, BitVec.toInt_eq_toNat_cond]
  have := x.toBitVec.isLt
  split <;> omega
theorem own_G (x : Int32) : FB x = if x.toBitVec.getLsbD 3 = true then 1 else 0 := by
  have h1 := c_mask x 65535 16 (by decide) (by decide)
  have h2 := c_idiv (x &&& 65535) 8 8 (by decide) (by decide)
  have h3 := c_irem ((x &&& 65535) / 8) 2 2 (by decide)
  have h4 := own_lsb x
  have key : ((x &&& 65535) / 8 % 2 = (1 : Int32)) ↔ x.toBitVec.getLsbD 3 = true := by
    rw [h4, ← Int32.toInt_inj]
    have z1 : (1 : Int32).toInt = 1 := by decide
    rw [z1]
    generalize (x &&& 65535) = q at *
    generalize q / 8 = r at *
    omega
  unfold FB
  by_cases hb : x.toBitVec.getLsbD 3 = true
  · rw [if_pos hb, if_pos (key.mpr hb)]
  · rw [if_neg hb, if_neg (fun q => hb (key.mp q))]
theorem own_1 (x : Int32) : FA (nar .short x) = FB x := by rw [own_F, own_G]
theorem own_2 (a : Int32) : FA (nar .short ((a ^^^ (8 : Int32)).toInt16.toInt32)) = if FB (a.toInt16.toInt32) = (0 : Int32) then (1 : Int32) else (0 : Int32) := by
  rw [own_F, own_G, own_short _ 3 (by decide), own_short _ 3 (by decide), own_xor a 8 3 (by decide) own_m3]
  cases a.toBitVec.getLsbD 3 <;> decide
theorem own_3 (a m : Int32) : FA (nar .short ((a ^^^ (m &&& (-9 : Int32))).toInt16.toInt32)) = FB (a.toInt16.toInt32) := by
  rw [own_F, own_G, own_short _ 3 (by decide), own_short _ 3 (by decide)]
  have : (a ^^^ (m &&& (-9 : Int32))).toBitVec.getLsbD 3 = a.toBitVec.getLsbD 3 := by
    rw [Int32.toBitVec_xor, Int32.toBitVec_and, BitVec.getLsbD_xor, BitVec.getLsbD_and]
    have e : (-9 : Int32).toBitVec.getLsbD 3 = false := by decide
    rw [e]; simp
  rw [this]
theorem pd_1 : parseMethodDescriptor "(JIIBISIJJJSII)V" = some ⟨[.long, .int, .int, .byte, .int, .short, .int, .long, .long, .long, .short, .int, .int], none⟩ := by decide +kernel
theorem pd_2 : parseMethodDescriptor "()Z" = some ⟨[], some .boolean⟩ := by decide +kernel
theorem pd_3 : parseMethodDescriptor "(I)Z" = some ⟨[.int], some .boolean⟩ := by decide +kernel
theorem pn_0 : plainFor (⟨"com/example/urd/urd/BatchHeaderIsLogAppendTimePinLaw", "law", "(IIJJII)Z"⟩ : MethodName) = true := plainFor_of_name (by first | (simp [plainName, overriddenIn]; done) | decide +kernel)
set_option maxRecDepth 65536 in
set_option maxHeartbeats 8000000 in
theorem rm0 (l : Launch) (Z : State) (a0 : Array Value) (hw : ∀ d ∈ tables_1, d.before a0 Z = true) (n0 : Nat) (a m0 : Int32) (xx yy : Int64) (z0 w0 : Int32) :
    Triple l Z n0 x code 18 (some .boolean) room_1 16 192 [(.int a), (.int m0), (.long xx), (.long yy), (.int z0), (.int w0)] [] (fun v _ => v = some (.int 1)) := by
  refine Triple.of_body (tbl := tables_1) (a0 := a0) (Ls := #[.val (.int a), .val (.int m0), .val (.long xx), .second, .val (.long yy), .second, .val (.int z0), .val (.int w0), .unset, .unset, .unset, .unset, .unset, .unset, .unset, .unset, .unset, .unset]) pn_0 hw rfl ?_
  intro p e s m below meth c T A
  refine A.iloadN (q := 1) at_0 rfl rfl ?_
  obtain ⟨v1, e1⟩ : ∃ v : Int32, a.toInt16.toInt32 = v := ⟨_, rfl⟩
  refine A.i2s (q := 2) at_1 rfl e1 ?_
  refine A.istore (q := 4) (l' := #[.val (.int a), .val (.int m0), .val (.long xx), .second, .val (.long yy), .second, .val (.int z0), .val (.int w0), .val (.int v1), .unset, .unset, .unset, .unset, .unset, .unset, .unset, .unset, .unset]) at_2 rfl rfl ?_
  refine A.iloadN (q := 5) at_4 rfl rfl ?_
  refine A.bipush (q := 7) (v := (8 : Int32)) at_5 rfl (by decide) ?_
  obtain ⟨v2, e2⟩ : ∃ v : Int32, a ^^^ (8 : Int32) = v := ⟨_, rfl⟩
  refine A.ixor (q := 8) at_7 rfl e2 ?_
  obtain ⟨v3, e3⟩ : ∃ v : Int32, v2.toInt16.toInt32 = v := ⟨_, rfl⟩
  refine A.i2s (q := 9) at_8 rfl e3 ?_
  refine A.istore (q := 11) (l' := #[.val (.int a), .val (.int m0), .val (.long xx), .second, .val (.long yy), .second, .val (.int z0), .val (.int w0), .val (.int v1), .val (.int v3), .unset, .unset, .unset, .unset, .unset, .unset, .unset, .unset]) at_9 rfl rfl ?_
  refine A.iloadN (q := 12) at_11 rfl rfl ?_
  refine A.iloadN (q := 13) at_12 rfl rfl ?_
  refine A.bipush (q := 15) (v := (-9 : Int32)) at_13 rfl (by decide) ?_
  obtain ⟨v4, e4⟩ : ∃ v : Int32, m0 &&& (-9 : Int32) = v := ⟨_, rfl⟩
  refine A.iand (q := 16) at_15 rfl e4 ?_
  obtain ⟨v5, e5⟩ : ∃ v : Int32, a ^^^ v4 = v := ⟨_, rfl⟩
  refine A.ixor (q := 17) at_16 rfl e5 ?_
  obtain ⟨v6, e6⟩ : ∃ v : Int32, v5.toInt16.toInt32 = v := ⟨_, rfl⟩
  refine A.i2s (q := 18) at_17 rfl e6 ?_
  refine A.istore (q := 20) (l' := #[.val (.int a), .val (.int m0), .val (.long xx), .second, .val (.long yy), .second, .val (.int z0), .val (.int w0), .val (.int v1), .val (.int v3), .val (.int v6), .unset, .unset, .unset, .unset, .unset, .unset, .unset]) at_18 rfl rfl ?_
  refine A.newO (q := 23) (w1 := 0) (w2 := 1) (w3 := 2) (n := 13) (fs := [(("com/example/urd/urd/BatchHeader", "baseOffset", "J"), (.long (0 : Int64))), (("com/example/urd/urd/BatchHeader", "length", "I"), (.int (0 : Int32))), (("com/example/urd/urd/BatchHeader", "partitionLeaderEpoch", "I"), (.int (0 : Int32))), (("com/example/urd/urd/BatchHeader", "magic", "B"), (.int (0 : Int32))), (("com/example/urd/urd/BatchHeader", "crc", "I"), (.int (0 : Int32))), (("com/example/urd/urd/BatchHeader", "attributes", "S"), (.int (0 : Int32))), (("com/example/urd/urd/BatchHeader", "lastOffsetDelta", "I"), (.int (0 : Int32))), (("com/example/urd/urd/BatchHeader", "baseTimestamp", "J"), (.long (0 : Int64))), (("com/example/urd/urd/BatchHeader", "maxTimestamp", "J"), (.long (0 : Int64))), (("com/example/urd/urd/BatchHeader", "producerId", "J"), (.long (0 : Int64))), (("com/example/urd/urd/BatchHeader", "producerEpoch", "S"), (.int (0 : Int32))), (("com/example/urd/urd/BatchHeader", "baseSequence", "I"), (.int (0 : Int32))), (("com/example/urd/urd/BatchHeader", "recordCount", "I"), (.int (0 : Int32)))]) at_20 rfl rfl rfl rfl (lay_0 Z a0 hw) (by decide) (by decide) (by decide) ?_
  intro T b7 A
  refine A.dup (q := 24) at_23 rfl rfl ?_
  refine A.lloadN (q := 25) at_24 rfl rfl ?_
  refine A.iload (q := 27) at_25 rfl rfl ?_
  refine A.iload (q := 29) at_27 rfl rfl ?_
  refine A.iload (q := 31) at_29 rfl rfl ?_
  obtain ⟨v8, e8⟩ : ∃ v : Int32, z0.toInt8.toInt32 = v := ⟨_, rfl⟩
  refine A.i2b (q := 32) at_31 rfl e8 ?_
  refine A.iload (q := 34) at_32 rfl rfl ?_
  refine A.iload (q := 36) at_34 rfl rfl ?_
  refine A.iload (q := 38) at_36 rfl rfl ?_
  refine A.lloadN (q := 39) at_38 rfl rfl ?_
  refine A.lload (q := 41) at_39 rfl rfl ?_
  refine A.lload (q := 43) at_41 rfl rfl ?_
  refine A.iload (q := 45) at_43 rfl rfl ?_
  obtain ⟨v9, e9⟩ : ∃ v : Int32, w0.toInt16.toInt32 = v := ⟨_, rfl⟩
  refine A.i2s (q := 46) at_45 rfl e9 ?_
  refine A.iload (q := 48) at_46 rfl rfl ?_
  refine A.iload (q := 50) at_48 rfl rfl ?_
  refine A.callI (q := 53) (w1 := 3) (w2 := 4) (w3 := 2) (w4 := 5) (a := b7) (as := [(.long xx), (.int z0), (.int w0), (.int v8), (.int w0), (.int v1), (.int z0), (.long xx), (.long yy), (.long yy), (.int v9), (.int z0), (.int w0)]) (st := [(.ref b7)]) (W := 1) at_50 rfl rfl rfl rfl rfl rfl (rm1 l Z a0 hw n0 b7 xx z0 w0 v8 w0 v1 z0 xx yy yy v9 z0 w0 _) (by decide) ⟨_, _, pd_1, rfl⟩ rfl rfl rfl (by decide) (by decide) (by decide) (by decide) ?_
  rintro _ T _ ⟨rfl, rfl⟩ A
  show Go p e below _ (T.setTop (mkF m 53 #[.val (.int a), .val (.int m0), .val (.long xx), .second, .val (.long yy), .second, .val (.int z0), .val (.int w0), .val (.int v1), .val (.int v3), .val (.int v6), .unset, .unset, .unset, .unset, .unset, .unset, .unset] [(.ref b7)]))
  refine A.astore (q := 55) (l' := #[.val (.int a), .val (.int m0), .val (.long xx), .second, .val (.long yy), .second, .val (.int z0), .val (.int w0), .val (.int v1), .val (.int v3), .val (.int v6), .val (.ref b7), .unset, .unset, .unset, .unset, .unset, .unset]) at_53 rfl rfl rfl ?_
  refine A.newO (q := 58) (w1 := 0) (w2 := 1) (w3 := 2) (n := 13) (fs := [(("com/example/urd/urd/BatchHeader", "baseOffset", "J"), (.long (0 : Int64))), (("com/example/urd/urd/BatchHeader", "length", "I"), (.int (0 : Int32))), (("com/example/urd/urd/BatchHeader", "partitionLeaderEpoch", "I"), (.int (0 : Int32))), (("com/example/urd/urd/BatchHeader", "magic", "B"), (.int (0 : Int32))), (("com/example/urd/urd/BatchHeader", "crc", "I"), (.int (0 : Int32))), (("com/example/urd/urd/BatchHeader", "attributes", "S"), (.int (0 : Int32))), (("com/example/urd/urd/BatchHeader", "lastOffsetDelta", "I"), (.int (0 : Int32))), (("com/example/urd/urd/BatchHeader", "baseTimestamp", "J"), (.long (0 : Int64))), (("com/example/urd/urd/BatchHeader", "maxTimestamp", "J"), (.long (0 : Int64))), (("com/example/urd/urd/BatchHeader", "producerId", "J"), (.long (0 : Int64))), (("com/example/urd/urd/BatchHeader", "producerEpoch", "S"), (.int (0 : Int32))), (("com/example/urd/urd/BatchHeader", "baseSequence", "I"), (.int (0 : Int32))), (("com/example/urd/urd/BatchHeader", "recordCount", "I"), (.int (0 : Int32)))]) at_55 rfl rfl rfl rfl (lay_0 Z a0 hw) (by decide) (by decide) (by decide) ?_
  intro T b10 A
  refine A.dup (q := 59) at_58 rfl rfl ?_
  refine A.lload (q := 61) at_59 rfl rfl ?_
  refine A.iload (q := 63) at_61 rfl rfl ?_
  refine A.iload (q := 65) at_63 rfl rfl ?_
  refine A.iload (q := 67) at_65 rfl rfl ?_
  obtain ⟨v11, e11⟩ : ∃ v : Int32, w0.toInt8.toInt32 = v := ⟨_, rfl⟩
  refine A.i2b (q := 68) at_67 rfl e11 ?_
  refine A.iload (q := 70) at_68 rfl rfl ?_
  refine A.iload (q := 72) at_70 rfl rfl ?_
  refine A.iload (q := 74) at_72 rfl rfl ?_
  refine A.lload (q := 76) at_74 rfl rfl ?_
  refine A.lloadN (q := 77) at_76 rfl rfl ?_
  refine A.lloadN (q := 78) at_77 rfl rfl ?_
  refine A.iload (q := 80) at_78 rfl rfl ?_
  obtain ⟨v12, e12⟩ : ∃ v : Int32, z0.toInt16.toInt32 = v := ⟨_, rfl⟩
  refine A.i2s (q := 81) at_80 rfl e12 ?_
  refine A.iload (q := 83) at_81 rfl rfl ?_
  refine A.iload (q := 85) at_83 rfl rfl ?_
  refine A.callI (q := 88) (w1 := 3) (w2 := 4) (w3 := 2) (w4 := 5) (a := b10) (as := [(.long yy), (.int w0), (.int z0), (.int v11), (.int z0), (.int v3), (.int w0), (.long yy), (.long xx), (.long xx), (.int v12), (.int w0), (.int z0)]) (st := [(.ref b10)]) (W := 1) at_85 rfl rfl rfl rfl rfl rfl (rm1 l Z a0 hw n0 b10 yy w0 z0 v11 z0 v3 w0 yy xx xx v12 w0 z0 _) (by decide) ⟨_, _, pd_1, rfl⟩ rfl rfl rfl (by decide) (by decide) (by decide) (by decide) ?_
  rintro _ T _ ⟨rfl, rfl⟩ A
  show Go p e below _ (T.setTop (mkF m 88 #[.val (.int a), .val (.int m0), .val (.long xx), .second, .val (.long yy), .second, .val (.int z0), .val (.int w0), .val (.int v1), .val (.int v3), .val (.int v6), .val (.ref b7), .unset, .unset, .unset, .unset, .unset, .unset] [(.ref b10)]))
  refine A.astore (q := 90) (l' := #[.val (.int a), .val (.int m0), .val (.long xx), .second, .val (.long yy), .second, .val (.int z0), .val (.int w0), .val (.int v1), .val (.int v3), .val (.int v6), .val (.ref b7), .val (.ref b10), .unset, .unset, .unset, .unset, .unset]) at_88 rfl rfl rfl ?_
  refine A.newO (q := 93) (w1 := 0) (w2 := 1) (w3 := 2) (n := 13) (fs := [(("com/example/urd/urd/BatchHeader", "baseOffset", "J"), (.long (0 : Int64))), (("com/example/urd/urd/BatchHeader", "length", "I"), (.int (0 : Int32))), (("com/example/urd/urd/BatchHeader", "partitionLeaderEpoch", "I"), (.int (0 : Int32))), (("com/example/urd/urd/BatchHeader", "magic", "B"), (.int (0 : Int32))), (("com/example/urd/urd/BatchHeader", "crc", "I"), (.int (0 : Int32))), (("com/example/urd/urd/BatchHeader", "attributes", "S"), (.int (0 : Int32))), (("com/example/urd/urd/BatchHeader", "lastOffsetDelta", "I"), (.int (0 : Int32))), (("com/example/urd/urd/BatchHeader", "baseTimestamp", "J"), (.long (0 : Int64))), (("com/example/urd/urd/BatchHeader", "maxTimestamp", "J"), (.long (0 : Int64))), (("com/example/urd/urd/BatchHeader", "producerId", "J"), (.long (0 : Int64))), (("com/example/urd/urd/BatchHeader", "producerEpoch", "S"), (.int (0 : Int32))), (("com/example/urd/urd/BatchHeader", "baseSequence", "I"), (.int (0 : Int32))), (("com/example/urd/urd/BatchHeader", "recordCount", "I"), (.int (0 : Int32)))]) at_90 rfl rfl rfl rfl (lay_0 Z a0 hw) (by decide) (by decide) (by decide) ?_
  intro T b13 A
  refine A.dup (q := 94) at_93 rfl rfl ?_
  refine A.lloadN (q := 95) at_94 rfl rfl ?_
  refine A.lload (q := 97) at_95 rfl rfl ?_
  obtain ⟨v14, e14⟩ : ∃ v : Int64, xx ^^^ yy = v := ⟨_, rfl⟩
  refine A.lxor (q := 98) at_97 rfl e14 ?_
  refine A.iload (q := 100) at_98 rfl rfl ?_
  refine A.iload (q := 102) at_100 rfl rfl ?_
  obtain ⟨v15, e15⟩ : ∃ v : Int32, z0 ^^^ w0 = v := ⟨_, rfl⟩
  refine A.ixor (q := 103) at_102 rfl e15 ?_
  refine A.iloadN (q := 104) at_103 rfl rfl ?_
  refine A.iloadN (q := 105) at_104 rfl rfl ?_
  obtain ⟨v16, e16⟩ : ∃ v : Int32, m0.toInt8.toInt32 = v := ⟨_, rfl⟩
  refine A.i2b (q := 106) at_105 rfl e16 ?_
  refine A.iloadN (q := 107) at_106 rfl rfl ?_
  refine A.iload (q := 109) at_107 rfl rfl ?_
  refine A.iloadN (q := 110) at_109 rfl rfl ?_
  refine A.lload (q := 112) at_110 rfl rfl ?_
  refine A.lloadN (q := 113) at_112 rfl rfl ?_
  refine A.iloadN (q := 114) at_113 rfl rfl ?_
  obtain ⟨v17, e17⟩ : ∃ v : Int64, m0.toInt64 = v := ⟨_, rfl⟩
  refine A.i2l (q := 115) at_114 rfl e17 ?_
  refine A.iloadN (q := 116) at_115 rfl rfl ?_
  obtain ⟨v18, e18⟩ : ∃ v : Int32, m0.toInt16.toInt32 = v := ⟨_, rfl⟩
  refine A.i2s (q := 117) at_116 rfl e18 ?_
  refine A.iloadN (q := 118) at_117 rfl rfl ?_
  refine A.iloadN (q := 119) at_118 rfl rfl ?_
  refine A.callI (q := 122) (w1 := 3) (w2 := 4) (w3 := 2) (w4 := 5) (a := b13) (as := [(.long v14), (.int v15), (.int m0), (.int v16), (.int m0), (.int v6), (.int m0), (.long yy), (.long xx), (.long v17), (.int v18), (.int m0), (.int m0)]) (st := [(.ref b13)]) (W := 1) at_119 rfl rfl rfl rfl rfl rfl (rm1 l Z a0 hw n0 b13 v14 v15 m0 v16 m0 v6 m0 yy xx v17 v18 m0 m0 _) (by decide) ⟨_, _, pd_1, rfl⟩ rfl rfl rfl (by decide) (by decide) (by decide) (by decide) ?_
  rintro _ T _ ⟨rfl, rfl⟩ A
  show Go p e below _ (T.setTop (mkF m 122 #[.val (.int a), .val (.int m0), .val (.long xx), .second, .val (.long yy), .second, .val (.int z0), .val (.int w0), .val (.int v1), .val (.int v3), .val (.int v6), .val (.ref b7), .val (.ref b10), .unset, .unset, .unset, .unset, .unset] [(.ref b13)]))
  refine A.astore (q := 124) (l' := #[.val (.int a), .val (.int m0), .val (.long xx), .second, .val (.long yy), .second, .val (.int z0), .val (.int w0), .val (.int v1), .val (.int v3), .val (.int v6), .val (.ref b7), .val (.ref b10), .val (.ref b13), .unset, .unset, .unset, .unset]) at_122 rfl rfl rfl ?_
  refine A.aload (q := 126) at_124 rfl rfl rfl ?_
  have A := A.front (i := 2) (L' := [(b7, ob0 (.long xx) (.int z0) (.int w0) (.int (nar .byte v8)) (.int w0) (.int (nar .short v1)) (.int z0) (.long xx) (.long yy) (.long yy) (.int (nar .short v9)) (.int z0) (.int w0)), (b13, ob0 (.long v14) (.int v15) (.int m0) (.int (nar .byte v16)) (.int m0) (.int (nar .short v6)) (.int m0) (.long yy) (.long xx) (.long v17) (.int (nar .short v18)) (.int m0) (.int m0)), (b10, ob0 (.long yy) (.int w0) (.int z0) (.int (nar .byte v11)) (.int z0) (.int (nar .short v3)) (.int w0) (.long yy) (.long xx) (.long xx) (.int (nar .short v12)) (.int w0) (.int z0))]) rfl rfl
  refine A.callV (q := 129) (i := 0) (w1 := 40) (w2 := 41) (w3 := 2) (w4 := 44) (w5 := 43) (w6 := 42) (a := b7) (as := []) (st := []) (W := 0) at_126 rfl rfl rfl rfl rfl rfl rfl rfl (rmA l Z a0 hw n0 b7 xx z0 w0 (nar .byte v8) w0 (nar .short v1) z0 xx yy yy (nar .short v9) z0 w0 _) (by decide) ⟨_, _, pd_2, rfl⟩ rfl rfl rfl (by decide) (by decide) (by decide) (by decide) ?_
  rintro _ T _ ⟨rfl, rfl⟩ A
  show Go p e below _ (T.setTop (mkF m 129 #[.val (.int a), .val (.int m0), .val (.long xx), .second, .val (.long yy), .second, .val (.int z0), .val (.int w0), .val (.int v1), .val (.int v3), .val (.int v6), .val (.ref b7), .val (.ref b10), .val (.ref b13), .unset, .unset, .unset, .unset] [(.int (FA (nar .short v1)))]))
  obtain ⟨v19, e19⟩ : ∃ v : Int32, (FA (nar .short v1)) = v := ⟨_, rfl⟩
  rw [e19]
  refine A.istore (q := 131) (l' := #[.val (.int a), .val (.int m0), .val (.long xx), .second, .val (.long yy), .second, .val (.int z0), .val (.int w0), .val (.int v1), .val (.int v3), .val (.int v6), .val (.ref b7), .val (.ref b10), .val (.ref b13), .val (.int v19), .unset, .unset, .unset]) at_129 rfl rfl ?_
  refine A.aload (q := 133) at_131 rfl rfl rfl ?_
  have A := A.front (i := 2) (L' := [(b10, ob0 (.long yy) (.int w0) (.int z0) (.int (nar .byte v11)) (.int z0) (.int (nar .short v3)) (.int w0) (.long yy) (.long xx) (.long xx) (.int (nar .short v12)) (.int w0) (.int z0)), (b7, ob0 (.long xx) (.int z0) (.int w0) (.int (nar .byte v8)) (.int w0) (.int (nar .short v1)) (.int z0) (.long xx) (.long yy) (.long yy) (.int (nar .short v9)) (.int z0) (.int w0)), (b13, ob0 (.long v14) (.int v15) (.int m0) (.int (nar .byte v16)) (.int m0) (.int (nar .short v6)) (.int m0) (.long yy) (.long xx) (.long v17) (.int (nar .short v18)) (.int m0) (.int m0))]) rfl rfl
  refine A.callV (q := 136) (i := 0) (w1 := 40) (w2 := 41) (w3 := 2) (w4 := 44) (w5 := 43) (w6 := 42) (a := b10) (as := []) (st := []) (W := 0) at_133 rfl rfl rfl rfl rfl rfl rfl rfl (rmA l Z a0 hw n0 b10 yy w0 z0 (nar .byte v11) z0 (nar .short v3) w0 yy xx xx (nar .short v12) w0 z0 _) (by decide) ⟨_, _, pd_2, rfl⟩ rfl rfl rfl (by decide) (by decide) (by decide) (by decide) ?_
  rintro _ T _ ⟨rfl, rfl⟩ A
  show Go p e below _ (T.setTop (mkF m 136 #[.val (.int a), .val (.int m0), .val (.long xx), .second, .val (.long yy), .second, .val (.int z0), .val (.int w0), .val (.int v1), .val (.int v3), .val (.int v6), .val (.ref b7), .val (.ref b10), .val (.ref b13), .val (.int v19), .unset, .unset, .unset] [(.int (FA (nar .short v3)))]))
  obtain ⟨v20, e20⟩ : ∃ v : Int32, (FA (nar .short v3)) = v := ⟨_, rfl⟩
  rw [e20]
  refine A.istore (q := 138) (l' := #[.val (.int a), .val (.int m0), .val (.long xx), .second, .val (.long yy), .second, .val (.int z0), .val (.int w0), .val (.int v1), .val (.int v3), .val (.int v6), .val (.ref b7), .val (.ref b10), .val (.ref b13), .val (.int v19), .val (.int v20), .unset, .unset]) at_136 rfl rfl ?_
  refine A.aload (q := 140) at_138 rfl rfl rfl ?_
  have A := A.front (i := 2) (L' := [(b13, ob0 (.long v14) (.int v15) (.int m0) (.int (nar .byte v16)) (.int m0) (.int (nar .short v6)) (.int m0) (.long yy) (.long xx) (.long v17) (.int (nar .short v18)) (.int m0) (.int m0)), (b10, ob0 (.long yy) (.int w0) (.int z0) (.int (nar .byte v11)) (.int z0) (.int (nar .short v3)) (.int w0) (.long yy) (.long xx) (.long xx) (.int (nar .short v12)) (.int w0) (.int z0)), (b7, ob0 (.long xx) (.int z0) (.int w0) (.int (nar .byte v8)) (.int w0) (.int (nar .short v1)) (.int z0) (.long xx) (.long yy) (.long yy) (.int (nar .short v9)) (.int z0) (.int w0))]) rfl rfl
  refine A.callV (q := 143) (i := 0) (w1 := 40) (w2 := 41) (w3 := 2) (w4 := 44) (w5 := 43) (w6 := 42) (a := b13) (as := []) (st := []) (W := 0) at_140 rfl rfl rfl rfl rfl rfl rfl rfl (rmA l Z a0 hw n0 b13 v14 v15 m0 (nar .byte v16) m0 (nar .short v6) m0 yy xx v17 (nar .short v18) m0 m0 _) (by decide) ⟨_, _, pd_2, rfl⟩ rfl rfl rfl (by decide) (by decide) (by decide) (by decide) ?_
  rintro _ T _ ⟨rfl, rfl⟩ A
  show Go p e below _ (T.setTop (mkF m 143 #[.val (.int a), .val (.int m0), .val (.long xx), .second, .val (.long yy), .second, .val (.int z0), .val (.int w0), .val (.int v1), .val (.int v3), .val (.int v6), .val (.ref b7), .val (.ref b10), .val (.ref b13), .val (.int v19), .val (.int v20), .unset, .unset] [(.int (FA (nar .short v6)))]))
  obtain ⟨v21, e21⟩ : ∃ v : Int32, (FA (nar .short v6)) = v := ⟨_, rfl⟩
  rw [e21]
  refine A.istore (q := 145) (l' := #[.val (.int a), .val (.int m0), .val (.long xx), .second, .val (.long yy), .second, .val (.int z0), .val (.int w0), .val (.int v1), .val (.int v3), .val (.int v6), .val (.ref b7), .val (.ref b10), .val (.ref b13), .val (.int v19), .val (.int v20), .val (.int v21), .unset]) at_143 rfl rfl ?_
  refine A.iload (q := 147) at_145 rfl rfl ?_
  refine A.callS (q := 150) (w1 := 45) (w2 := 46) (w3 := 47) (w4 := 48) (as := [(.int v1)]) (st := []) (W := 0) at_147 rfl rfl rfl rfl rfl (rmB l Z a0 hw n0 v1 _) (by decide) ⟨_, _, pd_3, rfl⟩ rfl rfl rfl (by decide) (by decide) (by decide) (by decide) ?_
  rintro _ T _ ⟨rfl, rfl⟩ A
  show Go p e below _ (T.setTop (mkF m 150 #[.val (.int a), .val (.int m0), .val (.long xx), .second, .val (.long yy), .second, .val (.int z0), .val (.int w0), .val (.int v1), .val (.int v3), .val (.int v6), .val (.ref b7), .val (.ref b10), .val (.ref b13), .val (.int v19), .val (.int v20), .val (.int v21), .unset] [(.int (FB v1))]))
  obtain ⟨v22, e22⟩ : ∃ v : Int32, (FB v1) = v := ⟨_, rfl⟩
  rw [e22]
  refine A.istore (q := 152) (l' := #[.val (.int a), .val (.int m0), .val (.long xx), .second, .val (.long yy), .second, .val (.int z0), .val (.int w0), .val (.int v1), .val (.int v3), .val (.int v6), .val (.ref b7), .val (.ref b10), .val (.ref b13), .val (.int v19), .val (.int v20), .val (.int v21), .val (.int v22)]) at_150 rfl rfl ?_
  refine A.iload (q := 154) at_152 rfl rfl ?_
  refine A.iload (q := 156) at_154 rfl rfl ?_
  refine A.icmpF (q := 159) at_156 rfl (teq (by subst e1 e2 e3 e4 e5 e6 e8 e9 e11 e12 e14 e15 e16 e17 e18 e19 e20 e21 e22; exact own_1 _ : v19 = v22)).2 ?_
  refine A.iload (q := 161) at_159 rfl rfl ?_
  have J161_24 : ∀ (T : State) (j24 : Int32), j24 = (if v22 = (0 : Int32) then (1 : Int32) else (0 : Int32)) → Here p l e room_1 s m ([(.int a), (.int m0), (.long xx), (.long yy), (.int z0), (.int w0)] : List Value).toArray below meth c Z a0 tables_1 x.cls x.name code 18 (some .boolean) n0 T [(b13, ob0 (.long v14) (.int v15) (.int m0) (.int (nar .byte v16)) (.int m0) (.int (nar .short v6)) (.int m0) (.long yy) (.long xx) (.long v17) (.int (nar .short v18)) (.int m0) (.int m0)), (b10, ob0 (.long yy) (.int w0) (.int z0) (.int (nar .byte v11)) (.int z0) (.int (nar .short v3)) (.int w0) (.long yy) (.long xx) (.long xx) (.int (nar .short v12)) (.int w0) (.int z0)), (b7, ob0 (.long xx) (.int z0) (.int w0) (.int (nar .byte v8)) (.int w0) (.int (nar .short v1)) (.int z0) (.long xx) (.long yy) (.long yy) (.int (nar .short v9)) (.int z0) (.int w0))] 3 39 → Go p e below (EndS below s n0 Z 16 192 (fun v _ => v = some (.int 1))) (T.setTop (mkF m 171 #[.val (.int a), .val (.int m0), .val (.long xx), .second, .val (.long yy), .second, .val (.int z0), .val (.int w0), .val (.int v1), .val (.int v3), .val (.int v6), .val (.ref b7), .val (.ref b10), .val (.ref b13), .val (.int v19), .val (.int v20), .val (.int v21), .val (.int v22)] [(.int j24), (.int v20)])) := by
   intro T j24 ej24 A
   have z_j24 : nar .boolean j24 = j24 := by rw [ej24]; (repeat' split) <;> first | decide | assumption
   refine A.icmpF (q := 174) at_171 rfl (teq (by subst e1 e2 e3 e4 e5 e6 e8 e9 e11 e12 e14 e15 e16 e17 e18 e19 e20 e21 e22 ej24; exact own_2 _ : v20 = j24)).2 ?_
   refine A.iload (q := 176) at_174 rfl rfl ?_
   refine A.iload (q := 178) at_176 rfl rfl ?_
   refine A.icmpF (q := 181) at_178 rfl (teq (by subst e1 e2 e3 e4 e5 e6 e8 e9 e11 e12 e14 e15 e16 e17 e18 e19 e20 e21 e22 ej24; exact own_3 _ _ : v21 = v22)).2 ?_
   refine A.iconst (q := 182) (v := (1 : Int32)) at_181 rfl (by decide) ?_
   refine A.goto (r := 186) at_182 (by decide) ?_
   exact A.retZ (v := 1) at_186 (by decide) (by decide) (by decide) rfl
  refine A.iload (q := 163) at_161 rfl rfl ?_
  refine A.if_ne (q := 166) (r := 170) at_163 rfl (by decide) (fun h23 => ?_) (fun h23 => ?_)
  · refine A.iconst (q := 171) (v := (0 : Int32)) at_170 rfl (by decide) ?_
    exact J161_24 T _ (by simp only [if_neg h23]) A
  · refine A.iconst (q := 167) (v := (1 : Int32)) at_166 rfl (by decide) ?_
    refine A.goto (r := 171) at_167 (by decide) ?_
    exact J161_24 T _ (by simp only [if_pos h23]) A
set_option maxRecDepth 65536 in
set_option maxHeartbeats 8000000 in
theorem comes_1 {Post : Tables → Env → Array Value → State → Outcome → State → Prop} (hpost : ∀ tb e args s v u, (limb_1_1.after args s (.returned v) u = true ∧ limb_1_2.after args s (.returned v) u = true ∧ True) → FrameEnd s (.returned v) u (Jvm.fieldLocs frame_1_writes args s ++ Jvm.arrayLocs frame_1_arrays args s ++ Jvm.staticLocs frame_1_statics s) 16 192 → Post tb e args s (.returned v) u) :
    ArmFor flags0 classFile x code maxLocals ret World_1 tables_1 room_1 Calls_1 rest_1 Pre_1 Post := by
  intro l hfl _ _ p e ha hc hk s m args below hf hA hF happ hP
  obtain ⟨hcalls, hrest, hpre⟩ := hP
  obtain ⟨-, -, -, hnamed, -, -, -, hat⟩ := (Spec.applies_iff hf).mp happ
  obtain ⟨hg, hn⟩ := and_e (Cond.before_iff.mp (show (Jvm.Cond.and given_1 narrow_1).before args s = true from hpre))
  obtain ⟨g1, hg⟩ := and_e hg
  obtain ⟨gv0, hg⟩ := and_e hg
  obtain ⟨gv1, hg⟩ := and_e hg
  obtain ⟨gv2, hg⟩ := and_e hg
  obtain ⟨gv3, hg⟩ := and_e hg
  obtain ⟨gv4, hg⟩ := and_e hg
  have gv5 := hg
  obtain ⟨w0, w1, w2, w3, w4, w5, rfl⟩ : ∃ w0 w1 w2 w3 w4 w5 : Value, args = #[w0, w1, w2, w3, w4, w5] := by
    have hs : args.size = 6 := by simpa [Cond.value, given_1] using g1
    obtain ⟨L⟩ := args
    match L, hs with
    | [w0, w1, w2, w3, w4, w5], _ => exact ⟨w0, w1, w2, w3, w4, w5, rfl⟩
  have hw := fun d (hd : d ∈ tables_1) => atoms_spec (ws := Jvm.Cond.code x code maxLocals ret :: tables_1) hat d (List.mem_cons_of_mem _ hd)
  obtain ⟨i0, ei0⟩ := is_v gv0
  obtain rfl : w0 = (.int i0) := Option.some.inj ei0
  obtain ⟨i1, ei1⟩ := is_v gv1
  obtain rfl : w1 = (.int i1) := Option.some.inj ei1
  obtain ⟨i2, ei2⟩ := isL_v gv2
  obtain rfl : w2 = (.long i2) := Option.some.inj ei2
  obtain ⟨i3, ei3⟩ := isL_v gv3
  obtain rfl : w3 = (.long i3) := Option.some.inj ei3
  obtain ⟨i4, ei4⟩ := is_v gv4
  obtain rfl : w4 = (.int i4) := Option.some.inj ei4
  obtain ⟨i5, ei5⟩ := is_v gv5
  obtain rfl : w5 = (.int i5) := Option.some.inj ei5
  obtain ⟨n, o, h1, h2, h3, _, L, rfl, ⟨N, _, L', rfl, _⟩, hq⟩ := rm0 l s _ hw s.heap.size i0 i1 i2 i3 i4 i5 s.heap tables_1 (Nat.le_refl _) ⟨fun _ q => (nomatch q), List.nodup_nil⟩ p e ha hc hk s m _ below hf ((Spec.applies_iff_loose hf).mp happ).1 ⟨rfl, State.Warmed39.refl s, rfl⟩ trivial
  refine ⟨n, _, h1, h2, h3, hpost _ _ _ _ _ _ ⟨Cond.after_iff.mpr rfl, Cond.after_iff.mpr (eq_i res_at (Term.int_eval (1)) rfl), trivial⟩ ⟨hq.1, hq.2.1, hq.2.2.sift fun y hy => Or.inr (N y hy)⟩⟩
theorem main_1_1 : Claimed_1_1 := comes_1 fun _ _ _ _ _ _ h hF => ⟨h.1, hF⟩
theorem main_1_2 : Claimed_1_2 := comes_1 fun _ _ _ _ _ _ h hF => ⟨h.2.1, hF⟩
end Jvm.Pilot.@@N@@
namespace Jvm.Pilot.@@N@@
open Jvm Jvm.ClassFile Sem Op Lib Jvm.Free Jvm.Stand Jvm.Pilot.@@N@@.Jvm.D
/-! MADE BY PROGRAM (witnessworld.py) out of the Statement's table words and the real class files: 10 classes; the members and pool entries that the words name. The judged class is class 1, her method 2. -/
namespace start1
open Jvm.ClassFile
def u (s : String) : CpInfo := .utf8 (stringToUtf16 s)
/-- a pool by its gaps: so many unusable entries, then the entry; so many at the end -/
def gap : Nat → List CpInfo → List CpInfo
  | 0, r => r
  | n + 1, r => .unusable :: gap n r
def poolList (es : List (Nat × CpInfo)) (last : Nat) : List CpInfo := es.foldr (fun e r => gap e.1 (e.2 :: r)) (gap last [])
def pool (es : List (Nat × CpInfo)) (last : Nat) : Array CpInfo := ⟨poolList es last⟩
def fileOf (pool : Array CpInfo) (this : Nat) (attrs : Array Attribute := #[]) (ms : Array MethodInfo := #[]) (fl : Nat := 33) (sup : Nat := 0) (ifs : Array Nat := #[]) (fds : Array FieldInfo := #[]) : ClassFile where
  minorVersion := 0
  majorVersion := 65
  constantPool := pool
  accessFlags := fl
  thisClass := this
  superClass := sup
  interfaces := ifs
  fields := fds
  methods := ms
  attributes := attrs
def plain (name : String) (sup : Option ClassId) : Class where
  name := name
  kind := .ordinary
  loader := none
  accessFlags := 33
  super := sup
  interfaces := #[]
  cf := none
  fields := #[]
  methods := #[]
  instanceTypes := #[]
  staticTypes := #[]
  resolved := #[]
  callSites := []
  init := .initialized
  statics := none
  mirror := none

def pool0 : Array CpInfo := pool [(5, u "<init>"), (0, u "()V"), (1, .class_ 10), (1, u "java/lang/Object")] 113

def k0c0 : Code := { maxStack := 0, maxLocals := 1, code := object_method_1_code, exceptionTable := #[], attributes := #[] }
def k0m0 : Method := { name := "<init>", desc := "()V", sig := { parameters := [], returnType := none }, accessFlags := 1, code := some k0c0 }
/-- java/lang/Object -/
def k0 : Class := { plain "java/lang/Object" none with
  accessFlags := 33
  interfaces := #[]
  cf := some (fileOf pool0 8 #[] #[{ accessFlags := 1, nameIndex := 5, descriptorIndex := 6, attributes := #[] }] 33 0 #[] #[])
  fields := #[]
  methods := #[k0m0]
  instanceTypes := #[]
  staticTypes := #[]
  resolved := Array.replicate 124 none
  statics := none }

def pool1 : Array CpInfo := pool [(2, .class_ 4), (1, u "java/lang/Object"), (0, u "<init>"), (0, u "()V"), (0, .integer 65535), (0, .class_ 9), (0, u "com/example/urd/urd/BatchHeader"), (0, .methodref 8 11), (0, .nameAndType 5 12), (0, u "(JIIBISIJJJSII)V"), (0, .methodref 8 14), (0, .nameAndType 15 16), (0, u "isLogAppendTime"), (0, u "()Z"), (0, .methodref 18 19), (0, .class_ 20), (0, .nameAndType 21 22), (0, u "com/example/urd/urd/BatchHeaderIsLogAppendTimePinLaw"), (0, u "bit3"), (0, u "(I)Z"), (3, u "law"), (0, u "(IIJJII)Z")] 2

def k1m0 : Method := { name := "<init>", desc := "()V", sig := { parameters := [], returnType := none }, accessFlags := 2, code := none }
def k1c1 : Code := { maxStack := 2, maxLocals := 2, code := method_2_code, exceptionTable := #[], attributes := #[] }
def k1m1 : Method := { name := "bit3", desc := "(I)Z", sig := { parameters := [.int], returnType := some .boolean }, accessFlags := 10, code := some k1c1 }
def k1c2 : Code := { maxStack := 19, maxLocals := 18, code := code, exceptionTable := #[], attributes := #[] }
def k1m2 : Method := { name := "law", desc := "(IIJJII)Z", sig := { parameters := [.int, .int, .long, .long, .int, .int], returnType := some .boolean }, accessFlags := 9, code := some k1c2 }
/-- com/example/urd/urd/BatchHeaderIsLogAppendTimePinLaw -/
def k1 : Class := { plain "com/example/urd/urd/BatchHeaderIsLogAppendTimePinLaw" (some 0) with
  accessFlags := 49
  interfaces := #[]
  cf := some (fileOf pool1 18 #[] #[{ accessFlags := 2, nameIndex := 5, descriptorIndex := 6, attributes := #[] }, { accessFlags := 10, nameIndex := 21, descriptorIndex := 22, attributes := #[] }, { accessFlags := 9, nameIndex := 26, descriptorIndex := 27, attributes := #[] }] 49 2 #[] #[])
  fields := #[]
  methods := #[k1m0, k1m1, k1m2]
  instanceTypes := #[]
  staticTypes := #[]
  resolved := Array.replicate 30 none
  statics := none }

def pool2 : Array CpInfo := pool [(1, .methodref 2 3), (0, .class_ 4), (0, .nameAndType 5 6), (0, u "java/lang/Object"), (0, u "<init>"), (0, u "()V"), (0, .class_ 8), (0, u "java/lang/Record")] 13

def k2c0 : Code := { maxStack := 1, maxLocals := 1, code := jdk_30_method_1_code, exceptionTable := #[], attributes := #[] }
def k2m0 : Method := { name := "<init>", desc := "()V", sig := { parameters := [], returnType := none }, accessFlags := 4, code := some k2c0 }
/-- java/lang/Record -/
def k2 : Class := { plain "java/lang/Record" (some 0) with
  accessFlags := 1057
  interfaces := #[]
  cf := some (fileOf pool2 7 #[] #[{ accessFlags := 4, nameIndex := 5, descriptorIndex := 6, attributes := #[] }] 1057 2 #[] #[])
  fields := #[]
  methods := #[k2m0]
  instanceTypes := #[]
  staticTypes := #[]
  resolved := Array.replicate 22 none
  statics := none }

def pool3 : Array CpInfo := pool [(1, .class_ 2), (0, u "com/example/urd/urd/BatchHeader"), (2, .methodref 6 7), (0, .class_ 8), (0, .nameAndType 9 10), (0, u "java/lang/Record"), (0, u "<init>"), (0, u "()V"), (0, .fieldref 1 12), (0, .nameAndType 13 14), (0, u "baseOffset"), (0, u "J"), (0, .fieldref 1 16), (0, .nameAndType 17 18), (0, u "length"), (0, u "I"), (0, .fieldref 1 20), (0, .nameAndType 21 18), (0, u "partitionLeaderEpoch"), (0, .fieldref 1 23), (0, .nameAndType 24 25), (0, u "magic"), (0, u "B"), (0, .fieldref 1 27), (0, .nameAndType 28 18), (0, u "crc"), (0, .fieldref 1 30), (0, .nameAndType 31 32), (0, u "attributes"), (0, u "S"), (0, .fieldref 1 34), (0, .nameAndType 35 18), (0, u "lastOffsetDelta"), (0, .fieldref 1 37), (0, .nameAndType 38 14), (0, u "baseTimestamp"), (0, .fieldref 1 40), (0, .nameAndType 41 14), (0, u "maxTimestamp"), (0, .fieldref 1 43), (0, .nameAndType 44 14), (0, u "producerId"), (0, .fieldref 1 46), (0, .nameAndType 47 32), (0, u "producerEpoch"), (0, .fieldref 1 49), (0, .nameAndType 50 18), (0, u "baseSequence"), (0, .fieldref 1 52), (0, .nameAndType 53 18), (0, u "recordCount"), (20, u "(JIIBISIJJJSII)V"), (44, u "BASE_OFFSET"), (2, u "LENGTH"), (1, u "PARTITION_LEADER_EPOCH"), (1, u "MAGIC"), (1, u "CRC"), (1, u "ATTRIBUTES"), (1, u "LAST_OFFSET_DELTA"), (1, u "BASE_TIMESTAMP"), (1, u "MAX_TIMESTAMP"), (1, u "PRODUCER_ID"), (1, u "PRODUCER_EPOCH"), (1, u "BASE_SEQUENCE"), (1, u "RECORD_COUNT"), (1, u "HEADER_SIZE"), (1, u "LOG_OVERHEAD"), (0, u "CURRENT_MAGIC"), (1, u "NO_PRODUCER_ID"), (2, u "NO_PRODUCER_EPOCH"), (1, u "NO_SEQUENCE"), (0, u "MIN_LENGTH"), (1, u "MAX_LENGTH"), (1, u "COMPRESSION_MASK"), (1, u "LOG_APPEND_TIME_FLAG"), (0, u "TRANSACTIONAL_FLAG"), (0, u "CONTROL_FLAG"), (13, u "isLogAppendTime"), (0, u "()Z")] 48

def k3c0 : Code := { maxStack := 3, maxLocals := 18, code := prog_2_method_1_code, exceptionTable := #[], attributes := #[] }
def k3m0 : Method := { name := "<init>", desc := "(JIIBISIJJJSII)V", sig := { parameters := [.long, .int, .int, .byte, .int, .short, .int, .long, .long, .long, .short, .int, .int], returnType := none }, accessFlags := 0, code := some k3c0 }
def k3c1 : Code := { maxStack := 2, maxLocals := 1, code := prog_2_method_7_code, exceptionTable := #[], attributes := #[] }
def k3m1 : Method := { name := "isLogAppendTime", desc := "()Z", sig := { parameters := [], returnType := some .boolean }, accessFlags := 0, code := some k3c1 }
/-- com/example/urd/urd/BatchHeader -/
def k3 : Class := { plain "com/example/urd/urd/BatchHeader" (some 2) with
  accessFlags := 48
  interfaces := #[]
  cf := some (fileOf pool3 1 #[] #[{ accessFlags := 0, nameIndex := 9, descriptorIndex := 74, attributes := #[] }, { accessFlags := 0, nameIndex := 179, descriptorIndex := 180, attributes := #[] }] 48 6 #[] #[{ accessFlags := 18, nameIndex := 13, descriptorIndex := 14, attributes := #[] }, { accessFlags := 18, nameIndex := 17, descriptorIndex := 18, attributes := #[] }, { accessFlags := 18, nameIndex := 21, descriptorIndex := 18, attributes := #[] }, { accessFlags := 18, nameIndex := 24, descriptorIndex := 25, attributes := #[] }, { accessFlags := 18, nameIndex := 28, descriptorIndex := 18, attributes := #[] }, { accessFlags := 18, nameIndex := 31, descriptorIndex := 32, attributes := #[] }, { accessFlags := 18, nameIndex := 35, descriptorIndex := 18, attributes := #[] }, { accessFlags := 18, nameIndex := 38, descriptorIndex := 14, attributes := #[] }, { accessFlags := 18, nameIndex := 41, descriptorIndex := 14, attributes := #[] }, { accessFlags := 18, nameIndex := 44, descriptorIndex := 14, attributes := #[] }, { accessFlags := 18, nameIndex := 47, descriptorIndex := 32, attributes := #[] }, { accessFlags := 18, nameIndex := 50, descriptorIndex := 18, attributes := #[] }, { accessFlags := 18, nameIndex := 53, descriptorIndex := 18, attributes := #[] }, { accessFlags := 24, nameIndex := 119, descriptorIndex := 18, attributes := #[] }, { accessFlags := 24, nameIndex := 122, descriptorIndex := 18, attributes := #[] }, { accessFlags := 24, nameIndex := 124, descriptorIndex := 18, attributes := #[] }, { accessFlags := 24, nameIndex := 126, descriptorIndex := 18, attributes := #[] }, { accessFlags := 24, nameIndex := 128, descriptorIndex := 18, attributes := #[] }, { accessFlags := 24, nameIndex := 130, descriptorIndex := 18, attributes := #[] }, { accessFlags := 24, nameIndex := 132, descriptorIndex := 18, attributes := #[] }, { accessFlags := 24, nameIndex := 134, descriptorIndex := 18, attributes := #[] }, { accessFlags := 24, nameIndex := 136, descriptorIndex := 18, attributes := #[] }, { accessFlags := 24, nameIndex := 138, descriptorIndex := 18, attributes := #[] }, { accessFlags := 24, nameIndex := 140, descriptorIndex := 18, attributes := #[] }, { accessFlags := 24, nameIndex := 142, descriptorIndex := 18, attributes := #[] }, { accessFlags := 24, nameIndex := 144, descriptorIndex := 18, attributes := #[] }, { accessFlags := 24, nameIndex := 146, descriptorIndex := 18, attributes := #[] }, { accessFlags := 24, nameIndex := 148, descriptorIndex := 18, attributes := #[] }, { accessFlags := 24, nameIndex := 149, descriptorIndex := 25, attributes := #[] }, { accessFlags := 24, nameIndex := 151, descriptorIndex := 14, attributes := #[] }, { accessFlags := 24, nameIndex := 154, descriptorIndex := 32, attributes := #[] }, { accessFlags := 24, nameIndex := 156, descriptorIndex := 18, attributes := #[] }, { accessFlags := 24, nameIndex := 157, descriptorIndex := 18, attributes := #[] }, { accessFlags := 24, nameIndex := 159, descriptorIndex := 18, attributes := #[] }, { accessFlags := 26, nameIndex := 161, descriptorIndex := 18, attributes := #[] }, { accessFlags := 26, nameIndex := 163, descriptorIndex := 18, attributes := #[] }, { accessFlags := 26, nameIndex := 164, descriptorIndex := 18, attributes := #[] }, { accessFlags := 26, nameIndex := 165, descriptorIndex := 18, attributes := #[] }])
  fields := #[{ name := "baseOffset", type := .long, accessFlags := 18, slot := 0, constantValue := 0 }, { name := "length", type := .int, accessFlags := 18, slot := 1, constantValue := 0 }, { name := "partitionLeaderEpoch", type := .int, accessFlags := 18, slot := 2, constantValue := 0 }, { name := "magic", type := .byte, accessFlags := 18, slot := 3, constantValue := 0 }, { name := "crc", type := .int, accessFlags := 18, slot := 4, constantValue := 0 }, { name := "attributes", type := .short, accessFlags := 18, slot := 5, constantValue := 0 }, { name := "lastOffsetDelta", type := .int, accessFlags := 18, slot := 6, constantValue := 0 }, { name := "baseTimestamp", type := .long, accessFlags := 18, slot := 7, constantValue := 0 }, { name := "maxTimestamp", type := .long, accessFlags := 18, slot := 8, constantValue := 0 }, { name := "producerId", type := .long, accessFlags := 18, slot := 9, constantValue := 0 }, { name := "producerEpoch", type := .short, accessFlags := 18, slot := 10, constantValue := 0 }, { name := "baseSequence", type := .int, accessFlags := 18, slot := 11, constantValue := 0 }, { name := "recordCount", type := .int, accessFlags := 18, slot := 12, constantValue := 0 }, { name := "BASE_OFFSET", type := .int, accessFlags := 24, slot := 0, constantValue := 0 }, { name := "LENGTH", type := .int, accessFlags := 24, slot := 1, constantValue := 0 }, { name := "PARTITION_LEADER_EPOCH", type := .int, accessFlags := 24, slot := 2, constantValue := 0 }, { name := "MAGIC", type := .int, accessFlags := 24, slot := 3, constantValue := 0 }, { name := "CRC", type := .int, accessFlags := 24, slot := 4, constantValue := 0 }, { name := "ATTRIBUTES", type := .int, accessFlags := 24, slot := 5, constantValue := 0 }, { name := "LAST_OFFSET_DELTA", type := .int, accessFlags := 24, slot := 6, constantValue := 0 }, { name := "BASE_TIMESTAMP", type := .int, accessFlags := 24, slot := 7, constantValue := 0 }, { name := "MAX_TIMESTAMP", type := .int, accessFlags := 24, slot := 8, constantValue := 0 }, { name := "PRODUCER_ID", type := .int, accessFlags := 24, slot := 9, constantValue := 0 }, { name := "PRODUCER_EPOCH", type := .int, accessFlags := 24, slot := 10, constantValue := 0 }, { name := "BASE_SEQUENCE", type := .int, accessFlags := 24, slot := 11, constantValue := 0 }, { name := "RECORD_COUNT", type := .int, accessFlags := 24, slot := 12, constantValue := 0 }, { name := "HEADER_SIZE", type := .int, accessFlags := 24, slot := 13, constantValue := 0 }, { name := "LOG_OVERHEAD", type := .int, accessFlags := 24, slot := 14, constantValue := 0 }, { name := "CURRENT_MAGIC", type := .byte, accessFlags := 24, slot := 15, constantValue := 0 }, { name := "NO_PRODUCER_ID", type := .long, accessFlags := 24, slot := 16, constantValue := 0 }, { name := "NO_PRODUCER_EPOCH", type := .short, accessFlags := 24, slot := 17, constantValue := 0 }, { name := "NO_SEQUENCE", type := .int, accessFlags := 24, slot := 18, constantValue := 0 }, { name := "MIN_LENGTH", type := .int, accessFlags := 24, slot := 19, constantValue := 0 }, { name := "MAX_LENGTH", type := .int, accessFlags := 24, slot := 20, constantValue := 0 }, { name := "COMPRESSION_MASK", type := .int, accessFlags := 26, slot := 21, constantValue := 0 }, { name := "LOG_APPEND_TIME_FLAG", type := .int, accessFlags := 26, slot := 22, constantValue := 0 }, { name := "TRANSACTIONAL_FLAG", type := .int, accessFlags := 26, slot := 23, constantValue := 0 }, { name := "CONTROL_FLAG", type := .int, accessFlags := 26, slot := 24, constantValue := 0 }]
  methods := #[k3m0, k3m1]
  instanceTypes := #[.long, .int, .int, .byte, .int, .short, .int, .long, .long, .long, .short, .int, .int]
  staticTypes := #[.int, .int, .int, .int, .int, .int, .int, .int, .int, .int, .int, .int, .int, .int, .int, .byte, .long, .short, .int, .int, .int, .int, .int, .int, .int]
  resolved := Array.replicate 229 none
  statics := none }

def pool4 : Array CpInfo := pool [(1, u "java/lang/Cloneable"), (0, .class_ 1), (0, u "java/lang/Object"), (0, .class_ 3)] 3

/-- java/lang/Cloneable -/
def k4 : Class := { plain "java/lang/Cloneable" (some 0) with
  accessFlags := 1537
  interfaces := #[]
  cf := some (fileOf pool4 2 #[] #[] 1537 4 #[] #[])
  fields := #[]
  methods := #[]
  instanceTypes := #[]
  staticTypes := #[]
  resolved := Array.replicate 8 none
  statics := none }

def pool5 : Array CpInfo := pool [(1, u "java/io/Serializable"), (0, .class_ 1), (0, u "java/lang/Object"), (0, .class_ 3)] 3

/-- java/io/Serializable -/
def k5 : Class := { plain "java/io/Serializable" (some 0) with
  accessFlags := 1537
  interfaces := #[]
  cf := some (fileOf pool5 2 #[] #[] 1537 4 #[] #[])
  fields := #[]
  methods := #[]
  instanceTypes := #[]
  staticTypes := #[]
  resolved := Array.replicate 8 none
  statics := none }

/-- the primitive byte -/
def k6 : Class := { plain "byte" none with kind := .primitive 'B', accessFlags := 0x411 }
/-- [B -/
def k7 : Class := { plain "[B" (some 0) with kind := .array 6 .byte, interfaces := #[4, 5], accessFlags := 1041 }

/-- the primitive int -/
def k8 : Class := { plain "int" none with kind := .primitive 'I', accessFlags := 0x411 }
/-- [I -/
def k9 : Class := { plain "[I" (some 0) with kind := .array 8 .int, interfaces := #[4, 5], accessFlags := 1041 }

def heap : Heap := #[]
def classes : Array Class := #[k0, k1, k2, k3, k4, k5, k6, k7, k8, k9]
def interned : List (Array UInt16 × Addr) := []
def slotsUsed : Nat := 0
def theMethod : MethodId := ⟨1, 2⟩
def args0 : Array Value := #[.int 5, .int 3, .long 1, .long 2, .int 32, .int 7]
def aboutOver (below : List Frame) : State where
  vm := { classes := classes, interned := interned.toArray }
  heap := heap
  slotsUsed := slotsUsed
  threads := #[{ frames := .invoking theMethod args0 :: below }]
def below0 : List Frame := [.native { method := ⟨0, 0⟩, args := #[] }]
def about1 : State := aboutOver below0
def p0 : Program := .bare "" "" ""
def e0 : Env := launch0.env 0 0 0
theorem w_frames : about1.frames = Frame.invoking theMethod args0 :: below0 := rfl
set_option maxRecDepth 65536 in
theorem w_args : argsFit about1.vm theMethod args0 = true := by decide +kernel
set_option maxRecDepth 65536 in
theorem w_heap : heapFits about1 = true := by decide +kernel
set_option maxRecDepth 65536 in
theorem w_runnable : about1.curStatus? = some .runnable := by decide +kernel
set_option maxRecDepth 65536 in
theorem w_alone : about1.alone = true := by decide +kernel
set_option maxRecDepth 65536 in
theorem w_named : about1.methodNamed? x = some theMethod := by decide +kernel
set_option maxRecDepth 65536 in
theorem w_hears : about1.hears theMethod below0 = true := by decide +kernel
set_option maxRecDepth 65536 in
theorem w_ripe : about1.ripe theMethod args0 below0 = true := by decide +kernel
theorem w_running : about1.status = .running := rfl
set_option maxRecDepth 65536 in
theorem w_room : about1.hasRoom e0.platform room_1 = true :=
  launch0.hasRoom_least _ room_1 (by decide +kernel) (by decide +kernel) (by decide +kernel) (by decide +kernel) (by decide +kernel) (by decide +kernel)
theorem allAtoms_all (ts : List Jvm.Cond) (a : Array Jvm.Value) (st : Jvm.State) : (allAtoms ts).before a st = ts.all (fun c => c.before a st) := by
  induction ts with
  | nil => rfl
  | cons c t ih =>
    show (Jvm.Cond.and c (allAtoms t)).before a st = _
    rw [Jvm.Cond.before_and, ih, List.all_cons]
def words1 : List Jvm.Cond := Jvm.Cond.code x code maxLocals ret :: tables_1
/-- a 'code' word, met by the world's own term for the bytes: nothing is compared byte by byte -/
theorem code_word {y : MethodName} {bytes : ByteArray} {mx : Nat} {rt : Option FieldType} {a : Array Value} {s : State} {m : MethodId} {meth : Method} {c : Code} (h1 : s.methodNamed? y = some m) (h2 : s.vm.method? m = some meth) (h3 : meth.code = some c) (h4 : c.code = bytes)
    (h5 : (c.maxLocals == mx && c.exceptionTable.isEmpty && decide (c.maxStack ≤ mostOperands) && decide (meth.sig.returnType = rt) && !meth.locks && decide (parseMethodDescriptor y.desc = some meth.sig)) = true) : (Jvm.Cond.code y bytes mx rt).before a s = true := by
  simp only [Bool.and_eq_true, beq_iff_eq, Bool.not_eq_true', decide_eq_true_eq] at h5
  obtain ⟨⟨⟨⟨⟨g1, g2⟩, g3⟩, g4⟩, g5⟩, g6⟩ := h5
  simp [Cond.before, Cond.holds, Cond.value, h1, h2, h3, h4, g1, g2, g3, g4, g5, g6]
def isCode : Jvm.Cond → Bool
  | .code _ _ _ _ => true
  | _ => false
theorem all_split {L : List Jvm.Cond} {P : Jvm.Cond → Bool} (h1 : L.all (fun c => isCode c || P c) = true) (h2 : ∀ c ∈ L.filter isCode, P c = true) : L.all P = true := by
  refine List.all_eq_true.mpr fun c hc => ?_
  have h := List.all_eq_true.mp h1 c hc
  rcases Bool.eq_false_or_eq_true (isCode c) with hi | hi
  · exact h2 c (List.mem_filter.mpr ⟨hc, hi⟩)
  · simpa [hi] using h
set_option maxRecDepth 65536 in
theorem w_c0 : (Jvm.Cond.code x code maxLocals ret).before args0 about1 = true := code_word (m := ⟨1, 2⟩) (meth := k1m2) (c := k1c2) (by decide +kernel) rfl rfl rfl (by decide +kernel)
set_option maxRecDepth 65536 in
theorem w_c1 : (Jvm.Cond.code ({ cls := "com/example/urd/urd/BatchHeader", name := "<init>", desc := "(JIIBISIJJJSII)V" } : Jvm.MethodName) prog_2_method_1_code (18 : Nat) (Option.none : Option Jvm.ClassFile.FieldType)).before args0 about1 = true := code_word (m := ⟨3, 0⟩) (meth := k3m0) (c := k3c0) (by decide +kernel) rfl rfl rfl (by decide +kernel)
set_option maxRecDepth 65536 in
theorem w_c2 : (Jvm.Cond.code ({ cls := "java/lang/Record", name := "<init>", desc := "()V" } : Jvm.MethodName) jdk_30_method_1_code (1 : Nat) (Option.none : Option Jvm.ClassFile.FieldType)).before args0 about1 = true := code_word (m := ⟨2, 0⟩) (meth := k2m0) (c := k2c0) (by decide +kernel) rfl rfl rfl (by decide +kernel)
set_option maxRecDepth 65536 in
theorem w_c3 : (Jvm.Cond.code ({ cls := "java/lang/Object", name := "<init>", desc := "()V" } : Jvm.MethodName) object_method_1_code (1 : Nat) (Option.none : Option Jvm.ClassFile.FieldType)).before args0 about1 = true := code_word (m := ⟨0, 0⟩) (meth := k0m0) (c := k0c0) (by decide +kernel) rfl rfl rfl (by decide +kernel)
set_option maxRecDepth 65536 in
theorem w_c4 : (Jvm.Cond.code ({ cls := "com/example/urd/urd/BatchHeader", name := "isLogAppendTime", desc := "()Z" } : Jvm.MethodName) prog_2_method_7_code (1 : Nat) (Option.some Jvm.ClassFile.FieldType.boolean)).before args0 about1 = true := code_word (m := ⟨3, 1⟩) (meth := k3m1) (c := k3c1) (by decide +kernel) rfl rfl rfl (by decide +kernel)
set_option maxRecDepth 65536 in
theorem w_c5 : (Jvm.Cond.code ({ cls := "com/example/urd/urd/BatchHeaderIsLogAppendTimePinLaw", name := "bit3", desc := "(I)Z" } : Jvm.MethodName) method_2_code (2 : Nat) (Option.some Jvm.ClassFile.FieldType.boolean)).before args0 about1 = true := code_word (m := ⟨1, 1⟩) (meth := k1m1) (c := k1c1) (by decide +kernel) rfl rfl rfl (by decide +kernel)
def codes1 : List Jvm.Cond := [Jvm.Cond.code x code maxLocals ret, Jvm.Cond.code ({ cls := "com/example/urd/urd/BatchHeader", name := "<init>", desc := "(JIIBISIJJJSII)V" } : Jvm.MethodName) prog_2_method_1_code (18 : Nat) (Option.none : Option Jvm.ClassFile.FieldType), Jvm.Cond.code ({ cls := "java/lang/Record", name := "<init>", desc := "()V" } : Jvm.MethodName) jdk_30_method_1_code (1 : Nat) (Option.none : Option Jvm.ClassFile.FieldType), Jvm.Cond.code ({ cls := "java/lang/Object", name := "<init>", desc := "()V" } : Jvm.MethodName) object_method_1_code (1 : Nat) (Option.none : Option Jvm.ClassFile.FieldType), Jvm.Cond.code ({ cls := "com/example/urd/urd/BatchHeader", name := "isLogAppendTime", desc := "()Z" } : Jvm.MethodName) prog_2_method_7_code (1 : Nat) (Option.some Jvm.ClassFile.FieldType.boolean), Jvm.Cond.code ({ cls := "com/example/urd/urd/BatchHeaderIsLogAppendTimePinLaw", name := "bit3", desc := "(I)Z" } : Jvm.MethodName) method_2_code (2 : Nat) (Option.some Jvm.ClassFile.FieldType.boolean)]
set_option maxRecDepth 65536 in
theorem codes_eq : words1.filter isCode = codes1 := rfl
theorem w_codes : ∀ c ∈ words1.filter isCode, c.before args0 about1 = true := by
  rw [codes_eq]
  intro c hc
  simp only [codes1, List.mem_cons, List.not_mem_nil, or_false] at hc
  rcases hc with rfl | rfl | rfl | rfl | rfl | rfl
  · exact w_c0
  · exact w_c1
  · exact w_c2
  · exact w_c3
  · exact w_c4
  · exact w_c5
set_option maxRecDepth 65536 in
theorem w_t1 : (words1.take 24).all (fun c => isCode c || c.before args0 about1) = true := by decide +kernel
set_option maxRecDepth 65536 in
theorem w_t2 : ((words1.drop 24).take 24).all (fun c => isCode c || c.before args0 about1) = true := by decide +kernel
set_option maxRecDepth 65536 in
theorem w_t3 : ((words1.drop 24).drop 24).all (fun c => isCode c || c.before args0 about1) = true := by decide +kernel
theorem w_tables : (allAtoms (Jvm.Cond.code x code maxLocals ret :: tables_1)).before args0 about1 = true := by
  rw [allAtoms_all]
  show words1.all (fun c => c.before args0 about1) = true
  refine all_split ?_ w_codes
  rw [← List.take_append_drop 24 words1, List.all_append, w_t1, ← List.take_append_drop 24 (words1.drop 24), List.all_append, w_t2, w_t3]
  rfl
set_option maxRecDepth 65536 in
theorem w_case : (Jvm.Cond.and given_1 narrow_1).before args0 about1 = true := by decide +kernel
theorem w_applies : (headSpec (Jvm.Cond.code x code maxLocals ret :: tables_1) room_1).applies x e0.platform about1 = true :=
  (Spec.applies_iff w_frames).mpr ⟨w_running, w_runnable, w_alone, w_named, w_hears, w_ripe, w_room, w_tables⟩
theorem atStart : AtStart classFile x code maxLocals ret World_1 tables_1 room_1 Calls_1 rest_1 Pre_1 launch0 p0 e0 about1 theMethod args0 below0 :=
  ⟨lists_1, trivial, launch0.admits_env _ _ _, launch0.least_env, fairChoices_fair.cas, fairChoices_fair.clock, w_frames, w_args, w_heap, w_applies, trivial, trivial, w_case⟩
end start1
theorem witness_1 : WitnessClaimed_1 := ⟨start1.p0, start1.e0, start1.about1, start1.theMethod, start1.args0, start1.below0, start1.atStart⟩
end Jvm.Pilot.@@N@@
