import JvmDerived
import JvmDerived.Pilot.@@N@@Statement
import JvmDerived.Pilot.@@N@@Code
set_option linter.unusedVariables false
set_option linter.unusedSimpArgs false
namespace Jvm.Pilot.@@N@@
open Jvm Jvm.ClassFile Sem Op Lib Jvm.Free Jvm.Stand Jvm.LawKit Jvm.RoadKit Bundle Jvm.Pilot.@@N@@.Jvm.D
section OwnKit
def own_Go (tb : Tables) (e : Env) (below : List Frame) (P : State → Outcome → Prop) (S : State) : Prop := ∃ s₂ o, Steps tb e below S s₂ ∧ s₂.status = .running ∧ Ended s₂ below o ∧ P s₂ o
theorem own_Go.st {tb : Tables} {e : Env} {below : List Frame} {P : State → Outcome → Prop} {S S' : State} (g : own_Go tb e below P S') (h : ∀ t, Steps tb e below S' t → Steps tb e below S t) : own_Go tb e below P S := by
  obtain ⟨s₂, o, h1, h2⟩ := g; exact ⟨s₂, o, h _ h1, h2⟩
/-- the heap: all that stood at the start stands; the listed new cells, all different, are as their predicates say -/
def own_H (h0 h : Heap) (L : List (Addr × (Cell → Prop))) : Prop := Ext h0 h ∧ (∀ q ∈ L, h0.size ≤ q.1 ∧ ∃ c, h[q.1]? = some c ∧ q.2 c) ∧ (L.map (·.1)).Nodup
def own_ex (Z : State) (C : String) (c : Cell) : Prop := ∃ k : Class, Z.vm.findClass C = some c.cls ∧ Z.vm.classes[c.cls]? = some k ∧ c.vm.isStatics = false ∧ (k.kind = .ordinary → c.slots.size = k.instanceTypes.size)
def own_fd (Z : State) (C n d : String) (v : Value) (c : Cell) : Prop := ∃ (cf : ClassId) (k : Class) (i : Nat) (f : Field), Z.fieldFound? C n d = some (cf, k, i, f) ∧ f.isStatic = false ∧ c.vm ≠ .unknown ∧ c.vm.isStatics = false ∧ Z.vm.assignable c.cls cf = true ∧ c.slots[f.slot]? = some v
def own_ob (Z : State) (C : String) (fs : List (String × String × Value)) (c : Cell) : Prop := own_ex Z C c ∧ ∀ q ∈ fs, own_fd Z C q.1 q.2.1 q.2.2 c
def own_ar (Z : State) (ty : FieldType) (vs : List Value) (c : Cell) : Prop := Z.isArrayOf c ty ∧ c.vm ≠ .unknown ∧ c.slots.toList = vs ∧ own_ex Z ("[" ++ ty.toString) c
def own_lay (Z : State) (a0 : Array Value) (C : String) : List (String × String × FieldType) → Prop
  | [] => True
  | q :: r => (Laid Z a0 C C q.1 q.2.1 ∧ parseFieldDescriptor q.2.1 = some q.2.2) ∧ own_lay Z a0 C r
theorem own_lay.mem {Z : State} {a0 : Array Value} {C : String} : ∀ {N : List (String × String × FieldType)}, own_lay Z a0 C N → ∀ q ∈ N, Laid Z a0 C C q.1 q.2.1 ∧ parseFieldDescriptor q.2.1 = some q.2.2
  | [], _, _, h => nomatch h
  | _ :: _, ⟨h1, h2⟩, q, h => (List.mem_cons.mp h).elim (fun e => e ▸ h1) (own_lay.mem h2 q)
def own_S (p : Program) (l : Launch) (e : Env) (R : Room) (s : State) (m : MethodId) (args : Array Value) (below : List Frame) (meth : Method) (c : Code) (Z T : State) (L : List (Addr × (Cell → Prop))) (k n : Nat) : Prop :=
  ∃ locs, Stand p l e R s m args below meth c T locs k n ∧ Fr Z.heap.size locs ∧ own_H Z.heap T.heap L
def own_C (p : Program) (s : State) (m : MethodId) (meth : Method) (c : Code) (Z : State) (own nm : String) (code : ByteArray) (ml : Nat) (rt : Option FieldType) : Prop :=
  p.tables.exec = Jvm.exec ∧ c.code = code ∧ c.maxLocals = ml ∧ Z.Warmed39 s.vm ∧ s.vm.findClass own = some m.cls ∧ meth.name = nm ∧ meth.sig.returnType = rt ∧ meth.locks = false
def own_E (Z s : State) (R : Room) (Q : Option Value → List (Addr × (Cell → Prop)) → Prop) (t : State) (o : Outcome) : Prop :=
  ∃ v L locs, o = .returned v ∧ Q v L ∧ own_H Z.heap t.heap L ∧ Fr Z.heap.size locs ∧ FrameEnd s o t locs R.cells R.slots
def own_Con (l : Launch) (Z : State) (y : MethodName) (bytes : ByteArray) (maxL : Nat) (ret : Option FieldType) (rm : Room) (as' : Array Value) (L : List (Addr × (Cell → Prop))) (Q : Option Value → List (Addr × (Cell → Prop)) → Prop) : Prop :=
  ∀ ws, MetFree l y (head1 (Jvm.Cond.code y bytes maxL ret :: ws) rm) (fun a U => a = as' ∧ Z.Warmed39 U.vm ∧ own_H Z.heap U.heap L) (fun _ _ _ _ _ => True) (fun _ U o U' => own_E Z U rm Q U' o)
/-! the heap's list -/
section Heaps
variable {h0 h h' : Heap} {L : List (Addr × (Cell → Prop))} {a : Addr} {Pq Pq' : Cell → Prop} {i : Nat}
theorem own_H.get (H : own_H h0 h L) (hi : L[i]? = some (a, Pq)) : h0.size ≤ a ∧ ∃ c, h[a]? = some c ∧ Pq c := H.2.1 _ (List.mem_of_getElem? hi)
theorem own_H.lt (H : own_H h0 h L) : ∀ q ∈ L, q.1 < h.size := fun q hq => by
  obtain ⟨-, c, h1, -⟩ := H.2.1 q hq; exact (Array.getElem?_eq_some_iff.mp h1).1
theorem own_H.push (H : own_H h0 h L) (E : Ext h h') {c : Cell} (hc : h'[h.size]? = some c) (hP : Pq c) : own_H h0 h' ((h.size, Pq) :: L) := by
  refine ⟨⟨Nat.le_trans H.1.1 E.1, fun a c q => E.2 a c (H.1.2 a c q)⟩, fun q hq => ?_, ?_⟩
  · rcases List.mem_cons.mp hq with rfl | hq
    · exact ⟨H.1.1, c, hc, hP⟩
    · obtain ⟨h1, c', h2, h3⟩ := H.2.1 q hq; exact ⟨h1, c', E.2 _ _ h2, h3⟩
  · rw [List.map_cons, List.nodup_cons]
    refine ⟨fun hm => ?_, H.2.2⟩
    obtain ⟨q, hq, e⟩ := List.mem_map.mp hm
    exact absurd (H.lt q hq) (by rw [show q.1 = h.size from e]; exact Nat.lt_irrefl _)
theorem own_setmem {α : Type} : ∀ {L : List α} {i : Nat} {x q : α}, q ∈ L.set i x → q = x ∨ ∃ j, j ≠ i ∧ L[j]? = some q
  | [], _, _, _, h => nomatch h
  | y :: L, 0, x, q, h => by
    rcases List.mem_cons.mp h with rfl | h
    · exact Or.inl rfl
    · obtain ⟨j, hj⟩ := List.mem_iff_getElem?.mp h
      exact Or.inr ⟨j + 1, by omega, hj⟩
  | y :: L, i + 1, x, q, h => by
    rcases List.mem_cons.mp h with rfl | h
    · exact Or.inr ⟨0, by omega, rfl⟩
    · rcases own_setmem h with e | ⟨j, hj, e⟩
      · exact Or.inl e
      · exact Or.inr ⟨j + 1, by omega, e⟩
theorem own_nodup_ne {α : Type} {L : List α} (h : L.Nodup) {i j : Nat} {x y : α} (hi : L[i]? = some x) (hj : L[j]? = some y) (hn : i ≠ j) : x ≠ y := fun e => by
  subst e
  obtain ⟨hi1, hi2⟩ := List.getElem?_eq_some_iff.mp hi
  obtain ⟨hj1, hj2⟩ := List.getElem?_eq_some_iff.mp hj
  have hp := List.pairwise_iff_getElem.mp h
  rcases Nat.lt_or_gt_of_ne hn with q | q
  · exact hp i j hi1 hj1 q (hi2.trans hj2.symm)
  · exact hp j i hj1 hi1 q (hj2.trans hi2.symm)
theorem own_setself {α : Type} {L : List α} {i : Nat} {x : α} (h : L[i]? = some x) : L.set i x = L := by
  obtain ⟨h1, h2⟩ := List.getElem?_eq_some_iff.mp h
  rw [← h2]; exact List.set_getElem_self h1
theorem own_erase {α : Type} : ∀ (L : List α) (i : Nat) (x : α), L[i]? = some x → L.Perm (x :: L.eraseIdx i)
  | [], i, x, h => by simp at h
  | y :: L, 0, x, h => by simp at h; subst h; exact List.Perm.refl _
  | y :: L, i + 1, x, h => by
    have q := own_erase L i x (by simpa using h)
    exact (q.cons y).trans (List.Perm.swap x y _)
theorem own_H.set (H : own_H h0 h L) (hi : L[i]? = some (a, Pq)) {sl : Nat} {v : Value} (W : Wr h h' a sl v) (hP : ∀ c : Cell, Pq c → sl < c.slots.size → Pq' (c.setSlot sl v)) : own_H h0 h' (L.set i (a, Pq')) := by
  have hE : Ext h0 h' := by
    refine ⟨by rw [W.size]; exact H.1.1, fun b cb hb => ?_⟩
    obtain ⟨cb', h1, -, -, -, h2, -⟩ := wr_at W (H.1.2 b cb hb)
    have : b ≠ a := by
      have q1 := (Array.getElem?_eq_some_iff.mp hb).1
      have q2 := (H.get hi).1
      intro e; rw [e] at q1; exact absurd q1 (Nat.not_lt.mpr q2)
    rw [h2 this] at h1; exact h1
  refine ⟨hE, fun q hq => ?_, ?_⟩
  · rcases own_setmem hq with rfl | ⟨j, hj, e⟩
    · obtain ⟨h1, c, h2, h3⟩ := H.get hi
      obtain ⟨cb', g1, -, -, -, -, -, g2⟩ := wr_at W h2
      obtain ⟨g3, -, -⟩ := g2 rfl
      subst g3
      refine ⟨h1, _, g1, hP c h3 ?_⟩
      obtain ⟨cc, w1, -, w3, -⟩ := W
      rw [h2] at w1; cases w1; exact w3
    · obtain ⟨h1, c, h2, h3⟩ := H.2.1 q (List.mem_of_getElem? e)
      obtain ⟨cb', g1, -, -, -, g2, -⟩ := wr_at W h2
      have hne : q.1 ≠ a := own_nodup_ne (L := L.map (·.1)) H.2.2 (i := j) (j := i) (by rw [List.getElem?_map, e]; rfl) (by rw [List.getElem?_map, hi]; rfl) hj
      rw [g2 hne] at g1
      exact ⟨h1, c, g1, h3⟩
  · have : (L.set i (a, Pq')).map (·.1) = L.map (·.1) := by
      rw [List.map_set]
      have : (L.map (·.1))[i]? = some a := by rw [List.getElem?_map, hi]; rfl
      exact own_setself this
    rw [this]; exact H.2.2
theorem own_H.sub {M : List (Addr × (Cell → Prop))} (H : own_H h0 h L) (hs : M.Sublist L) : own_H h0 h M :=
  ⟨H.1, fun q hq => H.2.1 q (hs.subset hq), H.2.2.sublist (hs.map _)⟩
theorem own_H.perm {M : List (Addr × (Cell → Prop))} (H : own_H h0 h L) (hs : L.Perm M) : own_H h0 h M :=
  ⟨H.1, fun q hq => H.2.1 q (hs.mem_iff.mpr hq), (hs.map _).nodup_iff.mp H.2.2⟩
theorem own_H.bring (H : own_H h0 h L) (hi : L[i]? = some (a, Pq)) : own_H h0 h ((a, Pq) :: L.eraseIdx i) := by
  exact H.perm (own_erase L i _ hi)
theorem own_H.imp (H : own_H h0 h L) (hi : L[i]? = some (a, Pq)) (hP : ∀ c, Pq c → Pq' c) : own_H h0 h (L.set i (a, Pq')) := by
  refine ⟨H.1, fun q hq => ?_, ?_⟩
  · rcases own_setmem hq with rfl | ⟨j, hj, e⟩
    · obtain ⟨h1, c, h2, h3⟩ := H.get hi; exact ⟨h1, c, h2, hP c h3⟩
    · exact H.2.1 q (List.mem_of_getElem? e)
  · have : (L.set i (a, Pq')).map (·.1) = L.map (·.1) := by
      rw [List.map_set]
      have : (L.map (·.1))[i]? = some a := by rw [List.getElem?_map, hi]; rfl
      exact own_setself this
    rw [this]; exact H.2.2
theorem own_H.ne (H : own_H h0 h L) {j : Nat} {b : Addr} {Pb : Cell → Prop} (hi : L[i]? = some (a, Pq)) (hj : L[j]? = some (b, Pb)) (hn : i ≠ j) : a ≠ b :=
  own_nodup_ne (L := L.map (·.1)) H.2.2 (i := i) (j := j) (by rw [List.getElem?_map, hi]; rfl) (by rw [List.getElem?_map, hj]; rfl) hn
theorem own_ex.exa {Z : State} {C : String} {c : Cell} (hc : h[a]? = some c) (E : own_ex Z C c) : Exa Z h a C := by obtain ⟨k, r⟩ := E; exact ⟨c, k, hc, r⟩
theorem own_ex.of {Z : State} {C : String} (E : Exa Z h a C) {c : Cell} (hc : h[a]? = some c) : own_ex Z C c := by obtain ⟨c', k, h1, r⟩ := E; cases h1.symm.trans hc; exact ⟨k, r⟩
theorem own_fd.fld {Z : State} {C n d : String} {v : Value} {c : Cell} (hc : h[a]? = some c) (E : own_fd Z C n d v c) : Fld Z h a C n d v := by obtain ⟨cf, k, i, f, r⟩ := E; exact ⟨c, cf, k, i, f, hc, r⟩
theorem own_fd.of {Z : State} {C n d : String} {v : Value} {c : Cell} (hc : h[a]? = some c) (E : Fld Z h a C n d v) : own_fd Z C n d v c := by obtain ⟨c', cf, k, i, f, h1, r⟩ := E; cases h1.symm.trans hc; exact ⟨cf, k, i, f, r⟩
theorem own_fL {Z : State} {ix j : Nat} {K f d : String} {v : Value} {fs : List (String × String × Value)} (hi : L[ix]? = some (a, own_ob Z K fs)) (hj : fs[j]? = some (f, d, v)) (H : own_H h0 h L) : Fld Z h a K f d v := by
  obtain ⟨-, cc, h1, h2⟩ := H.get hi
  exact (h2.2 _ (List.mem_of_getElem? hj)).fld h1
theorem own_fO {Z : State} {K f d : String} {v : Value} (F : Fld Z h0 a K f d v) (H : own_H h0 h L) : Fld Z h a K f d v := F.ext H.1
theorem own_eL {Z : State} {ix : Nat} {K : String} {fs : List (String × String × Value)} (hi : L[ix]? = some (a, own_ob Z K fs)) (H : own_H h0 h L) : Exa Z h a K := by
  obtain ⟨-, cc, h1, h2⟩ := H.get hi
  exact h2.1.exa h1
theorem own_eO {Z : State} {K : String} (F : Exa Z h0 a K) (H : own_H h0 h L) : Exa Z h a K := F.ext H.1
theorem own_ar.arr {Z : State} {ty : FieldType} {vs : List Value} {c : Cell} (hc : h[a]? = some c) (E : own_ar Z ty vs c) : Arr Z h a c ty := ⟨hc, E.1, E.2.1⟩
end Heaps

variable {p : Program} {l : Launch} {e : Env} {R : Room} {s : State} {m : MethodId} {args : Array Value} {below : List Frame} {meth : Method} {c : Code} {Z T : State} {L : List (Addr × (Cell → Prop))} {k n : Nat} {own nm : String} {code : ByteArray} {ml : Nat} {rt : Option FieldType} {P : State → Outcome → Prop} {pc npc tpc : Nat} {ls : Array Slot} {st : List Value} {a0 : Array Value}
theorem own_S.stand (X : own_S p l e R s m args below meth c Z T L k n) : ∃ locs, Stand p l e R s m args below meth c T locs k n := by obtain ⟨locs, X, -⟩ := X; exact ⟨locs, X⟩
theorem own_S.heap (X : own_S p l e R s m args below meth c Z T L k n) : own_H Z.heap T.heap L := by obtain ⟨_, _, _, h⟩ := X; exact h
theorem own_S.more (X : own_S p l e R s m args below meth c Z T L k n) {k' n' : Nat} (hk : k ≤ k') (hn : n ≤ n') : own_S p l e R s m args below meth c Z T L k' n' := by obtain ⟨locs, X, h⟩ := X; exact ⟨locs, X.more hk hn, h⟩
theorem own_S.re (X : own_S p l e R s m args below meth c Z T L k n) {M : List (Addr × (Cell → Prop))} (h : own_H Z.heap T.heap L → own_H Z.heap T.heap M) : own_S p l e R s m args below meth c Z T M k n := by obtain ⟨locs, X, h1, h2⟩ := X; exact ⟨locs, X, h1, h h2⟩
theorem own_S.bring (X : own_S p l e R s m args below meth c Z T L k n) {i : Nat} {a : Addr} {Pq : Cell → Prop} (hi : L[i]? = some (a, Pq)) {M : List (Addr × (Cell → Prop))} (hM : (a, Pq) :: L.eraseIdx i = M) : own_S p l e R s m args below meth c Z T M k n := by subst hM; exact X.re fun H => H.bring hi

theorem own_swap3 {a1 a2 a3 b1 b2 b3 : Addr × (Cell → Prop)} (X : own_S p l e R s m args below meth c Z T (a1 :: a2 :: a3 :: b1 :: b2 :: b3 :: L) k n) : own_S p l e R s m args below meth c Z T (b1 :: b2 :: b3 :: a1 :: a2 :: a3 :: L) k n :=
  X.re fun H => H.perm ((List.perm_append_comm (l₁ := [a1, a2, a3]) (l₂ := [b1, b2, b3])).append_right L)

def own_locs : List Value → List Slot
  | [] => []
  | v :: r => if v.category = 2 then .val v :: .second :: own_locs r else .val v :: own_locs r
theorem own_locs_fold : ∀ (l : List Value) (acc : Array Slot), (l.foldl (fun acc v => if v.category = 2 then (acc.push (.val v)).push .second else acc.push (.val v)) acc).toList = acc.toList ++ own_locs l
  | [], acc => (List.append_nil _).symm
  | v :: r, acc => by
    rw [List.foldl_cons, own_locs_fold r]
    by_cases h : v.category = 2
    · rw [if_pos h]; show _ = acc.toList ++ (if v.category = 2 then _ else _); rw [if_pos h, Array.toList_push, Array.toList_push, List.append_assoc, List.append_assoc]; rfl
    · rw [if_neg h]; show _ = acc.toList ++ (if v.category = 2 then _ else _); rw [if_neg h, Array.toList_push, List.append_assoc]; rfl
theorem own_ent (m : MethodId) {as : List Value} {n : Nat} {ls : List Slot} (h : own_locs as ++ List.replicate (n - (own_locs as).length) .unset = ls) : entryFrame m as.toArray n = mkF m 0 ls.toArray [] := by
  have e : argsToLocals as.toArray n = ls.toArray := by
    apply Array.toList_inj.mp
    have q := own_locs_fold as #[]
    rw [show (#[] : Array Slot).toList = [] from rfl, List.nil_append] at q
    show ((as.toArray.foldl (fun (acc : Array Slot) (v : Value) => if v.category = 2 then (acc.push (.val v)).push .second else acc.push (.val v)) #[]) ++ Array.replicate (n - (as.toArray.foldl (fun (acc : Array Slot) (v : Value) => if v.category = 2 then (acc.push (.val v)).push .second else acc.push (.val v)) #[]).size) Slot.unset).toList = ls
    rw [List.foldl_toArray']
    · show (_ ++ _ : Array Slot).toList = ls
      rw [Array.toList_append, q, Array.toList_replicate, ← Array.length_toList, q]; exact h
    all_goals first | rfl | simp
  show ({ method := m, pc := 0, locals := argsToLocals as.toArray n, stack := [], locked := none } : JFrame) = _
  rw [e]

theorem own_con {y : MethodName} {bytes : ByteArray} {maxL : Nat} {ret : Option FieldType} {rm : Room} {as' : Array Value} {Q : Option Value → List (Addr × (Cell → Prop)) → Prop} (hx : plainFor y = true) (hent : ∀ m, entryFrame m as' maxL = mkF m 0 ls [])
    (body : ∀ p e s m below meth c T, own_C p s m meth c Z y.cls y.name bytes maxL ret → own_S p l e rm s m as' below meth c Z T L 0 0 → own_Go p.tables e below (own_E Z s rm Q) (T.setTop (mkF m 0 ls []))) : own_Con l Z y bytes maxL ret rm as' L Q := by
  intro ws
  refine MetFree.of_bodySF hx hisR ?_
  intro p e s m args below meth c s₁ Bd hml hP hK
  obtain ⟨rfl, hZ, hH⟩ := hP
  have hnm := (name_of_methodNamed Bd.named Bd.method).1
  have X0 : Stand p l e rm s m args below meth c s₁ [] 0 0 := Stand.of_body Bd
  have q := body p e s m below meth c s₁ ⟨Bd.exec, Bd.bytes, hml, hZ, findClass_of_methodNamed Bd.named, hnm, Bd.returns, Bd.notSynchronized⟩ ⟨[], X0, Fr.nil _, by rw [Bd.state]; exact hH⟩
  rw [← hent] at q
  exact q

theorem k_iadd (C : own_C p s m meth c Z own nm code ml rt) (X : own_S p l e R s m args below meth c Z T L k n) {x y : Int32} (hd : decode code pc = .ok (.iadd, 1)) (hp : pc + 1 = npc) (g : own_Go p.tables e below P (T.setTop (mkF m npc ls (.int (x + y) :: st)))) : own_Go p.tables e below P (T.setTop (mkF m pc ls (.int y :: .int x :: st))) := by
  subst hp; obtain ⟨_, X, -, -⟩ := X
  exact g.st fun t k => Jvm.Free.XS.iadd X.here C.1 rfl (hb C.2.1 hd) rfl k
theorem k_isub (C : own_C p s m meth c Z own nm code ml rt) (X : own_S p l e R s m args below meth c Z T L k n) {x y : Int32} (hd : decode code pc = .ok (.isub, 1)) (hp : pc + 1 = npc) (g : own_Go p.tables e below P (T.setTop (mkF m npc ls (.int (x - y) :: st)))) : own_Go p.tables e below P (T.setTop (mkF m pc ls (.int y :: .int x :: st))) := by
  subst hp; obtain ⟨_, X, -, -⟩ := X
  exact g.st fun t k => Jvm.Free.XS.isub X.here C.1 rfl (hb C.2.1 hd) rfl k
theorem k_imul (C : own_C p s m meth c Z own nm code ml rt) (X : own_S p l e R s m args below meth c Z T L k n) {x y : Int32} (hd : decode code pc = .ok (.imul, 1)) (hp : pc + 1 = npc) (g : own_Go p.tables e below P (T.setTop (mkF m npc ls (.int (x * y) :: st)))) : own_Go p.tables e below P (T.setTop (mkF m pc ls (.int y :: .int x :: st))) := by
  subst hp; obtain ⟨_, X, -, -⟩ := X
  exact g.st fun t k => Jvm.Free.XS.imul X.here C.1 rfl (hb C.2.1 hd) rfl k
theorem k_iand (C : own_C p s m meth c Z own nm code ml rt) (X : own_S p l e R s m args below meth c Z T L k n) {x y : Int32} (hd : decode code pc = .ok (.iand, 1)) (hp : pc + 1 = npc) (g : own_Go p.tables e below P (T.setTop (mkF m npc ls (.int (x &&& y) :: st)))) : own_Go p.tables e below P (T.setTop (mkF m pc ls (.int y :: .int x :: st))) := by
  subst hp; obtain ⟨_, X, -, -⟩ := X
  exact g.st fun t k => Jvm.Free.XS.iand X.here C.1 rfl (hb C.2.1 hd) rfl k
theorem k_ior (C : own_C p s m meth c Z own nm code ml rt) (X : own_S p l e R s m args below meth c Z T L k n) {x y : Int32} (hd : decode code pc = .ok (.ior, 1)) (hp : pc + 1 = npc) (g : own_Go p.tables e below P (T.setTop (mkF m npc ls (.int (x ||| y) :: st)))) : own_Go p.tables e below P (T.setTop (mkF m pc ls (.int y :: .int x :: st))) := by
  subst hp; obtain ⟨_, X, -, -⟩ := X
  exact g.st fun t k => Jvm.Free.XT.ior X.here C.1 rfl (hb C.2.1 hd) rfl k
theorem k_ixor (C : own_C p s m meth c Z own nm code ml rt) (X : own_S p l e R s m args below meth c Z T L k n) {x y : Int32} (hd : decode code pc = .ok (.ixor, 1)) (hp : pc + 1 = npc) (g : own_Go p.tables e below P (T.setTop (mkF m npc ls (.int (x ^^^ y) :: st)))) : own_Go p.tables e below P (T.setTop (mkF m pc ls (.int y :: .int x :: st))) := by
  subst hp; obtain ⟨_, X, -, -⟩ := X
  exact g.st fun t k => Jvm.Free.XT.ixor X.here C.1 rfl (hb C.2.1 hd) rfl k
theorem k_ishl (C : own_C p s m meth c Z own nm code ml rt) (X : own_S p l e R s m args below meth c Z T L k n) {x y : Int32} (hd : decode code pc = .ok (.ishl, 1)) (hp : pc + 1 = npc) (g : own_Go p.tables e below P (T.setTop (mkF m npc ls (.int (x <<< (y &&& 31)) :: st)))) : own_Go p.tables e below P (T.setTop (mkF m pc ls (.int y :: .int x :: st))) := by
  subst hp; obtain ⟨_, X, -, -⟩ := X
  exact g.st fun t k => Jvm.Free.XT.ishl X.here C.1 rfl (hb C.2.1 hd) rfl k
theorem k_ishr (C : own_C p s m meth c Z own nm code ml rt) (X : own_S p l e R s m args below meth c Z T L k n) {x y : Int32} (hd : decode code pc = .ok (.ishr, 1)) (hp : pc + 1 = npc) (g : own_Go p.tables e below P (T.setTop (mkF m npc ls (.int (x >>> (y &&& 31)) :: st)))) : own_Go p.tables e below P (T.setTop (mkF m pc ls (.int y :: .int x :: st))) := by
  subst hp; obtain ⟨_, X, -, -⟩ := X
  exact g.st fun t k => Jvm.Free.XT.ishr X.here C.1 rfl (hb C.2.1 hd) rfl k
theorem k_iushr (C : own_C p s m meth c Z own nm code ml rt) (X : own_S p l e R s m args below meth c Z T L k n) {x y : Int32} (hd : decode code pc = .ok (.iushr, 1)) (hp : pc + 1 = npc) (g : own_Go p.tables e below P (T.setTop (mkF m npc ls (.int (Jvm.Free.XT.ushr x y) :: st)))) : own_Go p.tables e below P (T.setTop (mkF m pc ls (.int y :: .int x :: st))) := by
  subst hp; obtain ⟨_, X, -, -⟩ := X
  exact g.st fun t k => Jvm.Free.XT.iushr X.here C.1 rfl (hb C.2.1 hd) rfl k
theorem k_ladd (C : own_C p s m meth c Z own nm code ml rt) (X : own_S p l e R s m args below meth c Z T L k n) {x y : Int64} (hd : decode code pc = .ok (.ladd, 1)) (hp : pc + 1 = npc) (g : own_Go p.tables e below P (T.setTop (mkF m npc ls (.long (x + y) :: st)))) : own_Go p.tables e below P (T.setTop (mkF m pc ls (.long y :: .long x :: st))) := by
  subst hp; obtain ⟨_, X, -, -⟩ := X
  exact g.st fun t k => Jvm.Free.XT.ladd X.here C.1 rfl (hb C.2.1 hd) rfl k
theorem k_lsub (C : own_C p s m meth c Z own nm code ml rt) (X : own_S p l e R s m args below meth c Z T L k n) {x y : Int64} (hd : decode code pc = .ok (.lsub, 1)) (hp : pc + 1 = npc) (g : own_Go p.tables e below P (T.setTop (mkF m npc ls (.long (x - y) :: st)))) : own_Go p.tables e below P (T.setTop (mkF m pc ls (.long y :: .long x :: st))) := by
  subst hp; obtain ⟨_, X, -, -⟩ := X
  exact g.st fun t k => Jvm.Free.XT.lsub X.here C.1 rfl (hb C.2.1 hd) rfl k
theorem k_lmul (C : own_C p s m meth c Z own nm code ml rt) (X : own_S p l e R s m args below meth c Z T L k n) {x y : Int64} (hd : decode code pc = .ok (.lmul, 1)) (hp : pc + 1 = npc) (g : own_Go p.tables e below P (T.setTop (mkF m npc ls (.long (x * y) :: st)))) : own_Go p.tables e below P (T.setTop (mkF m pc ls (.long y :: .long x :: st))) := by
  subst hp; obtain ⟨_, X, -, -⟩ := X
  exact g.st fun t k => Jvm.Free.XT.lmul X.here C.1 rfl (hb C.2.1 hd) rfl k
theorem k_land (C : own_C p s m meth c Z own nm code ml rt) (X : own_S p l e R s m args below meth c Z T L k n) {x y : Int64} (hd : decode code pc = .ok (.land, 1)) (hp : pc + 1 = npc) (g : own_Go p.tables e below P (T.setTop (mkF m npc ls (.long (x &&& y) :: st)))) : own_Go p.tables e below P (T.setTop (mkF m pc ls (.long y :: .long x :: st))) := by
  subst hp; obtain ⟨_, X, -, -⟩ := X
  exact g.st fun t k => Jvm.Free.XT.land X.here C.1 rfl (hb C.2.1 hd) rfl k
theorem k_lor (C : own_C p s m meth c Z own nm code ml rt) (X : own_S p l e R s m args below meth c Z T L k n) {x y : Int64} (hd : decode code pc = .ok (.lor, 1)) (hp : pc + 1 = npc) (g : own_Go p.tables e below P (T.setTop (mkF m npc ls (.long (x ||| y) :: st)))) : own_Go p.tables e below P (T.setTop (mkF m pc ls (.long y :: .long x :: st))) := by
  subst hp; obtain ⟨_, X, -, -⟩ := X
  exact g.st fun t k => Jvm.Free.XT.lor X.here C.1 rfl (hb C.2.1 hd) rfl k
theorem k_lxor (C : own_C p s m meth c Z own nm code ml rt) (X : own_S p l e R s m args below meth c Z T L k n) {x y : Int64} (hd : decode code pc = .ok (.lxor, 1)) (hp : pc + 1 = npc) (g : own_Go p.tables e below P (T.setTop (mkF m npc ls (.long (x ^^^ y) :: st)))) : own_Go p.tables e below P (T.setTop (mkF m pc ls (.long y :: .long x :: st))) := by
  subst hp; obtain ⟨_, X, -, -⟩ := X
  exact g.st fun t k => Jvm.Free.XT.lxor X.here C.1 rfl (hb C.2.1 hd) rfl k
theorem k_lshl (C : own_C p s m meth c Z own nm code ml rt) (X : own_S p l e R s m args below meth c Z T L k n) {x : Int64} {y : Int32} (hd : decode code pc = .ok (.lshl, 1)) (hp : pc + 1 = npc) (g : own_Go p.tables e below P (T.setTop (mkF m npc ls (.long (x <<< (y.toInt64 &&& 63)) :: st)))) : own_Go p.tables e below P (T.setTop (mkF m pc ls (.int y :: .long x :: st))) := by
  subst hp; obtain ⟨_, X, -, -⟩ := X
  exact g.st fun t k => Jvm.Free.XT.lshl X.here C.1 rfl (hb C.2.1 hd) rfl k
theorem k_lshr (C : own_C p s m meth c Z own nm code ml rt) (X : own_S p l e R s m args below meth c Z T L k n) {x : Int64} {y : Int32} (hd : decode code pc = .ok (.lshr, 1)) (hp : pc + 1 = npc) (g : own_Go p.tables e below P (T.setTop (mkF m npc ls (.long (x >>> (y.toInt64 &&& 63)) :: st)))) : own_Go p.tables e below P (T.setTop (mkF m pc ls (.int y :: .long x :: st))) := by
  subst hp; obtain ⟨_, X, -, -⟩ := X
  exact g.st fun t k => Jvm.Free.XT.lshr X.here C.1 rfl (hb C.2.1 hd) rfl k
theorem k_lushr (C : own_C p s m meth c Z own nm code ml rt) (X : own_S p l e R s m args below meth c Z T L k n) {x : Int64} {y : Int32} (hd : decode code pc = .ok (.lushr, 1)) (hp : pc + 1 = npc) (g : own_Go p.tables e below P (T.setTop (mkF m npc ls (.long (Jvm.Free.XT.ushrL x y) :: st)))) : own_Go p.tables e below P (T.setTop (mkF m pc ls (.int y :: .long x :: st))) := by
  subst hp; obtain ⟨_, X, -, -⟩ := X
  exact g.st fun t k => Jvm.Free.XT.lushr X.here C.1 rfl (hb C.2.1 hd) rfl k
theorem k_idiv (C : own_C p s m meth c Z own nm code ml rt) (X : own_S p l e R s m args below meth c Z T L k n) {x y : Int32} (hd : decode code pc = .ok (.idiv, 1)) (hp : pc + 1 = npc) (hy : y ≠ 0) (g : own_Go p.tables e below P (T.setTop (mkF m npc ls (.int (x / y) :: st)))) : own_Go p.tables e below P (T.setTop (mkF m pc ls (.int y :: .int x :: st))) := by
  subst hp; obtain ⟨_, X, -, -⟩ := X
  exact g.st fun t k => Jvm.Free.XS.idiv X.here C.1 rfl (hb C.2.1 hd) rfl hy k
theorem k_irem (C : own_C p s m meth c Z own nm code ml rt) (X : own_S p l e R s m args below meth c Z T L k n) {x y : Int32} (hd : decode code pc = .ok (.irem, 1)) (hp : pc + 1 = npc) (hy : y ≠ 0) (g : own_Go p.tables e below P (T.setTop (mkF m npc ls (.int (x % y) :: st)))) : own_Go p.tables e below P (T.setTop (mkF m pc ls (.int y :: .int x :: st))) := by
  subst hp; obtain ⟨_, X, -, -⟩ := X
  exact g.st fun t k => iremM X C.1 rfl (hb C.2.1 hd) rfl hy k
theorem k_ldiv (C : own_C p s m meth c Z own nm code ml rt) (X : own_S p l e R s m args below meth c Z T L k n) {x y : Int64} (hd : decode code pc = .ok (.ldiv, 1)) (hp : pc + 1 = npc) (hy : y ≠ 0) (g : own_Go p.tables e below P (T.setTop (mkF m npc ls (.long (x / y) :: st)))) : own_Go p.tables e below P (T.setTop (mkF m pc ls (.long y :: .long x :: st))) := by
  subst hp; obtain ⟨_, X, -, -⟩ := X
  exact g.st fun t k => Jvm.Free.XT.ldiv X.here C.1 rfl (hb C.2.1 hd) rfl hy k
theorem k_lrem (C : own_C p s m meth c Z own nm code ml rt) (X : own_S p l e R s m args below meth c Z T L k n) {x y : Int64} (hd : decode code pc = .ok (.lrem, 1)) (hp : pc + 1 = npc) (hy : y ≠ 0) (g : own_Go p.tables e below P (T.setTop (mkF m npc ls (.long (x - (x / y) * y) :: st)))) : own_Go p.tables e below P (T.setTop (mkF m pc ls (.long y :: .long x :: st))) := by
  subst hp; obtain ⟨_, X, -, -⟩ := X
  exact g.st fun t k => Jvm.Free.XT.lrem X.here C.1 rfl (hb C.2.1 hd) rfl hy k
theorem k_ineg (C : own_C p s m meth c Z own nm code ml rt) (X : own_S p l e R s m args below meth c Z T L k n) {x : Int32} (hd : decode code pc = .ok (.ineg, 1)) (hp : pc + 1 = npc) (g : own_Go p.tables e below P (T.setTop (mkF m npc ls (.int (-x) :: st)))) : own_Go p.tables e below P (T.setTop (mkF m pc ls (.int x :: st))) := by
  subst hp; obtain ⟨_, X, -, -⟩ := X
  exact g.st fun t k => Jvm.Free.XS.ineg X.here C.1 rfl (hb C.2.1 hd) rfl k
theorem k_lneg (C : own_C p s m meth c Z own nm code ml rt) (X : own_S p l e R s m args below meth c Z T L k n) {x : Int64} (hd : decode code pc = .ok (.lneg, 1)) (hp : pc + 1 = npc) (g : own_Go p.tables e below P (T.setTop (mkF m npc ls (.long (-x) :: st)))) : own_Go p.tables e below P (T.setTop (mkF m pc ls (.long x :: st))) := by
  subst hp; obtain ⟨_, X, -, -⟩ := X
  exact g.st fun t k => Jvm.Free.XT.lneg X.here C.1 rfl (hb C.2.1 hd) rfl k
theorem k_i2l (C : own_C p s m meth c Z own nm code ml rt) (X : own_S p l e R s m args below meth c Z T L k n) {x : Int32} (hd : decode code pc = .ok (.i2l, 1)) (hp : pc + 1 = npc) (g : own_Go p.tables e below P (T.setTop (mkF m npc ls (.long x.toInt64 :: st)))) : own_Go p.tables e below P (T.setTop (mkF m pc ls (.int x :: st))) := by
  subst hp; obtain ⟨_, X, -, -⟩ := X
  exact g.st fun t k => Jvm.Free.XT.i2l X.here C.1 rfl (hb C.2.1 hd) rfl k
theorem k_l2i (C : own_C p s m meth c Z own nm code ml rt) (X : own_S p l e R s m args below meth c Z T L k n) {x : Int64} (hd : decode code pc = .ok (.l2i, 1)) (hp : pc + 1 = npc) (g : own_Go p.tables e below P (T.setTop (mkF m npc ls (.int x.toInt32 :: st)))) : own_Go p.tables e below P (T.setTop (mkF m pc ls (.long x :: st))) := by
  subst hp; obtain ⟨_, X, -, -⟩ := X
  exact g.st fun t k => Jvm.Free.XT.l2i X.here C.1 rfl (hb C.2.1 hd) rfl k
theorem k_i2b (C : own_C p s m meth c Z own nm code ml rt) (X : own_S p l e R s m args below meth c Z T L k n) {x : Int32} (hd : decode code pc = .ok (.i2b, 1)) (hp : pc + 1 = npc) (g : own_Go p.tables e below P (T.setTop (mkF m npc ls (.int x.toInt8.toInt32 :: st)))) : own_Go p.tables e below P (T.setTop (mkF m pc ls (.int x :: st))) := by
  subst hp; obtain ⟨_, X, -, -⟩ := X
  exact g.st fun t k => Jvm.Free.XT.i2b X.here C.1 rfl (hb C.2.1 hd) rfl k
theorem k_i2c (C : own_C p s m meth c Z own nm code ml rt) (X : own_S p l e R s m args below meth c Z T L k n) {x : Int32} (hd : decode code pc = .ok (.i2c, 1)) (hp : pc + 1 = npc) (g : own_Go p.tables e below P (T.setTop (mkF m npc ls (.int x.toUInt32.toUInt16.toUInt32.toInt32 :: st)))) : own_Go p.tables e below P (T.setTop (mkF m pc ls (.int x :: st))) := by
  subst hp; obtain ⟨_, X, -, -⟩ := X
  exact g.st fun t k => Jvm.Free.XT.i2c X.here C.1 rfl (hb C.2.1 hd) rfl k
theorem k_i2s (C : own_C p s m meth c Z own nm code ml rt) (X : own_S p l e R s m args below meth c Z T L k n) {x : Int32} (hd : decode code pc = .ok (.i2s, 1)) (hp : pc + 1 = npc) (g : own_Go p.tables e below P (T.setTop (mkF m npc ls (.int x.toInt16.toInt32 :: st)))) : own_Go p.tables e below P (T.setTop (mkF m pc ls (.int x :: st))) := by
  subst hp; obtain ⟨_, X, -, -⟩ := X
  exact g.st fun t k => Jvm.Free.XT.i2s X.here C.1 rfl (hb C.2.1 hd) rfl k
theorem k_i2d (C : own_C p s m meth c Z own nm code ml rt) (X : own_S p l e R s m args below meth c Z T L k n) {x : Int32} (hd : decode code pc = .ok (.i2d, 1)) (hp : pc + 1 = npc) (g : own_Go p.tables e below P (T.setTop (mkF m npc ls (.double (FP.i2d x) :: st)))) : own_Go p.tables e below P (T.setTop (mkF m pc ls (.int x :: st))) := by
  subst hp; obtain ⟨_, X, -, -⟩ := X
  exact g.st fun t k => Jvm.Free.XS.i2dS X.here C.1 rfl (hb C.2.1 hd) rfl rfl k
theorem k_l2d (C : own_C p s m meth c Z own nm code ml rt) (X : own_S p l e R s m args below meth c Z T L k n) {x : Int64} (hd : decode code pc = .ok (.l2d, 1)) (hp : pc + 1 = npc) (g : own_Go p.tables e below P (T.setTop (mkF m npc ls (.double (FP.l2d x) :: st)))) : own_Go p.tables e below P (T.setTop (mkF m pc ls (.long x :: st))) := by
  subst hp; obtain ⟨_, X, -, -⟩ := X
  exact g.st fun t k => Jvm.Free.XS.l2dS X.here C.1 rfl (hb C.2.1 hd) rfl rfl k
theorem k_d2i (C : own_C p s m meth c Z own nm code ml rt) (X : own_S p l e R s m args below meth c Z T L k n) {x : UInt64} (hd : decode code pc = .ok (.d2i, 1)) (hp : pc + 1 = npc) (g : own_Go p.tables e below P (T.setTop (mkF m npc ls (.int (FP.d2i x) :: st)))) : own_Go p.tables e below P (T.setTop (mkF m pc ls (.double x :: st))) := by
  subst hp; obtain ⟨_, X, -, -⟩ := X
  exact g.st fun t k => Jvm.Free.XS.d2iS X.here C.1 rfl (hb C.2.1 hd) rfl rfl k
theorem k_d2l (C : own_C p s m meth c Z own nm code ml rt) (X : own_S p l e R s m args below meth c Z T L k n) {x : UInt64} (hd : decode code pc = .ok (.d2l, 1)) (hp : pc + 1 = npc) (g : own_Go p.tables e below P (T.setTop (mkF m npc ls (.long (FP.d2l x) :: st)))) : own_Go p.tables e below P (T.setTop (mkF m pc ls (.double x :: st))) := by
  subst hp; obtain ⟨_, X, -, -⟩ := X
  exact g.st fun t k => Jvm.Free.XS.d2lS X.here C.1 rfl (hb C.2.1 hd) rfl rfl k
theorem k_dneg (C : own_C p s m meth c Z own nm code ml rt) (X : own_S p l e R s m args below meth c Z T L k n) {x : UInt64} (hd : decode code pc = .ok (.dneg, 1)) (hp : pc + 1 = npc) (g : own_Go p.tables e below P (T.setTop (mkF m npc ls (.double (FP.dneg x) :: st)))) : own_Go p.tables e below P (T.setTop (mkF m pc ls (.double x :: st))) := by
  subst hp; obtain ⟨_, X, -, -⟩ := X
  exact g.st fun t k => Jvm.Free.XS.dnegS X.here C.1 rfl (hb C.2.1 hd) rfl rfl k
theorem k_lcmp (C : own_C p s m meth c Z own nm code ml rt) (X : own_S p l e R s m args below meth c Z T L k n) {x y : Int64} (hd : decode code pc = .ok (.lcmp, 1)) (hp : pc + 1 = npc) (g : own_Go p.tables e below P (T.setTop (mkF m npc ls (.int (Jvm.Free.XT.cmpL x y) :: st)))) : own_Go p.tables e below P (T.setTop (mkF m pc ls (.long y :: .long x :: st))) := by
  subst hp; obtain ⟨_, X, -, -⟩ := X
  exact g.st fun t k => Jvm.Free.XT.lcmp X.here C.1 rfl (hb C.2.1 hd) rfl k
theorem k_dcmpl (C : own_C p s m meth c Z own nm code ml rt) (X : own_S p l e R s m args below meth c Z T L k n) {x y : UInt64} (hd : decode code pc = .ok (.dcmp .l, 1)) (hp : pc + 1 = npc) (g : own_Go p.tables e below P (T.setTop (mkF m npc ls (.int (FP.cmpInt (-1) (FP.dcmp x y)) :: st)))) : own_Go p.tables e below P (T.setTop (mkF m pc ls (.double y :: .double x :: st))) := by
  subst hp; obtain ⟨_, X, -, -⟩ := X
  exact g.st fun t k => Jvm.Free.XS.dcmpS X.here C.1 rfl (hb C.2.1 hd) rfl (cmpV_l _) k
theorem k_dcmpg (C : own_C p s m meth c Z own nm code ml rt) (X : own_S p l e R s m args below meth c Z T L k n) {x y : UInt64} (hd : decode code pc = .ok (.dcmp .g, 1)) (hp : pc + 1 = npc) (g : own_Go p.tables e below P (T.setTop (mkF m npc ls (.int (FP.cmpInt 1 (FP.dcmp x y)) :: st)))) : own_Go p.tables e below P (T.setTop (mkF m pc ls (.double y :: .double x :: st))) := by
  subst hp; obtain ⟨_, X, -, -⟩ := X
  exact g.st fun t k => Jvm.Free.XS.dcmpS X.here C.1 rfl (hb C.2.1 hd) rfl (cmpV_g _) k
theorem k_dadd (C : own_C p s m meth c Z own nm code ml rt) (X : own_S p l e R s m args below meth c Z T L k n) {x y : UInt64} (hd : decode code pc = .ok (.dadd, 1)) (hp : pc + 1 = npc) (hn : Jvm.Free.Fl.NoNaN64 (FP.dadd x y)) (g : ∀ v, v = FP.dadd x y → own_Go p.tables e below P (T.setTop (mkF m npc ls (.double v :: st)))) : own_Go p.tables e below P (T.setTop (mkF m pc ls (.double y :: .double x :: st))) := by
  subst hp; obtain ⟨_, X, -, -⟩ := X
  exact (g _ rfl).st fun t k => Jvm.Free.XS.daddS X.here C.1 rfl (hb C.2.1 hd) rfl hn rfl k
theorem k_dsub (C : own_C p s m meth c Z own nm code ml rt) (X : own_S p l e R s m args below meth c Z T L k n) {x y : UInt64} (hd : decode code pc = .ok (.dsub, 1)) (hp : pc + 1 = npc) (hn : Jvm.Free.Fl.NoNaN64 (FP.dsub x y)) (g : ∀ v, v = FP.dsub x y → own_Go p.tables e below P (T.setTop (mkF m npc ls (.double v :: st)))) : own_Go p.tables e below P (T.setTop (mkF m pc ls (.double y :: .double x :: st))) := by
  subst hp; obtain ⟨_, X, -, -⟩ := X
  exact (g _ rfl).st fun t k => Jvm.Free.XS.dsubS X.here C.1 rfl (hb C.2.1 hd) rfl hn rfl k
theorem k_dmul (C : own_C p s m meth c Z own nm code ml rt) (X : own_S p l e R s m args below meth c Z T L k n) {x y : UInt64} (hd : decode code pc = .ok (.dmul, 1)) (hp : pc + 1 = npc) (hn : Jvm.Free.Fl.NoNaN64 (FP.dmul x y)) (g : ∀ v, v = FP.dmul x y → own_Go p.tables e below P (T.setTop (mkF m npc ls (.double v :: st)))) : own_Go p.tables e below P (T.setTop (mkF m pc ls (.double y :: .double x :: st))) := by
  subst hp; obtain ⟨_, X, -, -⟩ := X
  exact (g _ rfl).st fun t k => Jvm.Free.XS.dmulS X.here C.1 rfl (hb C.2.1 hd) rfl hn rfl k
theorem k_ddiv (C : own_C p s m meth c Z own nm code ml rt) (X : own_S p l e R s m args below meth c Z T L k n) {x y : UInt64} (hd : decode code pc = .ok (.ddiv, 1)) (hp : pc + 1 = npc) (hn : Jvm.Free.Fl.NoNaN64 (FP.ddiv x y)) (g : ∀ v, v = FP.ddiv x y → own_Go p.tables e below P (T.setTop (mkF m npc ls (.double v :: st)))) : own_Go p.tables e below P (T.setTop (mkF m pc ls (.double y :: .double x :: st))) := by
  subst hp; obtain ⟨_, X, -, -⟩ := X
  exact (g _ rfl).st fun t k => Jvm.Free.XS.ddivS X.here C.1 rfl (hb C.2.1 hd) rfl hn rfl k
theorem k_daddE (C : own_C p s m meth c Z own nm code ml rt) (X : own_S p l e R s m args below meth c Z T L k n) {x y : UInt64} (hd : decode code pc = .ok (.dadd, 1)) (hp : pc + 1 = npc) (hn : Jvm.Free.Fl.NoNaN64 (FP.dadd x y)) (g : own_Go p.tables e below P (T.setTop (mkF m npc ls (.double (FP.dadd x y) :: st)))) : own_Go p.tables e below P (T.setTop (mkF m pc ls (.double y :: .double x :: st))) := by
  subst hp; obtain ⟨_, X, -, -⟩ := X
  exact g.st fun t k => Jvm.Free.XS.daddS X.here C.1 rfl (hb C.2.1 hd) rfl hn rfl k
theorem k_dsubE (C : own_C p s m meth c Z own nm code ml rt) (X : own_S p l e R s m args below meth c Z T L k n) {x y : UInt64} (hd : decode code pc = .ok (.dsub, 1)) (hp : pc + 1 = npc) (hn : Jvm.Free.Fl.NoNaN64 (FP.dsub x y)) (g : own_Go p.tables e below P (T.setTop (mkF m npc ls (.double (FP.dsub x y) :: st)))) : own_Go p.tables e below P (T.setTop (mkF m pc ls (.double y :: .double x :: st))) := by
  subst hp; obtain ⟨_, X, -, -⟩ := X
  exact g.st fun t k => Jvm.Free.XS.dsubS X.here C.1 rfl (hb C.2.1 hd) rfl hn rfl k
theorem k_dmulE (C : own_C p s m meth c Z own nm code ml rt) (X : own_S p l e R s m args below meth c Z T L k n) {x y : UInt64} (hd : decode code pc = .ok (.dmul, 1)) (hp : pc + 1 = npc) (hn : Jvm.Free.Fl.NoNaN64 (FP.dmul x y)) (g : own_Go p.tables e below P (T.setTop (mkF m npc ls (.double (FP.dmul x y) :: st)))) : own_Go p.tables e below P (T.setTop (mkF m pc ls (.double y :: .double x :: st))) := by
  subst hp; obtain ⟨_, X, -, -⟩ := X
  exact g.st fun t k => Jvm.Free.XS.dmulS X.here C.1 rfl (hb C.2.1 hd) rfl hn rfl k
theorem k_ddivE (C : own_C p s m meth c Z own nm code ml rt) (X : own_S p l e R s m args below meth c Z T L k n) {x y : UInt64} (hd : decode code pc = .ok (.ddiv, 1)) (hp : pc + 1 = npc) (hn : Jvm.Free.Fl.NoNaN64 (FP.ddiv x y)) (g : own_Go p.tables e below P (T.setTop (mkF m npc ls (.double (FP.ddiv x y) :: st)))) : own_Go p.tables e below P (T.setTop (mkF m pc ls (.double y :: .double x :: st))) := by
  subst hp; obtain ⟨_, X, -, -⟩ := X
  exact g.st fun t k => Jvm.Free.XS.ddivS X.here C.1 rfl (hb C.2.1 hd) rfl hn rfl k
theorem k_iconst (C : own_C p s m meth c Z own nm code ml rt) (X : own_S p l e R s m args below meth c Z T L k n) {i : Int} {v : Int32} (hd : decode code pc = .ok (.iconst i, 1)) (hp : pc + 1 = npc) (hv : Int32.ofInt i = v) (g : own_Go p.tables e below P (T.setTop (mkF m npc ls (.int v :: st)))) : own_Go p.tables e below P (T.setTop (mkF m pc ls (st))) := by
  subst hp; obtain ⟨_, X, -, -⟩ := X
  exact g.st fun t k => Jvm.Free.XT.iconstV X.here C.1 rfl v (hb C.2.1 hd) hv k
theorem k_bipush (C : own_C p s m meth c Z own nm code ml rt) (X : own_S p l e R s m args below meth c Z T L k n) {i : Int} {v : Int32} (hd : decode code pc = .ok (.bipush i, 2)) (hp : pc + 2 = npc) (hv : (Int8.ofInt i).toInt32 = v) (g : own_Go p.tables e below P (T.setTop (mkF m npc ls (.int v :: st)))) : own_Go p.tables e below P (T.setTop (mkF m pc ls (st))) := by
  subst hp; obtain ⟨_, X, -, -⟩ := X
  exact g.st fun t k => Jvm.Free.XT.bipushV X.here C.1 rfl v (hb C.2.1 hd) hv k
theorem k_sipush (C : own_C p s m meth c Z own nm code ml rt) (X : own_S p l e R s m args below meth c Z T L k n) {i : Int} {v : Int32} (hd : decode code pc = .ok (.sipush i, 3)) (hp : pc + 3 = npc) (hv : (Int16.ofInt i).toInt32 = v) (g : own_Go p.tables e below P (T.setTop (mkF m npc ls (.int v :: st)))) : own_Go p.tables e below P (T.setTop (mkF m pc ls (st))) := by
  subst hp; obtain ⟨_, X, -, -⟩ := X
  exact g.st fun t k => Jvm.Free.XT.sipushV X.here C.1 rfl v (hb C.2.1 hd) hv k
theorem k_lconst (C : own_C p s m meth c Z own nm code ml rt) (X : own_S p l e R s m args below meth c Z T L k n) {i : Fin 2} {v : Int64} (hd : decode code pc = .ok (.lconst i, 1)) (hp : pc + 1 = npc) (hv : Int64.ofNat i = v) (g : own_Go p.tables e below P (T.setTop (mkF m npc ls (.long v :: st)))) : own_Go p.tables e below P (T.setTop (mkF m pc ls (st))) := by
  subst hp; obtain ⟨_, X, -, -⟩ := X
  exact g.st fun t k => Jvm.Free.XT.lconstV X.here C.1 rfl v (hb C.2.1 hd) hv k
theorem k_dconst0 (C : own_C p s m meth c Z own nm code ml rt) (X : own_S p l e R s m args below meth c Z T L k n) (hd : decode code pc = .ok (.dconst 0, 1)) (hp : pc + 1 = npc) (g : own_Go p.tables e below P (T.setTop (mkF m npc ls (.double 0 :: st)))) : own_Go p.tables e below P (T.setTop (mkF m pc ls (st))) := by
  subst hp; obtain ⟨_, X, -, -⟩ := X
  exact g.st fun t k => Jvm.Free.XS.dconst0 X.here C.1 rfl (hb C.2.1 hd) rfl k
theorem k_dconst1 (C : own_C p s m meth c Z own nm code ml rt) (X : own_S p l e R s m args below meth c Z T L k n) (hd : decode code pc = .ok (.dconst 1, 1)) (hp : pc + 1 = npc) (g : own_Go p.tables e below P (T.setTop (mkF m npc ls (.double 4607182418800017408 :: st)))) : own_Go p.tables e below P (T.setTop (mkF m pc ls (st))) := by
  subst hp; obtain ⟨_, X, -, -⟩ := X
  exact g.st fun t k => Jvm.Free.XS.dconst1 X.here C.1 rfl (hb C.2.1 hd) rfl k
theorem k_aconst_null (C : own_C p s m meth c Z own nm code ml rt) (X : own_S p l e R s m args below meth c Z T L k n) (hd : decode code pc = .ok (.aconst_null, 1)) (hp : pc + 1 = npc) (g : own_Go p.tables e below P (T.setTop (mkF m npc ls (.null :: st)))) : own_Go p.tables e below P (T.setTop (mkF m pc ls (st))) := by
  subst hp; obtain ⟨_, X, -, -⟩ := X
  exact g.st fun t k => Jvm.Free.XS.aconstNull X.here C.1 rfl (hb C.2.1 hd)  k
theorem k_pop (C : own_C p s m meth c Z own nm code ml rt) (X : own_S p l e R s m args below meth c Z T L k n) {x : Value} (hd : decode code pc = .ok (.pop, 1)) (hp : pc + 1 = npc) (hc : x.category = 1) (g : own_Go p.tables e below P (T.setTop (mkF m npc ls (st)))) : own_Go p.tables e below P (T.setTop (mkF m pc ls (x :: st))) := by
  subst hp; obtain ⟨_, X, -, -⟩ := X
  exact g.st fun t k => Jvm.Free.XT.pop X.here C.1 rfl (hb C.2.1 hd) rfl hc k
theorem k_dup (C : own_C p s m meth c Z own nm code ml rt) (X : own_S p l e R s m args below meth c Z T L k n) {x : Value} (hd : decode code pc = .ok (.dup, 1)) (hp : pc + 1 = npc) (hc : x.category = 1) (g : own_Go p.tables e below P (T.setTop (mkF m npc ls (x :: x :: st)))) : own_Go p.tables e below P (T.setTop (mkF m pc ls (x :: st))) := by
  subst hp; obtain ⟨_, X, -, -⟩ := X
  exact g.st fun t k => Jvm.Free.XS.dup X.here C.1 rfl (hb C.2.1 hd) rfl hc k
theorem k_dup_x1 (C : own_C p s m meth c Z own nm code ml rt) (X : own_S p l e R s m args below meth c Z T L k n) {x y : Value} (hd : decode code pc = .ok (.dup_x1, 1)) (hp : pc + 1 = npc) (hc : x.category = 1) (hc' : y.category = 1) (g : own_Go p.tables e below P (T.setTop (mkF m npc ls (x :: y :: x :: st)))) : own_Go p.tables e below P (T.setTop (mkF m pc ls (x :: y :: st))) := by
  subst hp; obtain ⟨_, X, -, -⟩ := X
  exact g.st fun t k => Jvm.Free.XT.dupX1 X.here C.1 rfl (hb C.2.1 hd) rfl hc hc' k
theorem k_dup2 (C : own_C p s m meth c Z own nm code ml rt) (X : own_S p l e R s m args below meth c Z T L k n) {x y : Value} (hd : decode code pc = .ok (.dup2, 1)) (hp : pc + 1 = npc) (hc : x.category = 1) (hc' : y.category = 1) (g : own_Go p.tables e below P (T.setTop (mkF m npc ls (x :: y :: x :: y :: st)))) : own_Go p.tables e below P (T.setTop (mkF m pc ls (x :: y :: st))) := by
  subst hp; obtain ⟨_, X, -, -⟩ := X
  exact g.st fun t k => Jvm.Free.XT.dup2 X.here C.1 rfl (hb C.2.1 hd) rfl hc hc' k
theorem k_iload (C : own_C p s m meth c Z own nm code ml rt) (X : own_S p l e R s m args below meth c Z T L k n) {i : Nat} {v : Int32} (hd : decode code pc = .ok (.iload i, 2)) (hp : pc + 2 = npc) (hl : ls[i]? = some (.val (.int v))) (g : own_Go p.tables e below P (T.setTop (mkF m npc ls (.int v :: st)))) : own_Go p.tables e below P (T.setTop (mkF m pc ls (st))) := by
  subst hp; obtain ⟨_, X, -, -⟩ := X
  exact g.st fun t k => Jvm.Free.XS.iload X.here C.1 rfl (hb C.2.1 hd) hl k
theorem k_istore (C : own_C p s m meth c Z own nm code ml rt) (X : own_S p l e R s m args below meth c Z T L k n) {i : Nat} {v : Int32} {l' : Array Slot} (hd : decode code pc = .ok (.istore i, 2)) (hp : pc + 2 = npc) (hl : storeLocals ls i (.int v) = some l') (g : own_Go p.tables e below P (T.setTop (mkF m npc l' st))) : own_Go p.tables e below P (T.setTop (mkF m pc ls (.int v :: st))) := by
  subst hp; obtain ⟨_, X, -, -⟩ := X
  exact g.st fun t k => Jvm.Free.XS.istore X.here C.1 rfl (hb C.2.1 hd) rfl hl k
theorem k_iloadN (C : own_C p s m meth c Z own nm code ml rt) (X : own_S p l e R s m args below meth c Z T L k n) {i : Fin 4} {v : Int32} (hd : decode code pc = .ok (.iload_n i, 1)) (hp : pc + 1 = npc) (hl : ls[i.val]? = some (.val (.int v))) (g : own_Go p.tables e below P (T.setTop (mkF m npc ls (.int v :: st)))) : own_Go p.tables e below P (T.setTop (mkF m pc ls (st))) := by
  subst hp; obtain ⟨_, X, -, -⟩ := X
  exact g.st fun t k => Jvm.Free.XS.iloadN X.here C.1 rfl (hb C.2.1 hd) hl k
theorem k_istoreN (C : own_C p s m meth c Z own nm code ml rt) (X : own_S p l e R s m args below meth c Z T L k n) {i : Fin 4} {v : Int32} {l' : Array Slot} (hd : decode code pc = .ok (.istore_n i, 1)) (hp : pc + 1 = npc) (hl : storeLocals ls i.val (.int v) = some l') (g : own_Go p.tables e below P (T.setTop (mkF m npc l' st))) : own_Go p.tables e below P (T.setTop (mkF m pc ls (.int v :: st))) := by
  subst hp; obtain ⟨_, X, -, -⟩ := X
  exact g.st fun t k => Jvm.Free.XS.istoreN X.here C.1 rfl (hb C.2.1 hd) rfl hl k
theorem k_lload (C : own_C p s m meth c Z own nm code ml rt) (X : own_S p l e R s m args below meth c Z T L k n) {i : Nat} {v : Int64} (hd : decode code pc = .ok (.lload i, 2)) (hp : pc + 2 = npc) (hl : ls[i]? = some (.val (.long v))) (g : own_Go p.tables e below P (T.setTop (mkF m npc ls (.long v :: st)))) : own_Go p.tables e below P (T.setTop (mkF m pc ls (st))) := by
  subst hp; obtain ⟨_, X, -, -⟩ := X
  exact g.st fun t k => Jvm.Free.XT.lload X.here C.1 rfl (hb C.2.1 hd) hl k
theorem k_lstore (C : own_C p s m meth c Z own nm code ml rt) (X : own_S p l e R s m args below meth c Z T L k n) {i : Nat} {v : Int64} {l' : Array Slot} (hd : decode code pc = .ok (.lstore i, 2)) (hp : pc + 2 = npc) (hl : storeLocals ls i (.long v) = some l') (g : own_Go p.tables e below P (T.setTop (mkF m npc l' st))) : own_Go p.tables e below P (T.setTop (mkF m pc ls (.long v :: st))) := by
  subst hp; obtain ⟨_, X, -, -⟩ := X
  exact g.st fun t k => Jvm.Free.XT.lstore X.here C.1 rfl (hb C.2.1 hd) rfl hl k
theorem k_lloadN (C : own_C p s m meth c Z own nm code ml rt) (X : own_S p l e R s m args below meth c Z T L k n) {i : Fin 4} {v : Int64} (hd : decode code pc = .ok (.lload_n i, 1)) (hp : pc + 1 = npc) (hl : ls[i.val]? = some (.val (.long v))) (g : own_Go p.tables e below P (T.setTop (mkF m npc ls (.long v :: st)))) : own_Go p.tables e below P (T.setTop (mkF m pc ls (st))) := by
  subst hp; obtain ⟨_, X, -, -⟩ := X
  exact g.st fun t k => Jvm.Free.XT.lloadN X.here C.1 rfl (hb C.2.1 hd) hl k
theorem k_lstoreN (C : own_C p s m meth c Z own nm code ml rt) (X : own_S p l e R s m args below meth c Z T L k n) {i : Fin 4} {v : Int64} {l' : Array Slot} (hd : decode code pc = .ok (.lstore_n i, 1)) (hp : pc + 1 = npc) (hl : storeLocals ls i.val (.long v) = some l') (g : own_Go p.tables e below P (T.setTop (mkF m npc l' st))) : own_Go p.tables e below P (T.setTop (mkF m pc ls (.long v :: st))) := by
  subst hp; obtain ⟨_, X, -, -⟩ := X
  exact g.st fun t k => Jvm.Free.XT.lstoreN X.here C.1 rfl (hb C.2.1 hd) rfl hl k
theorem k_dload (C : own_C p s m meth c Z own nm code ml rt) (X : own_S p l e R s m args below meth c Z T L k n) {i : Nat} {v : UInt64} (hd : decode code pc = .ok (.dload i, 2)) (hp : pc + 2 = npc) (hl : ls[i]? = some (.val (.double v))) (g : own_Go p.tables e below P (T.setTop (mkF m npc ls (.double v :: st)))) : own_Go p.tables e below P (T.setTop (mkF m pc ls (st))) := by
  subst hp; obtain ⟨_, X, -, -⟩ := X
  exact g.st fun t k => Jvm.Free.XS.dload X.here C.1 rfl (hb C.2.1 hd) hl k
theorem k_dstore (C : own_C p s m meth c Z own nm code ml rt) (X : own_S p l e R s m args below meth c Z T L k n) {i : Nat} {v : UInt64} {l' : Array Slot} (hd : decode code pc = .ok (.dstore i, 2)) (hp : pc + 2 = npc) (hl : storeLocals ls i (.double v) = some l') (g : own_Go p.tables e below P (T.setTop (mkF m npc l' st))) : own_Go p.tables e below P (T.setTop (mkF m pc ls (.double v :: st))) := by
  subst hp; obtain ⟨_, X, -, -⟩ := X
  exact g.st fun t k => Jvm.Free.XS.dstore X.here C.1 rfl (hb C.2.1 hd) rfl hl k
theorem k_dloadN (C : own_C p s m meth c Z own nm code ml rt) (X : own_S p l e R s m args below meth c Z T L k n) {i : Fin 4} {v : UInt64} (hd : decode code pc = .ok (.dload_n i, 1)) (hp : pc + 1 = npc) (hl : ls[i.val]? = some (.val (.double v))) (g : own_Go p.tables e below P (T.setTop (mkF m npc ls (.double v :: st)))) : own_Go p.tables e below P (T.setTop (mkF m pc ls (st))) := by
  subst hp; obtain ⟨_, X, -, -⟩ := X
  exact g.st fun t k => Jvm.Free.XS.dloadN X.here C.1 rfl (hb C.2.1 hd) hl k
theorem k_dstoreN (C : own_C p s m meth c Z own nm code ml rt) (X : own_S p l e R s m args below meth c Z T L k n) {i : Fin 4} {v : UInt64} {l' : Array Slot} (hd : decode code pc = .ok (.dstore_n i, 1)) (hp : pc + 1 = npc) (hl : storeLocals ls i.val (.double v) = some l') (g : own_Go p.tables e below P (T.setTop (mkF m npc l' st))) : own_Go p.tables e below P (T.setTop (mkF m pc ls (.double v :: st))) := by
  subst hp; obtain ⟨_, X, -, -⟩ := X
  exact g.st fun t k => Jvm.Free.XS.dstoreN X.here C.1 rfl (hb C.2.1 hd) rfl hl k
theorem k_aload (C : own_C p s m meth c Z own nm code ml rt) (X : own_S p l e R s m args below meth c Z T L k n) {i : Nat} {v : Value} (hd : decode code pc = .ok (.aload i, 2)) (hp : pc + 2 = npc) (hl : ls[i]? = some (.val (v))) (hv : v.isRef = true) (g : own_Go p.tables e below P (T.setTop (mkF m npc ls (v :: st)))) : own_Go p.tables e below P (T.setTop (mkF m pc ls (st))) := by
  subst hp; obtain ⟨_, X, -, -⟩ := X
  exact g.st fun t k => Jvm.Free.XS.aload X.here C.1 rfl (hb C.2.1 hd) hl hv k
theorem k_astore (C : own_C p s m meth c Z own nm code ml rt) (X : own_S p l e R s m args below meth c Z T L k n) {i : Nat} {v : Value} {l' : Array Slot} (hd : decode code pc = .ok (.astore i, 2)) (hp : pc + 2 = npc) (hv : v.isRef = true) (hl : storeLocals ls i (v) = some l') (g : own_Go p.tables e below P (T.setTop (mkF m npc l' st))) : own_Go p.tables e below P (T.setTop (mkF m pc ls (v :: st))) := by
  subst hp; obtain ⟨_, X, -, -⟩ := X
  exact g.st fun t k => Jvm.Free.XS.astore X.here C.1 rfl (hb C.2.1 hd) rfl hv hl k
theorem k_aloadN (C : own_C p s m meth c Z own nm code ml rt) (X : own_S p l e R s m args below meth c Z T L k n) {i : Fin 4} {v : Value} (hd : decode code pc = .ok (.aload_n i, 1)) (hp : pc + 1 = npc) (hl : ls[i.val]? = some (.val (v))) (hv : v.isRef = true) (g : own_Go p.tables e below P (T.setTop (mkF m npc ls (v :: st)))) : own_Go p.tables e below P (T.setTop (mkF m pc ls (st))) := by
  subst hp; obtain ⟨_, X, -, -⟩ := X
  exact g.st fun t k => Jvm.Free.XS.aloadN X.here C.1 rfl (hb C.2.1 hd) hl hv k
theorem k_astoreN (C : own_C p s m meth c Z own nm code ml rt) (X : own_S p l e R s m args below meth c Z T L k n) {i : Fin 4} {v : Value} {l' : Array Slot} (hd : decode code pc = .ok (.astore_n i, 1)) (hp : pc + 1 = npc) (hv : v.isRef = true) (hl : storeLocals ls i.val (v) = some l') (g : own_Go p.tables e below P (T.setTop (mkF m npc l' st))) : own_Go p.tables e below P (T.setTop (mkF m pc ls (v :: st))) := by
  subst hp; obtain ⟨_, X, -, -⟩ := X
  exact g.st fun t k => Jvm.Free.XS.astoreN X.here C.1 rfl (hb C.2.1 hd) rfl hv hl k
theorem k_iinc (C : own_C p s m meth c Z own nm code ml rt) (X : own_S p l e R s m args below meth c Z T L k n) {i : Nat} {cst : Int} {x v : Int32} {l' : Array Slot} (hd : decode code pc = .ok (.iinc i cst, 3)) (hp : pc + 3 = npc) (hv : Int32.ofInt cst = v) (hl : ls[i]? = some (.val (.int x))) (hl' : storeLocals ls i (.int (x + v)) = some l') (g : own_Go p.tables e below P (T.setTop (mkF m npc l' st))) : own_Go p.tables e below P (T.setTop (mkF m pc ls st)) := by
  subst hp; obtain ⟨_, X, -, -⟩ := X
  exact g.st fun t k => Jvm.Free.XT.iincV X.here C.1 rfl v (hb C.2.1 hd) hv hl hl' k
theorem k_goto (C : own_C p s m meth c Z own nm code ml rt) (X : own_S p l e R s m args below meth c Z T L k n) {o : Int} (hd : decode code pc = .ok (.goto o, 3)) (ht : (pc : Int) + o = (tpc : Int)) (g : own_Go p.tables e below P (T.setTop (mkF m tpc ls st))) : own_Go p.tables e below P (T.setTop (mkF m pc ls st)) := by
  obtain ⟨_, X, -, -⟩ := X
  exact g.st fun t k => Jvm.Free.XS.goto X.here C.1 rfl (pc0 := pc) (pc' := tpc) rfl (hb C.2.1 hd) (by omega) (by omega) k
theorem k_if_eq (C : own_C p s m meth c Z own nm code ml rt) (X : own_S p l e R s m args below meth c Z T L k n) {x : Int32} {o : Int} (hd : decode code pc = .ok (.ifCond .eq o, 3)) (hp : pc + 3 = npc) (ht : (pc : Int) + o = (tpc : Int)) (yes : x = 0 → own_Go p.tables e below P (T.setTop (mkF m tpc ls st))) (no : ¬ x = 0 → own_Go p.tables e below P (T.setTop (mkF m npc ls st))) : own_Go p.tables e below P (T.setTop (mkF m pc ls (.int x :: st))) := by
  subst hp; obtain ⟨_, X, -, -⟩ := X
  by_cases q : x = 0
  · exact (yes q).st fun t k => Jvm.Free.XS.ifYes X.here C.1 rfl (pc0 := pc) (pc' := tpc) rfl (hb C.2.1 hd) rfl (Jvm.Free.XT.i0_eq_t q) (by omega) (by omega) k
  · exact (no q).st fun t k => Jvm.Free.XS.ifNo X.here C.1 rfl (hb C.2.1 hd) rfl (Jvm.Free.XT.i0_eq_f q) k
theorem k_if_ne (C : own_C p s m meth c Z own nm code ml rt) (X : own_S p l e R s m args below meth c Z T L k n) {x : Int32} {o : Int} (hd : decode code pc = .ok (.ifCond .ne o, 3)) (hp : pc + 3 = npc) (ht : (pc : Int) + o = (tpc : Int)) (yes : ¬ x = 0 → own_Go p.tables e below P (T.setTop (mkF m tpc ls st))) (no : x = 0 → own_Go p.tables e below P (T.setTop (mkF m npc ls st))) : own_Go p.tables e below P (T.setTop (mkF m pc ls (.int x :: st))) := by
  subst hp; obtain ⟨_, X, -, -⟩ := X
  by_cases q : ¬ x = 0
  · exact (yes q).st fun t k => Jvm.Free.XS.ifYes X.here C.1 rfl (pc0 := pc) (pc' := tpc) rfl (hb C.2.1 hd) rfl (Jvm.Free.XT.i0_ne_t q) (by omega) (by omega) k
  · have q := Decidable.not_not.mp q
    exact (no q).st fun t k => Jvm.Free.XS.ifNo X.here C.1 rfl (hb C.2.1 hd) rfl (Jvm.Free.XT.i0_ne_f q) k
theorem k_if_lt (C : own_C p s m meth c Z own nm code ml rt) (X : own_S p l e R s m args below meth c Z T L k n) {x : Int32} {o : Int} (hd : decode code pc = .ok (.ifCond .lt o, 3)) (hp : pc + 3 = npc) (ht : (pc : Int) + o = (tpc : Int)) (yes : x < 0 → own_Go p.tables e below P (T.setTop (mkF m tpc ls st))) (no : ¬ x < 0 → own_Go p.tables e below P (T.setTop (mkF m npc ls st))) : own_Go p.tables e below P (T.setTop (mkF m pc ls (.int x :: st))) := by
  subst hp; obtain ⟨_, X, -, -⟩ := X
  by_cases q : x < 0
  · exact (yes q).st fun t k => Jvm.Free.XS.ifYes X.here C.1 rfl (pc0 := pc) (pc' := tpc) rfl (hb C.2.1 hd) rfl (Jvm.Free.XT.i0_lt_t q) (by omega) (by omega) k
  · exact (no q).st fun t k => Jvm.Free.XS.ifNo X.here C.1 rfl (hb C.2.1 hd) rfl (Jvm.Free.XT.i0_lt_f q) k
theorem k_if_ge (C : own_C p s m meth c Z own nm code ml rt) (X : own_S p l e R s m args below meth c Z T L k n) {x : Int32} {o : Int} (hd : decode code pc = .ok (.ifCond .ge o, 3)) (hp : pc + 3 = npc) (ht : (pc : Int) + o = (tpc : Int)) (yes : ¬ x < 0 → own_Go p.tables e below P (T.setTop (mkF m tpc ls st))) (no : x < 0 → own_Go p.tables e below P (T.setTop (mkF m npc ls st))) : own_Go p.tables e below P (T.setTop (mkF m pc ls (.int x :: st))) := by
  subst hp; obtain ⟨_, X, -, -⟩ := X
  by_cases q : ¬ x < 0
  · exact (yes q).st fun t k => Jvm.Free.XS.ifYes X.here C.1 rfl (pc0 := pc) (pc' := tpc) rfl (hb C.2.1 hd) rfl (Jvm.Free.XT.i0_ge_t q) (by omega) (by omega) k
  · have q := Decidable.not_not.mp q
    exact (no q).st fun t k => Jvm.Free.XS.ifNo X.here C.1 rfl (hb C.2.1 hd) rfl (Jvm.Free.XT.i0_ge_f q) k
theorem k_if_gt (C : own_C p s m meth c Z own nm code ml rt) (X : own_S p l e R s m args below meth c Z T L k n) {x : Int32} {o : Int} (hd : decode code pc = .ok (.ifCond .gt o, 3)) (hp : pc + 3 = npc) (ht : (pc : Int) + o = (tpc : Int)) (yes : 0 < x → own_Go p.tables e below P (T.setTop (mkF m tpc ls st))) (no : ¬ 0 < x → own_Go p.tables e below P (T.setTop (mkF m npc ls st))) : own_Go p.tables e below P (T.setTop (mkF m pc ls (.int x :: st))) := by
  subst hp; obtain ⟨_, X, -, -⟩ := X
  by_cases q : 0 < x
  · exact (yes q).st fun t k => Jvm.Free.XS.ifYes X.here C.1 rfl (pc0 := pc) (pc' := tpc) rfl (hb C.2.1 hd) rfl (Jvm.Free.XT.i0_gt_t q) (by omega) (by omega) k
  · exact (no q).st fun t k => Jvm.Free.XS.ifNo X.here C.1 rfl (hb C.2.1 hd) rfl (Jvm.Free.XT.i0_gt_f q) k
theorem k_if_le (C : own_C p s m meth c Z own nm code ml rt) (X : own_S p l e R s m args below meth c Z T L k n) {x : Int32} {o : Int} (hd : decode code pc = .ok (.ifCond .le o, 3)) (hp : pc + 3 = npc) (ht : (pc : Int) + o = (tpc : Int)) (yes : ¬ 0 < x → own_Go p.tables e below P (T.setTop (mkF m tpc ls st))) (no : 0 < x → own_Go p.tables e below P (T.setTop (mkF m npc ls st))) : own_Go p.tables e below P (T.setTop (mkF m pc ls (.int x :: st))) := by
  subst hp; obtain ⟨_, X, -, -⟩ := X
  by_cases q : ¬ 0 < x
  · exact (yes q).st fun t k => Jvm.Free.XS.ifYes X.here C.1 rfl (pc0 := pc) (pc' := tpc) rfl (hb C.2.1 hd) rfl (Jvm.Free.XT.i0_le_t q) (by omega) (by omega) k
  · have q := Decidable.not_not.mp q
    exact (no q).st fun t k => Jvm.Free.XS.ifNo X.here C.1 rfl (hb C.2.1 hd) rfl (Jvm.Free.XT.i0_le_f q) k
theorem k_icmp_eq (C : own_C p s m meth c Z own nm code ml rt) (X : own_S p l e R s m args below meth c Z T L k n) {x y : Int32} {o : Int} (hd : decode code pc = .ok (.if_icmp .eq o, 3)) (hp : pc + 3 = npc) (ht : (pc : Int) + o = (tpc : Int)) (yes : x = y → own_Go p.tables e below P (T.setTop (mkF m tpc ls st))) (no : ¬ x = y → own_Go p.tables e below P (T.setTop (mkF m npc ls st))) : own_Go p.tables e below P (T.setTop (mkF m pc ls (.int y :: .int x :: st))) := by
  subst hp; obtain ⟨_, X, -, -⟩ := X
  by_cases q : x = y
  · exact (yes q).st fun t k => Jvm.Free.XS.icmpYes X.here C.1 rfl (pc0 := pc) (pc' := tpc) rfl (hb C.2.1 hd) rfl (Jvm.Free.XT.ii_eq_t q) (by omega) (by omega) k
  · exact (no q).st fun t k => Jvm.Free.XS.icmpNo X.here C.1 rfl (hb C.2.1 hd) rfl (Jvm.Free.XT.ii_eq_f q) k
theorem k_icmp_ne (C : own_C p s m meth c Z own nm code ml rt) (X : own_S p l e R s m args below meth c Z T L k n) {x y : Int32} {o : Int} (hd : decode code pc = .ok (.if_icmp .ne o, 3)) (hp : pc + 3 = npc) (ht : (pc : Int) + o = (tpc : Int)) (yes : ¬ x = y → own_Go p.tables e below P (T.setTop (mkF m tpc ls st))) (no : x = y → own_Go p.tables e below P (T.setTop (mkF m npc ls st))) : own_Go p.tables e below P (T.setTop (mkF m pc ls (.int y :: .int x :: st))) := by
  subst hp; obtain ⟨_, X, -, -⟩ := X
  by_cases q : ¬ x = y
  · exact (yes q).st fun t k => Jvm.Free.XS.icmpYes X.here C.1 rfl (pc0 := pc) (pc' := tpc) rfl (hb C.2.1 hd) rfl (Jvm.Free.XT.ii_ne_t q) (by omega) (by omega) k
  · have q := Decidable.not_not.mp q
    exact (no q).st fun t k => Jvm.Free.XS.icmpNo X.here C.1 rfl (hb C.2.1 hd) rfl (Jvm.Free.XT.ii_ne_f q) k
theorem k_icmp_lt (C : own_C p s m meth c Z own nm code ml rt) (X : own_S p l e R s m args below meth c Z T L k n) {x y : Int32} {o : Int} (hd : decode code pc = .ok (.if_icmp .lt o, 3)) (hp : pc + 3 = npc) (ht : (pc : Int) + o = (tpc : Int)) (yes : x < y → own_Go p.tables e below P (T.setTop (mkF m tpc ls st))) (no : ¬ x < y → own_Go p.tables e below P (T.setTop (mkF m npc ls st))) : own_Go p.tables e below P (T.setTop (mkF m pc ls (.int y :: .int x :: st))) := by
  subst hp; obtain ⟨_, X, -, -⟩ := X
  by_cases q : x < y
  · exact (yes q).st fun t k => Jvm.Free.XS.icmpYes X.here C.1 rfl (pc0 := pc) (pc' := tpc) rfl (hb C.2.1 hd) rfl (Jvm.Free.XT.ii_lt_t q) (by omega) (by omega) k
  · exact (no q).st fun t k => Jvm.Free.XS.icmpNo X.here C.1 rfl (hb C.2.1 hd) rfl (Jvm.Free.XT.ii_lt_f q) k
theorem k_icmp_ge (C : own_C p s m meth c Z own nm code ml rt) (X : own_S p l e R s m args below meth c Z T L k n) {x y : Int32} {o : Int} (hd : decode code pc = .ok (.if_icmp .ge o, 3)) (hp : pc + 3 = npc) (ht : (pc : Int) + o = (tpc : Int)) (yes : ¬ x < y → own_Go p.tables e below P (T.setTop (mkF m tpc ls st))) (no : x < y → own_Go p.tables e below P (T.setTop (mkF m npc ls st))) : own_Go p.tables e below P (T.setTop (mkF m pc ls (.int y :: .int x :: st))) := by
  subst hp; obtain ⟨_, X, -, -⟩ := X
  by_cases q : ¬ x < y
  · exact (yes q).st fun t k => Jvm.Free.XS.icmpYes X.here C.1 rfl (pc0 := pc) (pc' := tpc) rfl (hb C.2.1 hd) rfl (Jvm.Free.XT.ii_ge_t q) (by omega) (by omega) k
  · have q := Decidable.not_not.mp q
    exact (no q).st fun t k => Jvm.Free.XS.icmpNo X.here C.1 rfl (hb C.2.1 hd) rfl (Jvm.Free.XT.ii_ge_f q) k
theorem k_icmp_gt (C : own_C p s m meth c Z own nm code ml rt) (X : own_S p l e R s m args below meth c Z T L k n) {x y : Int32} {o : Int} (hd : decode code pc = .ok (.if_icmp .gt o, 3)) (hp : pc + 3 = npc) (ht : (pc : Int) + o = (tpc : Int)) (yes : y < x → own_Go p.tables e below P (T.setTop (mkF m tpc ls st))) (no : ¬ y < x → own_Go p.tables e below P (T.setTop (mkF m npc ls st))) : own_Go p.tables e below P (T.setTop (mkF m pc ls (.int y :: .int x :: st))) := by
  subst hp; obtain ⟨_, X, -, -⟩ := X
  by_cases q : y < x
  · exact (yes q).st fun t k => Jvm.Free.XS.icmpYes X.here C.1 rfl (pc0 := pc) (pc' := tpc) rfl (hb C.2.1 hd) rfl (Jvm.Free.XT.ii_gt_t q) (by omega) (by omega) k
  · exact (no q).st fun t k => Jvm.Free.XS.icmpNo X.here C.1 rfl (hb C.2.1 hd) rfl (Jvm.Free.XT.ii_gt_f q) k
theorem k_icmp_le (C : own_C p s m meth c Z own nm code ml rt) (X : own_S p l e R s m args below meth c Z T L k n) {x y : Int32} {o : Int} (hd : decode code pc = .ok (.if_icmp .le o, 3)) (hp : pc + 3 = npc) (ht : (pc : Int) + o = (tpc : Int)) (yes : ¬ y < x → own_Go p.tables e below P (T.setTop (mkF m tpc ls st))) (no : y < x → own_Go p.tables e below P (T.setTop (mkF m npc ls st))) : own_Go p.tables e below P (T.setTop (mkF m pc ls (.int y :: .int x :: st))) := by
  subst hp; obtain ⟨_, X, -, -⟩ := X
  by_cases q : ¬ y < x
  · exact (yes q).st fun t k => Jvm.Free.XS.icmpYes X.here C.1 rfl (pc0 := pc) (pc' := tpc) rfl (hb C.2.1 hd) rfl (Jvm.Free.XT.ii_le_t q) (by omega) (by omega) k
  · have q := Decidable.not_not.mp q
    exact (no q).st fun t k => Jvm.Free.XS.icmpNo X.here C.1 rfl (hb C.2.1 hd) rfl (Jvm.Free.XT.ii_le_f q) k
theorem k_ifl_eq (C : own_C p s m meth c Z own nm code ml rt) (X : own_S p l e R s m args below meth c Z T L k n) {x y : Int64} {o : Int} (hd : decode code pc = .ok (.ifCond .eq o, 3)) (hp : pc + 3 = npc) (ht : (pc : Int) + o = (tpc : Int)) (yes : x = y → own_Go p.tables e below P (T.setTop (mkF m tpc ls st))) (no : ¬ x = y → own_Go p.tables e below P (T.setTop (mkF m npc ls st))) : own_Go p.tables e below P (T.setTop (mkF m pc ls (.int (Jvm.Free.XT.cmpL x y) :: st))) := by
  subst hp; obtain ⟨_, X, -, -⟩ := X
  by_cases q : x = y
  · exact (yes q).st fun t k => Jvm.Free.XS.ifYes X.here C.1 rfl (pc0 := pc) (pc' := tpc) rfl (hb C.2.1 hd) rfl (Jvm.Free.XT.ll_eq_t q) (by omega) (by omega) k
  · exact (no q).st fun t k => Jvm.Free.XS.ifNo X.here C.1 rfl (hb C.2.1 hd) rfl (Jvm.Free.XT.ll_eq_f q) k
theorem k_ifl_ne (C : own_C p s m meth c Z own nm code ml rt) (X : own_S p l e R s m args below meth c Z T L k n) {x y : Int64} {o : Int} (hd : decode code pc = .ok (.ifCond .ne o, 3)) (hp : pc + 3 = npc) (ht : (pc : Int) + o = (tpc : Int)) (yes : ¬ x = y → own_Go p.tables e below P (T.setTop (mkF m tpc ls st))) (no : x = y → own_Go p.tables e below P (T.setTop (mkF m npc ls st))) : own_Go p.tables e below P (T.setTop (mkF m pc ls (.int (Jvm.Free.XT.cmpL x y) :: st))) := by
  subst hp; obtain ⟨_, X, -, -⟩ := X
  by_cases q : ¬ x = y
  · exact (yes q).st fun t k => Jvm.Free.XS.ifYes X.here C.1 rfl (pc0 := pc) (pc' := tpc) rfl (hb C.2.1 hd) rfl (Jvm.Free.XT.ll_ne_t q) (by omega) (by omega) k
  · have q := Decidable.not_not.mp q
    exact (no q).st fun t k => Jvm.Free.XS.ifNo X.here C.1 rfl (hb C.2.1 hd) rfl (Jvm.Free.XT.ll_ne_f q) k
theorem k_ifl_lt (C : own_C p s m meth c Z own nm code ml rt) (X : own_S p l e R s m args below meth c Z T L k n) {x y : Int64} {o : Int} (hd : decode code pc = .ok (.ifCond .lt o, 3)) (hp : pc + 3 = npc) (ht : (pc : Int) + o = (tpc : Int)) (yes : x < y → own_Go p.tables e below P (T.setTop (mkF m tpc ls st))) (no : ¬ x < y → own_Go p.tables e below P (T.setTop (mkF m npc ls st))) : own_Go p.tables e below P (T.setTop (mkF m pc ls (.int (Jvm.Free.XT.cmpL x y) :: st))) := by
  subst hp; obtain ⟨_, X, -, -⟩ := X
  by_cases q : x < y
  · exact (yes q).st fun t k => Jvm.Free.XS.ifYes X.here C.1 rfl (pc0 := pc) (pc' := tpc) rfl (hb C.2.1 hd) rfl (Jvm.Free.XT.ll_lt_t q) (by omega) (by omega) k
  · exact (no q).st fun t k => Jvm.Free.XS.ifNo X.here C.1 rfl (hb C.2.1 hd) rfl (Jvm.Free.XT.ll_lt_f q) k
theorem k_ifl_ge (C : own_C p s m meth c Z own nm code ml rt) (X : own_S p l e R s m args below meth c Z T L k n) {x y : Int64} {o : Int} (hd : decode code pc = .ok (.ifCond .ge o, 3)) (hp : pc + 3 = npc) (ht : (pc : Int) + o = (tpc : Int)) (yes : ¬ x < y → own_Go p.tables e below P (T.setTop (mkF m tpc ls st))) (no : x < y → own_Go p.tables e below P (T.setTop (mkF m npc ls st))) : own_Go p.tables e below P (T.setTop (mkF m pc ls (.int (Jvm.Free.XT.cmpL x y) :: st))) := by
  subst hp; obtain ⟨_, X, -, -⟩ := X
  by_cases q : ¬ x < y
  · exact (yes q).st fun t k => Jvm.Free.XS.ifYes X.here C.1 rfl (pc0 := pc) (pc' := tpc) rfl (hb C.2.1 hd) rfl (Jvm.Free.XT.ll_ge_t q) (by omega) (by omega) k
  · have q := Decidable.not_not.mp q
    exact (no q).st fun t k => Jvm.Free.XS.ifNo X.here C.1 rfl (hb C.2.1 hd) rfl (Jvm.Free.XT.ll_ge_f q) k
theorem k_ifl_gt (C : own_C p s m meth c Z own nm code ml rt) (X : own_S p l e R s m args below meth c Z T L k n) {x y : Int64} {o : Int} (hd : decode code pc = .ok (.ifCond .gt o, 3)) (hp : pc + 3 = npc) (ht : (pc : Int) + o = (tpc : Int)) (yes : y < x → own_Go p.tables e below P (T.setTop (mkF m tpc ls st))) (no : ¬ y < x → own_Go p.tables e below P (T.setTop (mkF m npc ls st))) : own_Go p.tables e below P (T.setTop (mkF m pc ls (.int (Jvm.Free.XT.cmpL x y) :: st))) := by
  subst hp; obtain ⟨_, X, -, -⟩ := X
  by_cases q : y < x
  · exact (yes q).st fun t k => Jvm.Free.XS.ifYes X.here C.1 rfl (pc0 := pc) (pc' := tpc) rfl (hb C.2.1 hd) rfl (Jvm.Free.XT.ll_gt_t q) (by omega) (by omega) k
  · exact (no q).st fun t k => Jvm.Free.XS.ifNo X.here C.1 rfl (hb C.2.1 hd) rfl (Jvm.Free.XT.ll_gt_f q) k
theorem k_ifl_le (C : own_C p s m meth c Z own nm code ml rt) (X : own_S p l e R s m args below meth c Z T L k n) {x y : Int64} {o : Int} (hd : decode code pc = .ok (.ifCond .le o, 3)) (hp : pc + 3 = npc) (ht : (pc : Int) + o = (tpc : Int)) (yes : ¬ y < x → own_Go p.tables e below P (T.setTop (mkF m tpc ls st))) (no : y < x → own_Go p.tables e below P (T.setTop (mkF m npc ls st))) : own_Go p.tables e below P (T.setTop (mkF m pc ls (.int (Jvm.Free.XT.cmpL x y) :: st))) := by
  subst hp; obtain ⟨_, X, -, -⟩ := X
  by_cases q : ¬ y < x
  · exact (yes q).st fun t k => Jvm.Free.XS.ifYes X.here C.1 rfl (pc0 := pc) (pc' := tpc) rfl (hb C.2.1 hd) rfl (Jvm.Free.XT.ll_le_t q) (by omega) (by omega) k
  · have q := Decidable.not_not.mp q
    exact (no q).st fun t k => Jvm.Free.XS.ifNo X.here C.1 rfl (hb C.2.1 hd) rfl (Jvm.Free.XT.ll_le_f q) k
theorem k_ifdl_eq (C : own_C p s m meth c Z own nm code ml rt) (X : own_S p l e R s m args below meth c Z T L k n) {x y : UInt64} {o : Int} (hd : decode code pc = .ok (.ifCond .eq o, 3)) (hp : pc + 3 = npc) (ht : (pc : Int) + o = (tpc : Int)) (yes : (FP.dcmp x y = some .eq) → own_Go p.tables e below P (T.setTop (mkF m tpc ls st))) (no : ¬ (FP.dcmp x y = some .eq) → own_Go p.tables e below P (T.setTop (mkF m npc ls st))) : own_Go p.tables e below P (T.setTop (mkF m pc ls (.int (FP.cmpInt (-1) (FP.dcmp x y)) :: st))) := by
  subst hp; obtain ⟨_, X, -, -⟩ := X
  rcases hq : FP.dcmp x y with _ | (_ | _ | _) <;> simp only [hq] at yes no
  all_goals first
    | exact (yes (by simp)).st fun t k => Jvm.Free.XS.ifYes X.here C.1 rfl (pc0 := pc) (pc' := tpc) rfl (hb C.2.1 hd) rfl (by decide) (by omega) (by omega) k
    | exact (no (by simp)).st fun t k => Jvm.Free.XS.ifNo X.here C.1 rfl (hb C.2.1 hd) rfl (by decide) k
theorem k_ifdl_ne (C : own_C p s m meth c Z own nm code ml rt) (X : own_S p l e R s m args below meth c Z T L k n) {x y : UInt64} {o : Int} (hd : decode code pc = .ok (.ifCond .ne o, 3)) (hp : pc + 3 = npc) (ht : (pc : Int) + o = (tpc : Int)) (yes : ¬ (FP.dcmp x y = some .eq) → own_Go p.tables e below P (T.setTop (mkF m tpc ls st))) (no : (FP.dcmp x y = some .eq) → own_Go p.tables e below P (T.setTop (mkF m npc ls st))) : own_Go p.tables e below P (T.setTop (mkF m pc ls (.int (FP.cmpInt (-1) (FP.dcmp x y)) :: st))) := by
  subst hp; obtain ⟨_, X, -, -⟩ := X
  rcases hq : FP.dcmp x y with _ | (_ | _ | _) <;> simp only [hq] at yes no
  all_goals first
    | exact (yes (by simp)).st fun t k => Jvm.Free.XS.ifYes X.here C.1 rfl (pc0 := pc) (pc' := tpc) rfl (hb C.2.1 hd) rfl (by decide) (by omega) (by omega) k
    | exact (no (by simp)).st fun t k => Jvm.Free.XS.ifNo X.here C.1 rfl (hb C.2.1 hd) rfl (by decide) k
theorem k_ifdl_lt (C : own_C p s m meth c Z own nm code ml rt) (X : own_S p l e R s m args below meth c Z T L k n) {x y : UInt64} {o : Int} (hd : decode code pc = .ok (.ifCond .lt o, 3)) (hp : pc + 3 = npc) (ht : (pc : Int) + o = (tpc : Int)) (yes : (FP.dcmp x y = some .lt ∨ FP.dcmp x y = none) → own_Go p.tables e below P (T.setTop (mkF m tpc ls st))) (no : ¬ (FP.dcmp x y = some .lt ∨ FP.dcmp x y = none) → own_Go p.tables e below P (T.setTop (mkF m npc ls st))) : own_Go p.tables e below P (T.setTop (mkF m pc ls (.int (FP.cmpInt (-1) (FP.dcmp x y)) :: st))) := by
  subst hp; obtain ⟨_, X, -, -⟩ := X
  rcases hq : FP.dcmp x y with _ | (_ | _ | _) <;> simp only [hq] at yes no
  all_goals first
    | exact (yes (by simp)).st fun t k => Jvm.Free.XS.ifYes X.here C.1 rfl (pc0 := pc) (pc' := tpc) rfl (hb C.2.1 hd) rfl (by decide) (by omega) (by omega) k
    | exact (no (by simp)).st fun t k => Jvm.Free.XS.ifNo X.here C.1 rfl (hb C.2.1 hd) rfl (by decide) k
theorem k_ifdl_ge (C : own_C p s m meth c Z own nm code ml rt) (X : own_S p l e R s m args below meth c Z T L k n) {x y : UInt64} {o : Int} (hd : decode code pc = .ok (.ifCond .ge o, 3)) (hp : pc + 3 = npc) (ht : (pc : Int) + o = (tpc : Int)) (yes : ¬ (FP.dcmp x y = some .lt ∨ FP.dcmp x y = none) → own_Go p.tables e below P (T.setTop (mkF m tpc ls st))) (no : (FP.dcmp x y = some .lt ∨ FP.dcmp x y = none) → own_Go p.tables e below P (T.setTop (mkF m npc ls st))) : own_Go p.tables e below P (T.setTop (mkF m pc ls (.int (FP.cmpInt (-1) (FP.dcmp x y)) :: st))) := by
  subst hp; obtain ⟨_, X, -, -⟩ := X
  rcases hq : FP.dcmp x y with _ | (_ | _ | _) <;> simp only [hq] at yes no
  all_goals first
    | exact (yes (by simp)).st fun t k => Jvm.Free.XS.ifYes X.here C.1 rfl (pc0 := pc) (pc' := tpc) rfl (hb C.2.1 hd) rfl (by decide) (by omega) (by omega) k
    | exact (no (by simp)).st fun t k => Jvm.Free.XS.ifNo X.here C.1 rfl (hb C.2.1 hd) rfl (by decide) k
theorem k_ifdl_gt (C : own_C p s m meth c Z own nm code ml rt) (X : own_S p l e R s m args below meth c Z T L k n) {x y : UInt64} {o : Int} (hd : decode code pc = .ok (.ifCond .gt o, 3)) (hp : pc + 3 = npc) (ht : (pc : Int) + o = (tpc : Int)) (yes : (FP.dcmp x y = some .gt) → own_Go p.tables e below P (T.setTop (mkF m tpc ls st))) (no : ¬ (FP.dcmp x y = some .gt) → own_Go p.tables e below P (T.setTop (mkF m npc ls st))) : own_Go p.tables e below P (T.setTop (mkF m pc ls (.int (FP.cmpInt (-1) (FP.dcmp x y)) :: st))) := by
  subst hp; obtain ⟨_, X, -, -⟩ := X
  rcases hq : FP.dcmp x y with _ | (_ | _ | _) <;> simp only [hq] at yes no
  all_goals first
    | exact (yes (by simp)).st fun t k => Jvm.Free.XS.ifYes X.here C.1 rfl (pc0 := pc) (pc' := tpc) rfl (hb C.2.1 hd) rfl (by decide) (by omega) (by omega) k
    | exact (no (by simp)).st fun t k => Jvm.Free.XS.ifNo X.here C.1 rfl (hb C.2.1 hd) rfl (by decide) k
theorem k_ifdl_le (C : own_C p s m meth c Z own nm code ml rt) (X : own_S p l e R s m args below meth c Z T L k n) {x y : UInt64} {o : Int} (hd : decode code pc = .ok (.ifCond .le o, 3)) (hp : pc + 3 = npc) (ht : (pc : Int) + o = (tpc : Int)) (yes : ¬ (FP.dcmp x y = some .gt) → own_Go p.tables e below P (T.setTop (mkF m tpc ls st))) (no : (FP.dcmp x y = some .gt) → own_Go p.tables e below P (T.setTop (mkF m npc ls st))) : own_Go p.tables e below P (T.setTop (mkF m pc ls (.int (FP.cmpInt (-1) (FP.dcmp x y)) :: st))) := by
  subst hp; obtain ⟨_, X, -, -⟩ := X
  rcases hq : FP.dcmp x y with _ | (_ | _ | _) <;> simp only [hq] at yes no
  all_goals first
    | exact (yes (by simp)).st fun t k => Jvm.Free.XS.ifYes X.here C.1 rfl (pc0 := pc) (pc' := tpc) rfl (hb C.2.1 hd) rfl (by decide) (by omega) (by omega) k
    | exact (no (by simp)).st fun t k => Jvm.Free.XS.ifNo X.here C.1 rfl (hb C.2.1 hd) rfl (by decide) k
theorem k_ifdg_eq (C : own_C p s m meth c Z own nm code ml rt) (X : own_S p l e R s m args below meth c Z T L k n) {x y : UInt64} {o : Int} (hd : decode code pc = .ok (.ifCond .eq o, 3)) (hp : pc + 3 = npc) (ht : (pc : Int) + o = (tpc : Int)) (yes : (FP.dcmp x y = some .eq) → own_Go p.tables e below P (T.setTop (mkF m tpc ls st))) (no : ¬ (FP.dcmp x y = some .eq) → own_Go p.tables e below P (T.setTop (mkF m npc ls st))) : own_Go p.tables e below P (T.setTop (mkF m pc ls (.int (FP.cmpInt 1 (FP.dcmp x y)) :: st))) := by
  subst hp; obtain ⟨_, X, -, -⟩ := X
  rcases hq : FP.dcmp x y with _ | (_ | _ | _) <;> simp only [hq] at yes no
  all_goals first
    | exact (yes (by simp)).st fun t k => Jvm.Free.XS.ifYes X.here C.1 rfl (pc0 := pc) (pc' := tpc) rfl (hb C.2.1 hd) rfl (by decide) (by omega) (by omega) k
    | exact (no (by simp)).st fun t k => Jvm.Free.XS.ifNo X.here C.1 rfl (hb C.2.1 hd) rfl (by decide) k
theorem k_ifdg_ne (C : own_C p s m meth c Z own nm code ml rt) (X : own_S p l e R s m args below meth c Z T L k n) {x y : UInt64} {o : Int} (hd : decode code pc = .ok (.ifCond .ne o, 3)) (hp : pc + 3 = npc) (ht : (pc : Int) + o = (tpc : Int)) (yes : ¬ (FP.dcmp x y = some .eq) → own_Go p.tables e below P (T.setTop (mkF m tpc ls st))) (no : (FP.dcmp x y = some .eq) → own_Go p.tables e below P (T.setTop (mkF m npc ls st))) : own_Go p.tables e below P (T.setTop (mkF m pc ls (.int (FP.cmpInt 1 (FP.dcmp x y)) :: st))) := by
  subst hp; obtain ⟨_, X, -, -⟩ := X
  rcases hq : FP.dcmp x y with _ | (_ | _ | _) <;> simp only [hq] at yes no
  all_goals first
    | exact (yes (by simp)).st fun t k => Jvm.Free.XS.ifYes X.here C.1 rfl (pc0 := pc) (pc' := tpc) rfl (hb C.2.1 hd) rfl (by decide) (by omega) (by omega) k
    | exact (no (by simp)).st fun t k => Jvm.Free.XS.ifNo X.here C.1 rfl (hb C.2.1 hd) rfl (by decide) k
theorem k_ifdg_lt (C : own_C p s m meth c Z own nm code ml rt) (X : own_S p l e R s m args below meth c Z T L k n) {x y : UInt64} {o : Int} (hd : decode code pc = .ok (.ifCond .lt o, 3)) (hp : pc + 3 = npc) (ht : (pc : Int) + o = (tpc : Int)) (yes : (FP.dcmp x y = some .lt) → own_Go p.tables e below P (T.setTop (mkF m tpc ls st))) (no : ¬ (FP.dcmp x y = some .lt) → own_Go p.tables e below P (T.setTop (mkF m npc ls st))) : own_Go p.tables e below P (T.setTop (mkF m pc ls (.int (FP.cmpInt 1 (FP.dcmp x y)) :: st))) := by
  subst hp; obtain ⟨_, X, -, -⟩ := X
  rcases hq : FP.dcmp x y with _ | (_ | _ | _) <;> simp only [hq] at yes no
  all_goals first
    | exact (yes (by simp)).st fun t k => Jvm.Free.XS.ifYes X.here C.1 rfl (pc0 := pc) (pc' := tpc) rfl (hb C.2.1 hd) rfl (by decide) (by omega) (by omega) k
    | exact (no (by simp)).st fun t k => Jvm.Free.XS.ifNo X.here C.1 rfl (hb C.2.1 hd) rfl (by decide) k
theorem k_ifdg_ge (C : own_C p s m meth c Z own nm code ml rt) (X : own_S p l e R s m args below meth c Z T L k n) {x y : UInt64} {o : Int} (hd : decode code pc = .ok (.ifCond .ge o, 3)) (hp : pc + 3 = npc) (ht : (pc : Int) + o = (tpc : Int)) (yes : ¬ (FP.dcmp x y = some .lt) → own_Go p.tables e below P (T.setTop (mkF m tpc ls st))) (no : (FP.dcmp x y = some .lt) → own_Go p.tables e below P (T.setTop (mkF m npc ls st))) : own_Go p.tables e below P (T.setTop (mkF m pc ls (.int (FP.cmpInt 1 (FP.dcmp x y)) :: st))) := by
  subst hp; obtain ⟨_, X, -, -⟩ := X
  rcases hq : FP.dcmp x y with _ | (_ | _ | _) <;> simp only [hq] at yes no
  all_goals first
    | exact (yes (by simp)).st fun t k => Jvm.Free.XS.ifYes X.here C.1 rfl (pc0 := pc) (pc' := tpc) rfl (hb C.2.1 hd) rfl (by decide) (by omega) (by omega) k
    | exact (no (by simp)).st fun t k => Jvm.Free.XS.ifNo X.here C.1 rfl (hb C.2.1 hd) rfl (by decide) k
theorem k_ifdg_gt (C : own_C p s m meth c Z own nm code ml rt) (X : own_S p l e R s m args below meth c Z T L k n) {x y : UInt64} {o : Int} (hd : decode code pc = .ok (.ifCond .gt o, 3)) (hp : pc + 3 = npc) (ht : (pc : Int) + o = (tpc : Int)) (yes : (FP.dcmp x y = some .gt ∨ FP.dcmp x y = none) → own_Go p.tables e below P (T.setTop (mkF m tpc ls st))) (no : ¬ (FP.dcmp x y = some .gt ∨ FP.dcmp x y = none) → own_Go p.tables e below P (T.setTop (mkF m npc ls st))) : own_Go p.tables e below P (T.setTop (mkF m pc ls (.int (FP.cmpInt 1 (FP.dcmp x y)) :: st))) := by
  subst hp; obtain ⟨_, X, -, -⟩ := X
  rcases hq : FP.dcmp x y with _ | (_ | _ | _) <;> simp only [hq] at yes no
  all_goals first
    | exact (yes (by simp)).st fun t k => Jvm.Free.XS.ifYes X.here C.1 rfl (pc0 := pc) (pc' := tpc) rfl (hb C.2.1 hd) rfl (by decide) (by omega) (by omega) k
    | exact (no (by simp)).st fun t k => Jvm.Free.XS.ifNo X.here C.1 rfl (hb C.2.1 hd) rfl (by decide) k
theorem k_ifdg_le (C : own_C p s m meth c Z own nm code ml rt) (X : own_S p l e R s m args below meth c Z T L k n) {x y : UInt64} {o : Int} (hd : decode code pc = .ok (.ifCond .le o, 3)) (hp : pc + 3 = npc) (ht : (pc : Int) + o = (tpc : Int)) (yes : ¬ (FP.dcmp x y = some .gt ∨ FP.dcmp x y = none) → own_Go p.tables e below P (T.setTop (mkF m tpc ls st))) (no : (FP.dcmp x y = some .gt ∨ FP.dcmp x y = none) → own_Go p.tables e below P (T.setTop (mkF m npc ls st))) : own_Go p.tables e below P (T.setTop (mkF m pc ls (.int (FP.cmpInt 1 (FP.dcmp x y)) :: st))) := by
  subst hp; obtain ⟨_, X, -, -⟩ := X
  rcases hq : FP.dcmp x y with _ | (_ | _ | _) <;> simp only [hq] at yes no
  all_goals first
    | exact (yes (by simp)).st fun t k => Jvm.Free.XS.ifYes X.here C.1 rfl (pc0 := pc) (pc' := tpc) rfl (hb C.2.1 hd) rfl (by decide) (by omega) (by omega) k
    | exact (no (by simp)).st fun t k => Jvm.Free.XS.ifNo X.here C.1 rfl (hb C.2.1 hd) rfl (by decide) k
theorem k_ifnull_y (C : own_C p s m meth c Z own nm code ml rt) (X : own_S p l e R s m args below meth c Z T L k n)  {o : Int} (hd : decode code pc = .ok (.ifnull o, 3)) (ht : (pc : Int) + o = (tpc : Int)) (g : own_Go p.tables e below P (T.setTop (mkF m tpc ls st))) : own_Go p.tables e below P (T.setTop (mkF m pc ls (.null :: st))) := by
  obtain ⟨_, X, -, -⟩ := X
  exact g.st fun t k => Jvm.Free.XS.ifnullYes X.here C.1 rfl (pc0 := pc) (pc' := tpc) rfl (hb C.2.1 hd) rfl (by omega) (by omega) k
theorem k_ifnull_n (C : own_C p s m meth c Z own nm code ml rt) (X : own_S p l e R s m args below meth c Z T L k n) {b : Addr} {o : Int} (hd : decode code pc = .ok (.ifnull o, 3)) (hp : pc + 3 = npc) (g : own_Go p.tables e below P (T.setTop (mkF m npc ls st))) : own_Go p.tables e below P (T.setTop (mkF m pc ls (.ref b :: st))) := by
  subst hp; obtain ⟨_, X, -, -⟩ := X
  exact g.st fun t k => Jvm.Free.XS.ifnullNo X.here C.1 rfl (hb C.2.1 hd) rfl k
theorem k_ifnonnull_y (C : own_C p s m meth c Z own nm code ml rt) (X : own_S p l e R s m args below meth c Z T L k n) {b : Addr} {o : Int} (hd : decode code pc = .ok (.ifnonnull o, 3)) (ht : (pc : Int) + o = (tpc : Int)) (g : own_Go p.tables e below P (T.setTop (mkF m tpc ls st))) : own_Go p.tables e below P (T.setTop (mkF m pc ls (.ref b :: st))) := by
  obtain ⟨_, X, -, -⟩ := X
  exact g.st fun t k => Jvm.Free.XT.ifnonnullYes X.here C.1 rfl (pc0 := pc) (pc' := tpc) rfl (hb C.2.1 hd) rfl (by omega) (by omega) k
theorem k_ifnonnull_n (C : own_C p s m meth c Z own nm code ml rt) (X : own_S p l e R s m args below meth c Z T L k n)  {o : Int} (hd : decode code pc = .ok (.ifnonnull o, 3)) (hp : pc + 3 = npc) (g : own_Go p.tables e below P (T.setTop (mkF m npc ls st))) : own_Go p.tables e below P (T.setTop (mkF m pc ls (.null :: st))) := by
  subst hp; obtain ⟨_, X, -, -⟩ := X
  exact g.st fun t k => Jvm.Free.XT.ifnonnullNo X.here C.1 rfl (hb C.2.1 hd) rfl k
theorem k_acmp_eq (C : own_C p s m meth c Z own nm code ml rt) (X : own_S p l e R s m args below meth c Z T L k n) {x y : Value} {o : Int} (hd : decode code pc = .ok (.if_acmp .eq o, 3)) (hp : pc + 3 = npc) (ht : (pc : Int) + o = (tpc : Int)) (hx : x.isRef = true) (hy : y.isRef = true) (yes : x = y → own_Go p.tables e below P (T.setTop (mkF m tpc ls st))) (no : ¬ x = y → own_Go p.tables e below P (T.setTop (mkF m npc ls st))) : own_Go p.tables e below P (T.setTop (mkF m pc ls (y :: x :: st))) := by
  subst hp; obtain ⟨_, X, -, -⟩ := X
  by_cases q : x = y
  · exact (yes q).st fun t k => Jvm.Free.XT.acmpYes X.here C.1 rfl (pc0 := pc) (pc' := tpc) rfl (hb C.2.1 hd) rfl hx hy (Jvm.Free.XT.aa_eq_t q) (by omega) (by omega) k
  · exact (no q).st fun t k => Jvm.Free.XT.acmpNo X.here C.1 rfl (hb C.2.1 hd) rfl hx hy (Jvm.Free.XT.aa_eq_f q) k
theorem k_acmp_ne (C : own_C p s m meth c Z own nm code ml rt) (X : own_S p l e R s m args below meth c Z T L k n) {x y : Value} {o : Int} (hd : decode code pc = .ok (.if_acmp .ne o, 3)) (hp : pc + 3 = npc) (ht : (pc : Int) + o = (tpc : Int)) (hx : x.isRef = true) (hy : y.isRef = true) (yes : ¬ x = y → own_Go p.tables e below P (T.setTop (mkF m tpc ls st))) (no : x = y → own_Go p.tables e below P (T.setTop (mkF m npc ls st))) : own_Go p.tables e below P (T.setTop (mkF m pc ls (y :: x :: st))) := by
  subst hp; obtain ⟨_, X, -, -⟩ := X
  by_cases q : ¬ x = y
  · exact (yes q).st fun t k => Jvm.Free.XT.acmpYes X.here C.1 rfl (pc0 := pc) (pc' := tpc) rfl (hb C.2.1 hd) rfl hx hy (Jvm.Free.XT.aa_ne_t q) (by omega) (by omega) k
  · have q := Decidable.not_not.mp q
    exact (no q).st fun t k => Jvm.Free.XT.acmpNo X.here C.1 rfl (hb C.2.1 hd) rfl hx hy (Jvm.Free.XT.aa_ne_f q) k
theorem k_ldc (C : own_C p s m meth c Z own nm code ml rt) (X : own_S p l e R s m args below meth c Z T L k n) {i : Nat} {v : Int32} (hd : decode code pc = .ok (.ldc i, 2)) (hp : pc + 2 = npc) (hw : (Jvm.Cond.constant own i v).before a0 Z = true) (g : own_Go p.tables e below P (T.setTop (mkF m npc ls (.int v :: st)))) : own_Go p.tables e below P (T.setTop (mkF m pc ls st)) := by
  subst hp; obtain ⟨_, X, -, -⟩ := X
  exact g.st fun t k => X.ldcI C.1 C.2.2.2.2.1 (mv C.2.2.2.1 hw) rfl (hb C.2.1 hd) k
theorem k_ldc2l (C : own_C p s m meth c Z own nm code ml rt) (X : own_S p l e R s m args below meth c Z T L k n) {i : Nat} {v : Int64} (hd : decode code pc = .ok (.ldc2_w i, 3)) (hp : pc + 3 = npc) (hw : (Jvm.Cond.constantLong own i v).before a0 Z = true) (g : own_Go p.tables e below P (T.setTop (mkF m npc ls (.long v :: st)))) : own_Go p.tables e below P (T.setTop (mkF m pc ls st)) := by
  subst hp; obtain ⟨_, X, -, -⟩ := X
  exact g.st fun t k => X.ldc2J C.1 C.2.2.2.2.1 (mv C.2.2.2.1 hw) rfl (hb C.2.1 hd) k
theorem k_ldc2d (C : own_C p s m meth c Z own nm code ml rt) (X : own_S p l e R s m args below meth c Z T L k n) {i : Nat} {v : UInt64} (hd : decode code pc = .ok (.ldc2_w i, 3)) (hp : pc + 3 = npc) (hw : (Jvm.Cond.constantDouble own i v).before a0 Z = true) (g : own_Go p.tables e below P (T.setTop (mkF m npc ls (.double v :: st)))) : own_Go p.tables e below P (T.setTop (mkF m pc ls st)) := by
  subst hp; obtain ⟨_, X, -, -⟩ := X
  exact g.st fun t k => X.ldc2DoubleC C.1 C.2.2.2.2.1 (mv C.2.2.2.1 hw) (g := mkF m pc ls st) rfl (hb C.2.1 hd) _ k
theorem k_new (C : own_C p s m meth c Z own nm code ml rt) (X : own_S p l e R s m args below meth c Z T L k n) {i sl : Nat} {K : String} {N : List (String × String × FieldType)} {fs : List (String × String × Value)} (hd : decode code pc = .ok (.new i, 3)) (hp : pc + 3 = npc) (w1 : (Jvm.Cond.classLink own i K).before a0 Z = true) (w2 : (Jvm.Cond.instantiable K sl).before a0 Z = true) (w3 : (Jvm.Cond.initialized K).before a0 Z = true) (hN : own_lay Z a0 K N) (hfs : N.map (fun q => (q.1, q.2.1, defaultValue q.2.2)) = fs) (hk : k + 1 ≤ R.cells) (hn : n + sl ≤ R.slots)
    (g : ∀ T' a, own_S p l e R s m args below meth c Z T' ((a, own_ob Z K fs) :: L) (k + 1) (n + sl) → own_Go p.tables e below P (T'.setTop (mkF m npc ls (.ref a :: st)))) : own_Go p.tables e below P (T.setTop (mkF m pc ls st)) := by
  subst hp hfs; obtain ⟨locs, X, hF, hH⟩ := X
  obtain ⟨T', h', X', e', E', A', D', -, st'⟩ := newO X C.1 C.2.2.2.1 C.2.2.2.2.1 w1 w2 w3 rfl (g := mkF m pc ls st) rfl (hb C.2.1 hd) hk hn
  subst e'
  refine (g T' _ ⟨locs, X', hF, ?_⟩).st st'
  obtain ⟨c', q1, q2⟩ : ∃ c', T'.heap[T.heap.size]? = some c' ∧ own_ex Z K c' := by obtain ⟨c', kk, h1, r⟩ := A'; exact ⟨c', h1, kk, r⟩
  refine hH.push E' q1 ⟨q2, fun q hq => ?_⟩
  obtain ⟨r, hr, rfl⟩ := List.mem_map.mp hq
  obtain ⟨r1, r2⟩ := hN.mem r hr
  exact own_fd.of q1 (D' r1 r2)

theorem k_getfield (C : own_C p s m meth c Z own nm code ml rt) (X : own_S p l e R s m args below meth c Z T L k n) {i : Nat} {K f d host : String} {a : Addr} {v : Value} (hd : decode code pc = .ok (.getfield i, 3)) (hp : pc + 3 = npc) (hw : (Jvm.Cond.fieldLink own i K f d).before a0 Z = true ∨ (Jvm.Cond.fieldLinkNest own i K f d host).before a0 Z = true) (hF' : own_H Z.heap T.heap L → Fld Z T.heap a K f d v)
    (g : ∀ T', own_S p l e R s m args below meth c Z T' L k n → own_Go p.tables e below P (T'.setTop (mkF m npc ls (v :: st)))) : own_Go p.tables e below P (T.setTop (mkF m pc ls (.ref a :: st))) := by
  subst hp; obtain ⟨locs, X, hF, hH⟩ := X
  obtain ⟨T', X', e', st'⟩ := getF X C.1 C.2.2.2.1 C.2.2.2.2.1 hw Via.refl rfl (hF' hH) (g := mkF m pc ls (.ref a :: st)) rfl rfl (hb C.2.1 hd)
  exact (g T' ⟨locs, X', hF, by rw [e']; exact hH⟩).st st'

theorem k_putfield (C : own_C p s m meth c Z own nm code ml rt) (X : own_S p l e R s m args below meth c Z T L k n) {i ix j sl : Nat} {K f d host : String} {a : Addr} {v old : Value} {fs fs' : List (String × String × Value)} {N : List (String × String × FieldType)} {ty : FieldType} {L' : List (Addr × (Cell → Prop))} (hd : decode code pc = .ok (.putfield i, 3)) (hp : pc + 3 = npc) (hw : (Jvm.Cond.fieldLink own i K f d).before a0 Z = true ∨ (Jvm.Cond.fieldLinkNest own i K f d host).before a0 Z = true) (w2 : (Jvm.Cond.instantiable K sl).before a0 Z = true) (hlay : (Jvm.Cond.lays K K f d).before a0 Z = true ∨ ((Jvm.Cond.laysFinal K K f d).before a0 Z = true ∧ own = K ∧ nm = "<init>"))
    (hN : own_lay Z a0 K N) (hND : (N.map (·.1)).Nodup) (hi : L[ix]? = some (a, own_ob Z K fs)) (hfN : fs.map (fun q => (q.1, q.2.1)) = N.map (fun q => (q.1, q.2.1))) (hj : fs[j]? = some (f, d, old)) (hfs : fs.set j (f, d, v) = fs') (hty : parseFieldDescriptor d = some ty) (hnar : narrow ty v = v) (hfit : fits ty v = true) (hL : L.set ix (a, own_ob Z K fs') = L')
    (g : ∀ T', own_S p l e R s m args below meth c Z T' L' k n → own_Go p.tables e below P (T'.setTop (mkF m npc ls st))) : own_Go p.tables e below P (T.setTop (mkF m pc ls (v :: .ref a :: st))) := by
  subst hp hfs hL; obtain ⟨locs, X, hF, hH⟩ := X
  obtain ⟨ha, cc, h1, h2⟩ := hH.get hi
  have F := (h2.2 _ (List.mem_of_getElem? hj)).fld h1
  obtain ⟨T', h', X', e', W', st'⟩ := putF X C.1 C.2.2.2.1 C.2.2.2.2.1 hw Via.refl rfl F (h2.1.exa h1) (hlay.imp id fun q => ⟨q.1, q.2.1, C.2.2.2.2.2.1.trans q.2.2⟩) w2 hty hnar hfit (g := mkF m pc ls (v :: .ref a :: st)) rfl rfl (hb C.2.1 hd)
  subst e'
  refine (g T' ⟨_, X', Fr.snoc X' hF ha, ?_⟩).st st'
  have hname : ∀ q ∈ fs, ∃ t, Laid Z a0 K K q.1 q.2.1 ∧ parseFieldDescriptor q.2.1 = some t := fun q hq => by
    have : (q.1, q.2.1) ∈ N.map (fun q => (q.1, q.2.1)) := by rw [← hfN]; exact List.mem_map.mpr ⟨q, hq, rfl⟩
    obtain ⟨r, hr, e⟩ := List.mem_map.mp this
    obtain ⟨r1, r2⟩ := hN.mem r hr
    have e1 : r.1 = q.1 := congrArg Prod.fst e
    have e2 : r.2.1 = q.2.1 := congrArg Prod.snd e
    exact ⟨_, by rw [← e1, ← e2]; exact r1, by rw [← e2]; exact r2⟩
  have hnd : (fs.map (·.1)).Nodup := by
    have : fs.map (·.1) = N.map (·.1) := by
      have := congrArg (List.map Prod.fst) hfN
      simpa [List.map_map, Function.comp_def] using this
    rw [this]; exact hND
  obtain ⟨t1, hl1, hp1⟩ := hname _ (List.mem_of_getElem? hj)
  refine hH.set hi W' fun c hc hsl => ⟨?_, fun q hq => ?_⟩
  · obtain ⟨k1, r1, r2, r3, r4⟩ := hc.1
    exact ⟨k1, r1, r2, r3, fun q => by rw [← r4 q]; simp [Cell.setSlot]⟩
  · rcases own_setmem hq with rfl | ⟨j', hj', e⟩
    · obtain ⟨cf, k1, i1, f1, r1, r2, r3, r4, r5, r6⟩ := hc.2 _ (List.mem_of_getElem? hj)
      refine ⟨cf, k1, i1, f1, r1, r2, r3, r4, r5, ?_⟩
      have es : Jvm.RoadKit.slotOf Z K f d = f1.slot := by simp [Jvm.RoadKit.slotOf, r1]
      rw [es] at hsl ⊢
      simp [Cell.setSlot, hsl]
    · obtain ⟨cf, k1, i1, f1, r1, r2, r3, r4, r5, r6⟩ := hc.2 q (List.mem_of_getElem? e)
      refine ⟨cf, k1, i1, f1, r1, r2, r3, r4, r5, ?_⟩
      obtain ⟨t2, hl2, hp2⟩ := hname q (List.mem_of_getElem? e)
      have hne : q.1 ≠ f := own_nodup_ne (L := fs.map (·.1)) hnd (i := j') (j := j) (by rw [List.getElem?_map, e]; rfl) (by rw [List.getElem?_map, hj]; rfl) hj'
      have hs := slot_ne hl2 hl1 hne hp2 hp1
      have es : Jvm.RoadKit.slotOf Z K q.1 q.2.1 = f1.slot := by simp [Jvm.RoadKit.slotOf, r1]
      rw [es] at hs
      rw [← r6]
      simp only [Cell.setSlot]
      exact Array.getElem?_setIfInBounds_ne (fun z => hs z.symm)

theorem k_getstatic (C : own_C p s m meth c Z own nm code ml rt) (X : own_S p l e R s m args below meth c Z T L k n) {i : Nat} {K f d : String} {v : Value} (hd : decode code pc = .ok (.getstatic i, 3)) (hp : pc + 3 = npc) (hw : (Jvm.Cond.fieldLink own i K f d).before a0 Z = true) (F : Sta Z Z.heap K f d v)
    (g : ∀ T', own_S p l e R s m args below meth c Z T' L k n → own_Go p.tables e below P (T'.setTop (mkF m npc ls (v :: st)))) : own_Go p.tables e below P (T.setTop (mkF m pc ls st)) := by
  subst hp; obtain ⟨locs, X, hF, hH⟩ := X
  obtain ⟨T', X', e', st'⟩ := getS X C.1 C.2.2.2.1 (host := "") C.2.2.2.2.1 hw Via.refl rfl (F.ext hH.1) (g := mkF m pc ls st) rfl (hb C.2.1 hd)
  exact (g T' ⟨locs, X', hF, by rw [e']; exact hH⟩).st st'

theorem k_newarray (C : own_C p s m meth c Z own nm code ml rt) (X : own_S p l e R s m args below meth c Z T L k n) {aty : ArrayType} {ty : FieldType} {z : Int32} {cap : Nat} {vs : List Value} (hd : decode code pc = .ok (.newarray aty, 2)) (hp : pc + 2 = npc) (hty : newarray.typeOf aty = ty) (w1 : (Jvm.Cond.arrayClass ty).before a0 Z = true) (hz : ¬ z < 0) (hcap : z.toNatClampNeg ≤ cap) (hb' : cap * 8 ≤ 536870912) (hk : k + 1 ≤ R.cells) (hn : n + cap ≤ R.slots) (hvs : List.replicate z.toNatClampNeg (defaultValue ty) = vs)
    (g : ∀ T' a, own_S p l e R s m args below meth c Z T' ((a, own_ar Z ty vs) :: L) (k + 1) (n + cap) → own_Go p.tables e below P (T'.setTop (mkF m npc ls (.ref a :: st)))) : own_Go p.tables e below P (T.setTop (mkF m pc ls (.int z :: st))) := by
  subst hp hvs hty; obtain ⟨locs, X, hF, hH⟩ := X
  obtain ⟨T', h', cA, X', e', E', A', B', st'⟩ := newPE X C.1 C.2.2.2.1 w1 rfl (g := mkF m pc ls (.int z :: st)) rfl (hb C.2.1 hd) rfl hz hcap hb' hk hn (ad := "[" ++ (newarray.typeOf aty).toString) rfl
  subst e'
  refine (g T' _ ⟨locs, X', hF, ?_⟩).st st'
  exact hH.push E' A'.1 ⟨A'.2.1, A'.2.2, by simp [newA], own_ex.of B' A'.1⟩

theorem k_arraylength (C : own_C p s m meth c Z own nm code ml rt) (X : own_S p l e R s m args below meth c Z T L k n) {ix : Nat} {a : Addr} {ty : FieldType} {vs : List Value} {z : Int32} (hd : decode code pc = .ok (.arraylength, 1)) (hp : pc + 1 = npc) (hi : L[ix]? = some (a, own_ar Z ty vs)) (hz : vs.length.toInt32 = z) (g : own_Go p.tables e below P (T.setTop (mkF m npc ls (.int z :: st)))) : own_Go p.tables e below P (T.setTop (mkF m pc ls (.ref a :: st))) := by
  subst hp hz; obtain ⟨locs, X, hF, hH⟩ := X
  obtain ⟨-, cc, h1, h2⟩ := hH.get hi
  have e : cc.slots.size = vs.length := by rw [← h2.2.2.1]; simp
  rw [← e] at g
  exact g.st fun t k => X.arraylength C.1 h1 (State.isArrayOf_alike C.2.2.2.1.alike h2.1) (g := mkF m pc ls (.ref a :: st)) rfl rfl (hb C.2.1 hd) _ k
theorem own_in {j : Int32} {i : Nat} {c : Cell} {vs : List Value} {v : Value} (hn : ¬ j < 0) (hj : j.toNatClampNeg = i) (e : c.slots.toList = vs) (hv : vs[i]? = some v) : ¬ (j < 0 ∨ c.slots.size ≤ j.toNatClampNeg) ∧ c.slots[j.toNatClampNeg]? = some v := by
  subst hj e
  rw [Array.getElem?_toList] at hv
  have := (Array.getElem?_eq_some_iff.mp hv).1
  exact ⟨fun q => q.elim hn (by omega), hv⟩
theorem own_len32 (L : Nat) (h : L < 2147483648) : (L.toInt32).toNatClampNeg = L ∧ ¬ L.toInt32 < 0 := by
  have q : L.toInt32.toInt = L := len_toInt (by omega)
  simp only [Int32.lt_iff_toInt_lt, Int32.toNatClampNeg, q, Int32.reduceToInt]; omega

theorem k_iaload (C : own_C p s m meth c Z own nm code ml rt) (X : own_S p l e R s m args below meth c Z T L k n) {ix i : Nat} {a : Addr} {j : Int32} {vs : List Value} {v : Value} (hd : decode code pc = .ok (.iaload, 1)) (hp : pc + 1 = npc) (hi : L[ix]? = some (a, own_ar Z .int vs)) (hn : ¬ j < 0) (hj : j.toNatClampNeg = i) (hv : vs[i]? = some v) (g : own_Go p.tables e below P (T.setTop (mkF m npc ls (v :: st)))) : own_Go p.tables e below P (T.setTop (mkF m pc ls (.int j :: .ref a :: st))) := by
  subst hp; obtain ⟨locs, X, hF, hH⟩ := X
  obtain ⟨-, cc, h1, h2⟩ := hH.get hi
  obtain ⟨q1, q2⟩ := own_in hn hj h2.2.2.1 hv
  exact g.st fun t k => X.iaload C.1 h1 (State.isArrayOf_alike C.2.2.2.1.alike h2.1) h2.2.1 q1 q2 (g := mkF m pc ls (.int j :: .ref a :: st)) rfl rfl (hb C.2.1 hd) _ k

theorem k_daload (C : own_C p s m meth c Z own nm code ml rt) (X : own_S p l e R s m args below meth c Z T L k n) {ix i : Nat} {a : Addr} {j : Int32} {vs : List Value} {v : Value} (hd : decode code pc = .ok (.daload, 1)) (hp : pc + 1 = npc) (hi : L[ix]? = some (a, own_ar Z .double vs)) (hn : ¬ j < 0) (hj : j.toNatClampNeg = i) (hv : vs[i]? = some v) (g : own_Go p.tables e below P (T.setTop (mkF m npc ls (v :: st)))) : own_Go p.tables e below P (T.setTop (mkF m pc ls (.int j :: .ref a :: st))) := by
  subst hp; obtain ⟨locs, X, hF, hH⟩ := X
  obtain ⟨-, cc, h1, h2⟩ := hH.get hi
  obtain ⟨q1, q2⟩ := own_in hn hj h2.2.2.1 hv
  exact g.st fun t k => X.daload C.1 h1 (State.isArrayOf_alike C.2.2.2.1.alike h2.1) h2.2.1 q1 q2 (g := mkF m pc ls (.int j :: .ref a :: st)) rfl rfl (hb C.2.1 hd) _ k

theorem k_laload (C : own_C p s m meth c Z own nm code ml rt) (X : own_S p l e R s m args below meth c Z T L k n) {ix i : Nat} {a : Addr} {j : Int32} {vs : List Value} {v : Value} (hd : decode code pc = .ok (.laload, 1)) (hp : pc + 1 = npc) (hi : L[ix]? = some (a, own_ar Z .long vs)) (hn : ¬ j < 0) (hj : j.toNatClampNeg = i) (hv : vs[i]? = some v) (g : own_Go p.tables e below P (T.setTop (mkF m npc ls (v :: st)))) : own_Go p.tables e below P (T.setTop (mkF m pc ls (.int j :: .ref a :: st))) := by
  subst hp; obtain ⟨locs, X, hF, hH⟩ := X
  obtain ⟨-, cc, h1, h2⟩ := hH.get hi
  obtain ⟨q1, q2⟩ := own_in hn hj h2.2.2.1 hv
  exact g.st fun t k => X.laload C.1 h1 (State.isArrayOf_alike C.2.2.2.1.alike h2.1) h2.2.1 q1 q2 (g := mkF m pc ls (.int j :: .ref a :: st)) rfl rfl (hb C.2.1 hd) _ k

theorem k_caload (C : own_C p s m meth c Z own nm code ml rt) (X : own_S p l e R s m args below meth c Z T L k n) {ix i : Nat} {a : Addr} {j : Int32} {vs : List Value} {v : Value} (hd : decode code pc = .ok (.caload, 1)) (hp : pc + 1 = npc) (hi : L[ix]? = some (a, own_ar Z .char vs)) (hn : ¬ j < 0) (hj : j.toNatClampNeg = i) (hv : vs[i]? = some v) (g : own_Go p.tables e below P (T.setTop (mkF m npc ls (v :: st)))) : own_Go p.tables e below P (T.setTop (mkF m pc ls (.int j :: .ref a :: st))) := by
  subst hp; obtain ⟨locs, X, hF, hH⟩ := X
  obtain ⟨-, cc, h1, h2⟩ := hH.get hi
  obtain ⟨q1, q2⟩ := own_in hn hj h2.2.2.1 hv
  exact g.st fun t k => X.caload C.1 h1 (State.isArrayOf_alike C.2.2.2.1.alike h2.1) h2.2.1 q1 q2 (g := mkF m pc ls (.int j :: .ref a :: st)) rfl rfl (hb C.2.1 hd) _ k

theorem k_iastore (C : own_C p s m meth c Z own nm code ml rt) (X : own_S p l e R s m args below meth c Z T L k n) {ix i : Nat} {a : Addr} {j : Int32} {x : Int32} {vs vs' : List Value} {L' : List (Addr × (Cell → Prop))} (hd : decode code pc = .ok (.iastore, 1)) (hp : pc + 1 = npc) (hi : L[ix]? = some (a, own_ar Z .int vs)) (hn : ¬ j < 0) (hj : j.toNatClampNeg = i) (hl : i < vs.length) (hvs : vs.set i (.int x) = vs') (hL : L.set ix (a, own_ar Z .int vs') = L')
    (g : ∀ T', own_S p l e R s m args below meth c Z T' L' k n → own_Go p.tables e below P (T'.setTop (mkF m npc ls st))) : own_Go p.tables e below P (T.setTop (mkF m pc ls (.int x :: .int j :: .ref a :: st))) := by
  subst hp hvs hL; obtain ⟨locs, X, hF, hH⟩ := X
  obtain ⟨ha, cc, h1, h2⟩ := hH.get hi
  obtain ⟨q1, -⟩ := own_in hn hj h2.2.2.1 (List.getElem?_eq_getElem hl)
  obtain ⟨T', h', X', e', W', st'⟩ := stI X C.1 C.2.2.2.1 rfl (h2.arr h1) (j := j) (x := x) q1 (g := mkF m pc ls (.int x :: .int j :: .ref a :: st)) rfl rfl (hb C.2.1 hd)
  subst e'
  refine (g T' ⟨_, X', Fr.snoc X' hF ha, ?_⟩).st st'
  refine hH.set hi W' fun c hc hsl => ⟨hc.1, hc.2.1, ?_, ?_⟩
  · rw [← hc.2.2.1, hj]; simp [Cell.setSlot]
  · obtain ⟨k1, r1, r2, r3, r4⟩ := hc.2.2.2
    exact ⟨k1, r1, r2, r3, fun q => by rw [← r4 q]; simp [Cell.setSlot]⟩

theorem k_dastore (C : own_C p s m meth c Z own nm code ml rt) (X : own_S p l e R s m args below meth c Z T L k n) {ix i : Nat} {a : Addr} {j : Int32} {x : UInt64} {vs vs' : List Value} {L' : List (Addr × (Cell → Prop))} (hd : decode code pc = .ok (.dastore, 1)) (hp : pc + 1 = npc) (hi : L[ix]? = some (a, own_ar Z .double vs)) (hn : ¬ j < 0) (hj : j.toNatClampNeg = i) (hl : i < vs.length) (hvs : vs.set i (.double x) = vs') (hL : L.set ix (a, own_ar Z .double vs') = L')
    (g : ∀ T', own_S p l e R s m args below meth c Z T' L' k n → own_Go p.tables e below P (T'.setTop (mkF m npc ls st))) : own_Go p.tables e below P (T.setTop (mkF m pc ls (.double x :: .int j :: .ref a :: st))) := by
  subst hp hvs hL; obtain ⟨locs, X, hF, hH⟩ := X
  obtain ⟨ha, cc, h1, h2⟩ := hH.get hi
  obtain ⟨q1, -⟩ := own_in hn hj h2.2.2.1 (List.getElem?_eq_getElem hl)
  obtain ⟨T', h', X', e', W', st'⟩ := stD X C.1 C.2.2.2.1 rfl (h2.arr h1) (j := j) (x := x) q1 (g := mkF m pc ls (.double x :: .int j :: .ref a :: st)) rfl rfl (hb C.2.1 hd)
  subst e'
  refine (g T' ⟨_, X', Fr.snoc X' hF ha, ?_⟩).st st'
  refine hH.set hi W' fun c hc hsl => ⟨hc.1, hc.2.1, ?_, ?_⟩
  · rw [← hc.2.2.1, hj]; simp [Cell.setSlot]
  · obtain ⟨k1, r1, r2, r3, r4⟩ := hc.2.2.2
    exact ⟨k1, r1, r2, r3, fun q => by rw [← r4 q]; simp [Cell.setSlot]⟩

theorem k_lastore (C : own_C p s m meth c Z own nm code ml rt) (X : own_S p l e R s m args below meth c Z T L k n) {ix i : Nat} {a : Addr} {j : Int32} {x : Int64} {vs vs' : List Value} {L' : List (Addr × (Cell → Prop))} (hd : decode code pc = .ok (.lastore, 1)) (hp : pc + 1 = npc) (hi : L[ix]? = some (a, own_ar Z .long vs)) (hn : ¬ j < 0) (hj : j.toNatClampNeg = i) (hl : i < vs.length) (hvs : vs.set i (.long x) = vs') (hL : L.set ix (a, own_ar Z .long vs') = L')
    (g : ∀ T', own_S p l e R s m args below meth c Z T' L' k n → own_Go p.tables e below P (T'.setTop (mkF m npc ls st))) : own_Go p.tables e below P (T.setTop (mkF m pc ls (.long x :: .int j :: .ref a :: st))) := by
  subst hp hvs hL; obtain ⟨locs, X, hF, hH⟩ := X
  obtain ⟨ha, cc, h1, h2⟩ := hH.get hi
  obtain ⟨q1, -⟩ := own_in hn hj h2.2.2.1 (List.getElem?_eq_getElem hl)
  obtain ⟨T', h', X', e', W', st'⟩ := stJ X C.1 C.2.2.2.1 rfl (h2.arr h1) (j := j) (x := x) q1 (g := mkF m pc ls (.long x :: .int j :: .ref a :: st)) rfl rfl (hb C.2.1 hd)
  subst e'
  refine (g T' ⟨_, X', Fr.snoc X' hF ha, ?_⟩).st st'
  refine hH.set hi W' fun c hc hsl => ⟨hc.1, hc.2.1, ?_, ?_⟩
  · rw [← hc.2.2.1, hj]; simp [Cell.setSlot]
  · obtain ⟨k1, r1, r2, r3, r4⟩ := hc.2.2.2
    exact ⟨k1, r1, r2, r3, fun q => by rw [← r4 q]; simp [Cell.setSlot]⟩

theorem own_fitsD (xs : List UInt64) : ∀ v ∈ xs.map Value.double, fits .double v = true := fun v hv => by obtain ⟨x, -, rfl⟩ := List.mem_map.mp hv; rfl
theorem k_clone (C : own_C p s m meth c Z own nm code ml rt) (X : own_S p l e R s m args below meth c Z T L k n) {i ix cap W : Nat} {a : Addr} {ty : FieldType} {ad : String} {vs : List Value} (hd : decode code pc = .ok (.invokevirtual i, 3)) (hp : pc + 3 = npc) (w1 : (Jvm.Cond.methodLink own i ⟨ad, "clone", "()Ljava/lang/Object;"⟩).before a0 Z = true) (w2 : (Jvm.Cond.sameMethod ad "java/lang/Object" "clone" "()Ljava/lang/Object;").before a0 Z = true) (w3 : (Jvm.Cond.native ⟨"java/lang/Object", "clone", "()Ljava/lang/Object;"⟩).before a0 Z = true) (w4 : (Jvm.Cond.instanceMethod ⟨"java/lang/Object", "clone", "()Ljava/lang/Object;"⟩).before a0 Z = true) (w5 : (Jvm.Cond.selects ad ⟨ad, "clone", "()Ljava/lang/Object;"⟩ ⟨"java/lang/Object", "clone", "()Ljava/lang/Object;"⟩).before a0 Z = true) (w6 : (Jvm.Cond.castable ad "java/lang/Cloneable").before a0 Z = true)
    (hi : L[ix]? = some (a, own_ar Z ty vs)) (had : "[" ++ ty.toString = ad) (hfit : ∀ v ∈ vs, fits ty v = true) (hsz : ls.size = ml) (hW : (st.map fun v => v.category).sum ≤ W) (hf : 1 ≤ R.frames) (hlo : W + 14 ≤ R.locals) (hcap : vs.length ≤ cap) (hk : k + 1 ≤ R.cells) (hn : n + cap ≤ R.slots)
    (g : ∀ T' b, own_S p l e R s m args below meth c Z T' ((b, own_ar Z ty vs) :: L) (k + 1) (n + cap) → own_Go p.tables e below P (T'.setTop (mkF m npc ls (.ref b :: st)))) : own_Go p.tables e below P (T.setTop (mkF m pc ls (.ref a :: st))) := by
  subst hp had; obtain ⟨locs, X, hF, hH⟩ := X
  obtain ⟨-, cc, h1, h2⟩ := hH.get hi
  have A := h2.arr h1
  have FC : FitC Z cc := fitC_of A fun j hj v hv => hfit v (by rw [← h2.2.2.1]; exact Array.mem_toList_iff.mpr (Array.mem_of_getElem? hv))
  have hl : cc.slots.size = vs.length := by rw [← h2.2.2.1]; simp
  obtain ⟨T', h', X', e', E', A', B', st'⟩ := cloneA X C.1 C.2.2.2.1 C.2.2.2.2.1 w1 w2 w3 w4 w5 w6 rfl A (h2.2.2.2.exa h1) FC (g := mkF m pc ls (.ref a :: st)) rfl (hsz.trans C.2.2.1.symm) rfl (hb C.2.1 hd) hf (W := W) (cap := cap) (by show 2 * 0 + _ ≤ _; omega) hlo (by omega) hk hn
  subst e'
  refine (g T' _ ⟨locs, X', hF, ?_⟩).st st'
  exact hH.push E' A'.1 ⟨A'.2.1, A'.2.2, h2.2.2.1, own_ex.of B' A'.1⟩
theorem k_checkcast (C : own_C p s m meth c Z own nm code ml rt) (X : own_S p l e R s m args below meth c Z T L k n) {i : Nat} {a : Addr} {K : String} (hd : decode code pc = .ok (.checkcast i, 3)) (hp : pc + 3 = npc) (hw : (Jvm.Cond.classLink own i K).before a0 Z = true) (hI : own_H Z.heap T.heap L → Ins Z T.heap a K true)
    (g : ∀ T', own_S p l e R s m args below meth c Z T' L k n → own_Go p.tables e below P (T'.setTop (mkF m npc ls (.ref a :: st)))) : own_Go p.tables e below P (T.setTop (mkF m pc ls (.ref a :: st))) := by
  subst hp; obtain ⟨locs, X, hF, hH⟩ := X
  obtain ⟨T', X', e', st'⟩ := castY X C.1 C.2.2.2.1 C.2.2.2.2.1 hw rfl (hI hH) (g := mkF m pc ls (.ref a :: st)) rfl rfl (hb C.2.1 hd)
  exact (g T' ⟨locs, X', hF, by rw [e']; exact hH⟩).st st'
theorem own_iA {ix : Nat} {a : Addr} {ty : FieldType} {K : String} {vs : List Value} (hi : L[ix]? = some (a, own_ar Z ty vs)) (hK : "[" ++ ty.toString = K) (H : own_H Z.heap T.heap L) : Ins Z T.heap a K true := by
  subst hK
  obtain ⟨-, cc, h1, h2⟩ := H.get hi
  exact Ins.self (h2.2.2.2.exa h1)

theorem own_Con.back {y : MethodName} {bytes : ByteArray} {maxL : Nat} {ret : Option FieldType} {rm : Room} {as' : Array Value} {Q : Option Value → List (Addr × (Cell → Prop)) → Prop} (K : own_Con l Z y bytes maxL ret rm as' L Q) (hZ : Z.Warmed39 s.vm) (hH : own_H Z.heap T.heap L) (wc : (Jvm.Cond.code y bytes maxL ret).before a0 Z = true) (wz : (Jvm.Cond.initialized y.cls).before a0 Z = true) {W : Nat} (hf : rm.frames + 1 ≤ R.frames) (hl : W + (maxL + 11) + rm.locals ≤ R.locals) :
    Back l R p e below s args y 3 W (fun A a => a = as' ∧ A.U.heap = T.heap ∧ A.cells + rm.cells ≤ R.cells ∧ A.slots + rm.slots ≤ R.slots)
      (fun A _ v B => ∃ L0, (∃ M, Q v M ∧ own_H Z.heap B.U.heap M ∧ Fr Z.heap.size L0) ∧ B.locs = A.locs ++ L0 ∧ B.cells = A.cells + rm.cells ∧ B.slots = A.slots + rm.slots) :=
  backOf (h := T.heap) (Q := fun v h L0 => ∃ M, Q v M ∧ own_H Z.heap h M ∧ Fr Z.heap.size L0) ((K []).mono (fun a U q => ⟨q.1, q.2.1, by rw [q.2.2]; exact hH⟩) (fun _ _ _ _ _ q => q) fun a U o U' _ ⟨v, M, locs, q1, q2, q3, q4, q5⟩ => ⟨v, locs, q1, ⟨M, q2, q3, q4⟩, q5⟩) hZ wc wz hf hl
theorem own_Con.weak {y : MethodName} {bytes : ByteArray} {maxL : Nat} {ret : Option FieldType} {rm : Room} {as' : Array Value} {Q Q' : Option Value → List (Addr × (Cell → Prop)) → Prop} (K : own_Con l Z y bytes maxL ret rm as' L Q) (h : ∀ v M, Q v M → Q' v M) : own_Con l Z y bytes maxL ret rm as' L Q' := fun ws =>
  (K ws).mono (fun _ _ q => q) (fun _ _ _ _ _ q => q) fun a U o U' _ ⟨v, M, locs, q1, q2, q3⟩ => ⟨v, M, locs, q1, h v M q2, q3⟩

theorem k_static (C : own_C p s m meth c Z own nm code ml rt) (X : own_S p l e R s m args below meth c Z T L k n) {y : MethodName} {i : Nat} {bytes : ByteArray} {maxL : Nat} {ret : Option FieldType} {rm : Room} {as' : Array Value} {Q : Option Value → List (Addr × (Cell → Prop)) → Prop} {W : Nat} {rest argsL : List Value} {ps : List FieldType} {rr : Option FieldType} (hd : decode code pc = .ok (.invokestatic i, 3)) (hp : pc + 3 = npc) (w1 : (Jvm.Cond.methodLink own i y).before a0 Z = true) (w2 : (Jvm.Cond.static y).before a0 Z = true) (w3 : (Jvm.Cond.initialized y.cls).before a0 Z = true) (w4 : (Jvm.Cond.code y bytes maxL ret).before a0 Z = true) (hy : y.cls ≠ "java/lang/invoke/MethodHandle" ∧ y.cls ≠ "java/lang/invoke/VarHandle") (K : own_Con l Z y bytes maxL ret rm as' L Q) (hst : argsL.reverse ++ rest = st) (has : argsL.toArray = as') (hsz : ls.size = ml) (hpd : parseMethodDescriptor y.desc = some ⟨ps, rr⟩) (hle : argsL.length = ps.length) (hW : (rest.map fun v => v.category).sum ≤ W) (hf : rm.frames + 1 ≤ R.frames) (hlo : W + (maxL + 11) + rm.locals ≤ R.locals) (hk : k + rm.cells ≤ R.cells) (hn : n + rm.slots ≤ R.slots)
    (g : ∀ v T' M, Q v M → own_S p l e R s m args below meth c Z T' M (k + rm.cells) (n + rm.slots) → own_Go p.tables e below P (T'.setTop (mkF m npc ls (v.toList ++ rest)))) : own_Go p.tables e below P (T.setTop (mkF m pc ls st)) := by
  subst hp hst has; obtain ⟨locs, X, hF, hH⟩ := X
  obtain ⟨v, vm1, ⟨T1, Lq, kq, nq⟩, -, X1, ⟨L0, ⟨M, hQ, hH1, hF1⟩, hl1, hc1, hs1⟩, st1⟩ := Jvm.LawKit.callS X C.1 (y := y) C.2.2.2.2.1 (mvT C.2.2.2.1 w1) (mvT C.2.2.2.1 w2) (mvT C.2.2.2.1 w3) (mvT C.2.2.2.1 w4) hy (K.back (T := T) (W := W) C.2.2.2.1 hH w4 w3 hf hlo) (g := mkF m pc ls (argsL.reverse ++ rest)) rfl (hsz.trans C.2.2.1.symm) (argsL := argsL) (rest := rest) (lenOf hpd hle) rfl (by show 2 * 0 + _ ≤ _; omega) (hb C.2.1 hd) (fun _ _ => ⟨rfl, rfl, hk, hn⟩)
  dsimp only [Pt.U, Pt.locs, Pt.cells, Pt.slots] at X1 hl1 hc1 hs1 st1 hH1
  subst hl1 hc1 hs1
  exact (g v T1 M hQ ⟨_, X1, hF.app hF1, hH1⟩).st st1
theorem k_init (C : own_C p s m meth c Z own nm code ml rt) (X : own_S p l e R s m args below meth c Z T L k n) {y : MethodName} {i : Nat} {bytes : ByteArray} {maxL : Nat} {rm : Room} {as' : Array Value} {Q : Option Value → List (Addr × (Cell → Prop)) → Prop} {W : Nat} {rest argsL : List Value} {ps : List FieldType} {rr : Option FieldType} {a : Addr} (hd : decode code pc = .ok (.invokespecial i, 3)) (hp : pc + 3 = npc) (hnm : y.name = "<init>") (w1 : (Jvm.Cond.methodLink own i y).before a0 Z = true) (w2 : (Jvm.Cond.instanceMethod y).before a0 Z = true) (w3 : (Jvm.Cond.initialized y.cls).before a0 Z = true) (w4 : (Jvm.Cond.code y bytes maxL none).before a0 Z = true) (hy : y.cls ≠ "java/lang/invoke/MethodHandle" ∧ y.cls ≠ "java/lang/invoke/VarHandle") (K : own_Con l Z y bytes maxL none rm as' L Q) (hst : argsL.reverse ++ .ref a :: rest = st) (has : (.ref a :: argsL).toArray = as') (hsz : ls.size = ml) (hpd : parseMethodDescriptor y.desc = some ⟨ps, rr⟩) (hle : argsL.length = ps.length) (hW : (rest.map fun v => v.category).sum ≤ W) (hf : rm.frames + 1 ≤ R.frames) (hlo : W + (maxL + 11) + rm.locals ≤ R.locals) (hk : k + rm.cells ≤ R.cells) (hn : n + rm.slots ≤ R.slots)
    (g : ∀ v T' M, Q v M → own_S p l e R s m args below meth c Z T' M (k + rm.cells) (n + rm.slots) → own_Go p.tables e below P (T'.setTop (mkF m npc ls (v.toList ++ rest)))) : own_Go p.tables e below P (T.setTop (mkF m pc ls st)) := by
  subst hp hst has; obtain ⟨locs, X, hF, hH⟩ := X
  obtain ⟨v, vm1, ⟨T1, Lq, kq, nq⟩, -, X1, ⟨L0, ⟨M, hQ, hH1, hF1⟩, hl1, hc1, hs1⟩, st1⟩ := X.specialBack C.1 (y := y) hnm C.2.2.2.2.1 (mvT C.2.2.2.1 w1) (mvT C.2.2.2.1 w2) (mvT C.2.2.2.1 w4) hy (K.back (T := T) (W := W) C.2.2.2.1 hH w4 w3 hf hlo) (g := mkF m pc ls (argsL.reverse ++ .ref a :: rest)) rfl (hsz.trans C.2.2.1.symm) (Steps.refl _) (a := a) (argsL := argsL) (rest := rest) (lenOf hpd hle) rfl (by show 2 * 0 + _ ≤ _; omega) (hb C.2.1 hd) (fun _ _ => ⟨rfl, rfl, hk, hn⟩)
  dsimp only [Pt.U, Pt.locs, Pt.cells, Pt.slots] at X1 hl1 hc1 hs1 st1 hH1
  subst hl1 hc1 hs1
  exact (g v T1 M hQ ⟨_, X1, hF.app hF1, hH1⟩).st fun t q => st1.trans q
theorem k_virtual (C : own_C p s m meth c Z own nm code ml rt) (X : own_S p l e R s m args below meth c Z T L k n) {y : MethodName} {i : Nat} {bytes : ByteArray} {maxL : Nat} {ret : Option FieldType} {rm : Room} {as' : Array Value} {Q : Option Value → List (Addr × (Cell → Prop)) → Prop} {W : Nat} {rest argsL : List Value} {ps : List FieldType} {rr : Option FieldType} {K' : String} {a : Addr} (hd : decode code pc = .ok (.invokevirtual i, 3)) (hp : pc + 3 = npc) (w1 : (Jvm.Cond.methodLink own i y).before a0 Z = true) (w2 : (Jvm.Cond.declares y).before a0 Z = true) (w3 : (Jvm.Cond.initialized y.cls).before a0 Z = true) (w4 : (Jvm.Cond.code y bytes maxL ret).before a0 Z = true) (w5 : (Jvm.Cond.selects K' y y).before a0 Z = true) (w6 : (Jvm.Cond.instanceMethod y).before a0 Z = true) (hy : y.cls ≠ "java/lang/invoke/MethodHandle" ∧ y.cls ≠ "java/lang/invoke/VarHandle") (nf : NotFace s y) (hE : own_H Z.heap T.heap L → Exa Z T.heap a K') (K : own_Con l Z y bytes maxL ret rm as' L Q) (hst : argsL.reverse ++ .ref a :: rest = st) (has : (.ref a :: argsL).toArray = as') (hsz : ls.size = ml) (hpd : parseMethodDescriptor y.desc = some ⟨ps, rr⟩) (hle : argsL.length = ps.length) (hW : (rest.map fun v => v.category).sum ≤ W) (hf : rm.frames + 1 ≤ R.frames) (hlo : W + (maxL + 11) + rm.locals ≤ R.locals) (hk : k + rm.cells ≤ R.cells) (hn : n + rm.slots ≤ R.slots)
    (g : ∀ v T' M, Q v M → own_S p l e R s m args below meth c Z T' M (k + rm.cells) (n + rm.slots) → own_Go p.tables e below P (T'.setTop (mkF m npc ls (v.toList ++ rest)))) : own_Go p.tables e below P (T.setTop (mkF m pc ls st)) := by
  subst hp hst has; obtain ⟨locs, X, hF, hH⟩ := X
  obtain ⟨cB, kB, qa, -, qc⟩ := isOf (T := T) C.2.2.2.1 rfl (hE hH)
  obtain ⟨v, vm1, ⟨T1, Lq, kq, nq⟩, -, X1, ⟨L0, ⟨M, hQ, hH1, hF1⟩, hl1, hc1, hs1⟩, st1⟩ := X.virtualBack C.1 (y := y) (z := y) C.2.2.2.2.1 (mvT C.2.2.2.1 w1) (mvT C.2.2.2.1 w2) nf (mvT C.2.2.2.1 w5) (mvT C.2.2.2.1 w6) hy (K.back (T := T) (W := W) C.2.2.2.1 hH w4 w3 hf hlo) qa qc (g := mkF m pc ls (argsL.reverse ++ .ref a :: rest)) rfl (hsz.trans C.2.2.1.symm) (Steps.refl _) (argsL := argsL) (rest := rest) (lenOf hpd hle) rfl (by show 2 * 0 + _ ≤ _; omega) (hb C.2.1 hd) (fun _ _ => ⟨rfl, rfl, hk, hn⟩)
  dsimp only [Pt.U, Pt.locs, Pt.cells, Pt.slots] at X1 hl1 hc1 hs1 st1 hH1
  subst hl1 hc1 hs1
  exact (g v T1 M hQ ⟨_, X1, hF.app hF1, hH1⟩).st fun t q => st1.trans q
theorem k_initO (C : own_C p s m meth c Z own nm code ml rt) (X : own_S p l e R s m args below meth c Z T L k n) {i : Nat} {a : Addr} {W : Nat} (hd : decode code pc = .ok (.invokespecial i, 3)) (hp : pc + 3 = npc) (w1 : (Jvm.Cond.methodLink own i Lib.objectInit).before a0 Z = true) (w2 : (Jvm.Cond.instanceMethod Lib.objectInit).before a0 Z = true) (w3 : (Jvm.Cond.code Lib.objectInit ⟨#[0xb1]⟩ 1 none).before a0 Z = true) (hsz : ls.size = ml) (hW : (st.map fun v => v.category).sum ≤ W) (hf : 1 ≤ R.frames) (hlo : W + 12 ≤ R.locals)
    (g : ∀ T', own_S p l e R s m args below meth c Z T' L k n → own_Go p.tables e below P (T'.setTop (mkF m npc ls st))) : own_Go p.tables e below P (T.setTop (mkF m pc ls (.ref a :: st))) := by
  subst hp; obtain ⟨locs, X, hF, hH⟩ := X
  obtain ⟨T', X', e', st'⟩ := initO X C.1 C.2.2.2.1 C.2.2.2.2.1 w1 w2 w3 rfl (g := mkF m pc ls (.ref a :: st)) rfl (hsz.trans C.2.2.1.symm) rfl (hb C.2.1 hd) hf (W := W) (by show 2 * 0 + _ ≤ _; omega) hlo
  exact (g T' ⟨locs, X', hF, by rw [e']; exact hH⟩).st st'

theorem k_abs (C : own_C p s m meth c Z own nm code ml rt) (X : own_S p l e R s m args below meth c Z T L k n) {i : Nat} {bytes : ByteArray} {maxL W : Nat} {x : UInt64} (hd : decode code pc = .ok (.invokestatic i, 3)) (hp : pc + 3 = npc) (w1 : (Jvm.Cond.methodLink own i Jvm.Free.NT.mathAbs64N).before a0 Z = true) (w2 : (Jvm.Cond.static Jvm.Free.NT.mathAbs64N).before a0 Z = true) (w3 : (Jvm.Cond.initialized "java/lang/Math").before a0 Z = true) (w4 : (Jvm.Cond.code Jvm.Free.NT.mathAbs64N bytes maxL (some .double)).before a0 Z = true) (hx : Jvm.Free.Fl.NoNaN64 x) (hsz : ls.size = ml) (hW : (st.map fun v => v.category).sum ≤ W) (hf : 1 ≤ R.frames) (hlo : W + (maxL + 11) ≤ R.locals)
    (g : ∀ T', own_S p l e R s m args below meth c Z T' L k n → own_Go p.tables e below P (T'.setTop (mkF m npc ls (.double (x &&& 0x7fffffffffffffff) :: st)))) : own_Go p.tables e below P (T.setTop (mkF m pc ls (.double x :: st))) := by
  subst hp; obtain ⟨locs, X, hF, hH⟩ := X
  obtain ⟨v, vm1, ⟨T1, Lq, kq, nq⟩, -, X1, ⟨hB, hv⟩, st1⟩ := Jvm.LawKit.callS X C.1 (y := Jvm.Free.NT.mathAbs64N) C.2.2.2.2.1 (mvT C.2.2.2.1 w1) (mvT C.2.2.2.1 w2) (mvT C.2.2.2.1 w3) (mvT C.2.2.2.1 w4) (by decide) (Jvm.Free.NT.Abs64.pays (W := W) (len := 3) (mvT C.2.2.2.1 w4) (mvT C.2.2.2.1 w2) hf hlo) (g := mkF m pc ls (.double x :: st)) rfl (hsz.trans C.2.2.1.symm) (argsL := [.double x]) (rest := st) (lenOf Jvm.Free.NT.mathAbs64_desc rfl) rfl (by show 2 * 0 + _ ≤ _; omega) (hb C.2.1 hd) (fun _ _ => ⟨x, rfl, hx⟩)
  cases hB
  rw [hv x ⟨rfl, hx⟩] at st1
  exact (g _ ⟨locs, X1, hF, hH⟩).st st1

theorem k_return (C : own_C p s m meth c Z own nm code ml none) (X : own_S p l e R s m args below meth c Z T L k n) {Q : Option Value → List (Addr × (Cell → Prop)) → Prop} (hd : decode code pc = .ok (.return_, 1)) (hQ : Q none L) (hk : k ≤ R.cells) (hn : n ≤ R.slots) : own_Go p.tables e below (own_E Z s R Q) (T.setTop (mkF m pc ls [])) := by
  obtain ⟨locs, X, hF, hH⟩ := X
  obtain ⟨fs, hr, hrun, hended, hW, hsame⟩ := X.leave (v := none) (fun _ => rfl) C.2.2.2.2.2.2.2
  exact ⟨_, _, X.returnOut C.1 C.2.2.2.2.2.2.1 (hb C.2.1 hd) hr, hrun, hended, none, L, locs, rfl, hQ, hH, hF, ⟨_, rfl⟩, hW, hsame.mono hk hn⟩

theorem k_ireturn {t : FieldType} (C : own_C p s m meth c Z own nm code ml (some t)) (X : own_S p l e R s m args below meth c Z T L k n) {x : Int32} {Q : Option Value → List (Addr × (Cell → Prop)) → Prop} (hd : decode code pc = .ok (.ireturn, 1)) (ht : t = .int ∨ t = .boolean ∨ t = .byte ∨ t = .char ∨ t = .short) (hnr : narrow t (.int x) = .int x) (hQ : Q (some (.int x)) L) (hk : k ≤ R.cells) (hn : n ≤ R.slots) : own_Go p.tables e below (own_E Z s R Q) (T.setTop (mkF m pc ls (.int x :: st))) := by
  obtain ⟨locs, X, hF, hH⟩ := X
  obtain ⟨fs, hr, hrun, hended, hW, hsame⟩ := X.leave (v := some (.int x)) (fun h => by rw [C.2.2.2.2.2.2.1] at h; cases h) C.2.2.2.2.2.2.2
  exact ⟨_, _, retOut X C.1 C.2.2.2.2.2.2.1 hnr (Or.inl ⟨rfl, ht, x, rfl⟩) (hb C.2.1 hd) hr, hrun, hended, _, L, locs, rfl, hQ, hH, hF, ⟨_, rfl⟩, hW, hsame.mono hk hn⟩

theorem k_lreturn (C : own_C p s m meth c Z own nm code ml (some .long)) (X : own_S p l e R s m args below meth c Z T L k n) {x : Int64} {Q : Option Value → List (Addr × (Cell → Prop)) → Prop} (hd : decode code pc = .ok (.lreturn, 1)) (hQ : Q (some (.long x)) L) (hk : k ≤ R.cells) (hn : n ≤ R.slots) : own_Go p.tables e below (own_E Z s R Q) (T.setTop (mkF m pc ls (.long x :: st))) := by
  obtain ⟨locs, X, hF, hH⟩ := X
  obtain ⟨fs, hr, hrun, hended, hW, hsame⟩ := X.leave (v := some (.long x)) (fun h => by rw [C.2.2.2.2.2.2.1] at h; cases h) C.2.2.2.2.2.2.2
  exact ⟨_, _, retOut X C.1 C.2.2.2.2.2.2.1 rfl (Or.inr (Or.inl ⟨rfl, rfl, x, rfl⟩)) (hb C.2.1 hd) hr, hrun, hended, _, L, locs, rfl, hQ, hH, hF, ⟨_, rfl⟩, hW, hsame.mono hk hn⟩

theorem k_dreturn (C : own_C p s m meth c Z own nm code ml (some .double)) (X : own_S p l e R s m args below meth c Z T L k n) {x : UInt64} {Q : Option Value → List (Addr × (Cell → Prop)) → Prop} (hd : decode code pc = .ok (.dreturn, 1)) (hQ : Q (some (.double x)) L) (hk : k ≤ R.cells) (hn : n ≤ R.slots) : own_Go p.tables e below (own_E Z s R Q) (T.setTop (mkF m pc ls (.double x :: st))) := by
  obtain ⟨locs, X, hF, hH⟩ := X
  obtain ⟨fs, hr, hrun, hended, hW, hsame⟩ := X.leave (v := some (.double x)) (fun h => by rw [C.2.2.2.2.2.2.1] at h; cases h) C.2.2.2.2.2.2.2
  exact ⟨_, _, retOut X C.1 C.2.2.2.2.2.2.1 rfl (Or.inr (Or.inr (Or.inl ⟨rfl, rfl, x, rfl⟩))) (hb C.2.1 hd) hr, hrun, hended, _, L, locs, rfl, hQ, hH, hF, ⟨_, rfl⟩, hW, hsame.mono hk hn⟩

theorem k_areturn {t : FieldType} (C : own_C p s m meth c Z own nm code ml (some t)) (X : own_S p l e R s m args below meth c Z T L k n) {x : Value} {Q : Option Value → List (Addr × (Cell → Prop)) → Prop} (hd : decode code pc = .ok (.areturn, 1)) (ht : t.isReference = true) (hx : x.isRef = true) (hnr : narrow t x = x) (hQ : Q (some (x)) L) (hk : k ≤ R.cells) (hn : n ≤ R.slots) : own_Go p.tables e below (own_E Z s R Q) (T.setTop (mkF m pc ls (x :: st))) := by
  obtain ⟨locs, X, hF, hH⟩ := X
  obtain ⟨fs, hr, hrun, hended, hW, hsame⟩ := X.leave (v := some (x)) (fun h => by rw [C.2.2.2.2.2.2.1] at h; cases h) C.2.2.2.2.2.2.2
  exact ⟨_, _, retOut X C.1 C.2.2.2.2.2.2.1 hnr (Or.inr (Or.inr (Or.inr (Or.inr ⟨rfl, ht, hx⟩)))) (hb C.2.1 hd) hr, hrun, hended, _, L, locs, rfl, hQ, hH, hF, ⟨_, rfl⟩, hW, hsame.mono hk hn⟩

theorem own_nf {y : MethodName} {K' : String} (hZ : Z.Warmed39 s.vm) (w : (Jvm.Cond.selects K' y y).before a0 Z = true) : NotFace s y := notFace_of_selects (args := #[]) (mvT hZ w)
theorem own_i32 (x : Int32) : -2147483648 ≤ x.toInt ∧ x.toInt ≤ 2147483647 := by have h1 := Int32.toInt_lt x; have h2 := Int32.le_toInt x; omega
theorem own_fin {i : Int} {a : UInt64} (h : Jvm.FP.Core.DInt i a) : Jvm.Free.Fl.Fin64 a := by
  refine Jvm.Free.Fl.fin64_core.mpr ?_
  unfold Jvm.FP.Core.DInt at h
  rcases hv : Jvm.FP.Core.val64 a with _ | _ | ⟨s, c, q⟩
  · rw [hv] at h; exact h.elim
  · rw [hv] at h; exact h.elim
  · exact ⟨s, c, q, hv⟩
theorem own_nn {i : Int} {a : UInt64} (h : Jvm.FP.Core.DInt i a) : Jvm.Free.Fl.NoNaN64 a := (own_fin h).noNaN
theorem own_l (x : Int32) : x.toInt64.toInt = x.toInt := Int32.toInt_toInt64 x
theorem own_eq {i j : Int} {a b : UInt64} (ha : Jvm.FP.Core.DInt i a) (hb : Jvm.FP.Core.DInt j b) (h : i = j) : FP.dcmp a b = some .eq := by
  have q := Jvm.FP.Core.dcmp_int ha hb
  rw [show FP.dcmp a b = Jvm.FP.Core.dcmp a b from rfl, q, h, Jvm.FP.Core.compare_eq_iff _ _ |>.mpr rfl]
theorem own_lit (n : Int32) {d : UInt64} (h : FP.i2d n = d) : Jvm.FP.Core.DInt n.toInt d := h ▸ Jvm.FP.Core.i2d_int n
theorem own_litI (n : Int32) {d : UInt64} {i : Int} (h : FP.i2d n = d) (hi : n.toInt = i) : Jvm.FP.Core.DInt i d := hi ▸ h ▸ Jvm.FP.Core.i2d_int n
theorem own_self {x : UInt64} (h : Jvm.Free.Fl.NoNaN64 x) : FP.dcmp x x = some .eq := by
  have q := dcmpV_self h .l
  rcases hq : FP.dcmp x x with _ | (_ | _ | _) <;> rw [hq] at q <;> first | rfl | exact absurd q (by decide)
theorem own_mask (x : Int32) : ¬ (x &&& 2147483647) < 0 := fun h => absurd ((Jvm.Free.XT.and_neg32 _ _).mp h).2 (by decide)
theorem own_mod (m : Int32) (hm : 0 < m.toInt) {x : Int32} (hx : ¬ x < 0) : ¬ (x % m) < 0 ∧ (x % m).toNatClampNeg < m.toNatClampNeg ∧ 0 ≤ (x % m).toInt ∧ (x % m).toInt < m.toInt := by
  have h0 : 0 ≤ x.toInt := by rw [Int32.lt_iff_toInt_lt] at hx; simpa using hx
  have e : (x % m).toInt = x.toInt % m.toInt := by rw [Int32.toInt_mod, Int.tmod_eq_emod_of_nonneg h0]
  have a1 := Int.emod_nonneg x.toInt (Int.ne_of_gt hm)
  have a2 := Int.emod_lt_of_pos x.toInt hm
  rw [Int32.lt_iff_toInt_lt]
  simp only [Int32.toNatClampNeg, e, Int32.reduceToInt]
  omega
theorem own_dd (a b : Int32) : Jvm.Free.Fl.NoNaN64 (FP.dadd (FP.i2d a) (FP.i2d b)) := own_nn (Jvm.FP.Core.dadd_int (Jvm.FP.Core.i2d_int a) (Jvm.FP.Core.i2d_int b) (by have q := own_i32 a; have q2 := own_i32 b; omega))
theorem own_bool {x : Int32} (h : x = 0 ∨ x = 1) : narrow .boolean (.int x) = .int x := by rcases h with rfl | rfl <;> rfl
end OwnKit
theorem own_and (x : Int32) (m : Nat) (hm : m < 2147483648) : (x &&& Int32.ofNat m).toInt = (((x &&& Int32.ofNat m).toBitVec.toNat : Nat) : Int) ∧ (x &&& Int32.ofNat m).toBitVec.toNat ≤ m := by
  have h : (x &&& Int32.ofNat m).toBitVec.toNat ≤ m := by
    rw [Int32.toBitVec_and, BitVec.toNat_and]
    refine Nat.le_trans Nat.and_le_right ?_
    show (BitVec.ofNat 32 m).toNat ≤ m
    rw [BitVec.toNat_ofNat]; exact Nat.mod_le _ _
  refine ⟨?_, h⟩
  show (x &&& Int32.ofNat m).toBitVec.toInt = _
  rw [BitVec.toInt_eq_toNat_of_lt (by omega)]
theorem own_and1 (x : Int32) : (x &&& 1) = 0 ∨ (x &&& 1) = 1 := by
  obtain ⟨e, h⟩ := own_and x 1 (by decide)
  rcases (by omega : (x &&& Int32.ofNat 1).toInt = 0 ∨ (x &&& Int32.ofNat 1).toInt = 1) with q | q
  · exact Or.inl (Int32.toInt_inj.mp (q.trans (by decide)))
  · exact Or.inr (Int32.toInt_inj.mp (q.trans (by decide)))
theorem own_and3 (x : Int32) : (x &&& 3) = 0 ∨ (x &&& 3) = 1 ∨ (x &&& 3) = 2 ∨ (x &&& 3) = 3 := by
  obtain ⟨e, h⟩ := own_and x 3 (by decide)
  rcases (by omega : (x &&& Int32.ofNat 3).toInt = 0 ∨ (x &&& Int32.ofNat 3).toInt = 1 ∨ (x &&& Int32.ofNat 3).toInt = 2 ∨ (x &&& Int32.ofNat 3).toInt = 3) with q | q | q | q
  · exact Or.inl (Int32.toInt_inj.mp (q.trans (by decide)))
  · exact Or.inr (Or.inl (Int32.toInt_inj.mp (q.trans (by decide))))
  · exact Or.inr (Or.inr (Or.inl (Int32.toInt_inj.mp (q.trans (by decide)))))
  · exact Or.inr (Or.inr (Or.inr (Int32.toInt_inj.mp (q.trans (by decide)))))
theorem own_succ (n : Nat) : n.toInt32 + 1 = (n + 1).toInt32 := by
  apply Int32.toBitVec_inj.mp
  show BitVec.ofNat 32 n + 1#32 = BitVec.ofNat 32 (n + 1)
  rw [BitVec.ofNat_add]
theorem own_lt32 {a b : Nat} (ha : a < 2147483648) (hb : b < 2147483648) : a.toInt32 < b.toInt32 ↔ a < b := by
  have q1 : a.toInt32.toInt = a := len_toInt (by omega)
  have q2 : b.toInt32.toInt = b := len_toInt (by omega)
  rw [Int32.lt_iff_toInt_lt, q1, q2]; omega
theorem own_drop {α : Type} {xs : List α} {i : Nat} {x : α} (h : xs[i]? = some x) : xs.drop i = x :: xs.drop (i + 1) := by
  obtain ⟨h1, h2⟩ := List.getElem?_eq_some_iff.mp h
  rw [List.drop_eq_getElem_cons h1, h2]
def own_val (x i : Int32) : Int32 := if (((x >>> ((4 * i) &&& 31)) &&& 15) - 8) < 0 then (((x >>> ((4 * i) &&& 31)) &&& 15) - 8) else ((((x >>> ((4 * i) &&& 31)) &&& 15) - 8) + 1)
def own_sel (e0 e1 e2 s0 s1 s2 b : Int32) : List (Int32 × UInt64) := (if e0 = 0 then [] else [(s0, FP.i2d (own_val b 0))]) ++ ((if e1 = 0 then [] else [(s1, FP.i2d (own_val b 1))]) ++ (if e2 = 0 then [] else [(s2, FP.i2d (own_val b 2))]))
theorem own_sel_eq (e0 e1 e2 s0 s1 s2 b : Int32) : own_sel e0 e1 e2 s0 s1 s2 b = (if e0 = 0 then [] else [(s0, FP.i2d (own_val b 0))]) ++ ((if e1 = 0 then [] else [(s1, FP.i2d (own_val b 1))]) ++ (if e2 = 0 then [] else [(s2, FP.i2d (own_val b 2))])) := rfl
def own_mrg : Nat → List (Int32 × UInt64) → List (Int32 × UInt64) → UInt64 → UInt64
  | 0, _, _, s => s
  | _ + 1, [], _, s => s
  | _ + 1, _ :: _, [], s => s
  | n + 1, x :: xs, y :: ys, s => if x.1 < y.1 then own_mrg n xs (y :: ys) s else if y.1 < x.1 then own_mrg n (x :: xs) ys s else own_mrg n xs ys (FP.dadd s (FP.dmul x.2 y.2))
section OwnDot
open Jvm.FP.Core
def own_B (n : Nat) (s : UInt64) : Prop := ∃ t : Int, DInt t s ∧ t.natAbs ≤ 81 * n
def own_sm (xs : List (Int32 × UInt64)) : Prop := ∀ p ∈ xs, ∃ v : Int32, p.2 = FP.i2d v ∧ v.toInt.natAbs ≤ 9
theorem own_val_b (x i : Int32) : (own_val x i).toInt.natAbs ≤ 9 := by
  unfold own_val
  generalize hq : ((x >>> ((4 * i) &&& 31)) &&& 15) = q
  obtain ⟨e, h⟩ := own_and (x >>> ((4 * i) &&& 31)) 15 (by decide)
  have hq' : (x >>> ((4 * i) &&& 31)) &&& Int32.ofNat 15 = q := hq
  rw [hq'] at e h
  have hb : 0 ≤ q.toInt ∧ q.toInt ≤ 15 := by omega
  have e8 : (8 : Int32).toInt = 8 := by decide
  have e1 : (1 : Int32).toInt = 1 := by decide
  have s1 : (q - 8).toInt = q.toInt - 8 := by rw [Jvm.Free.XT.sub32 (by unfold Jvm.Free.XT.fits32; rw [e8]; omega), e8]
  split
  · rw [s1]; omega
  · rw [Jvm.Free.XT.add32 (by unfold Jvm.Free.XT.fits32; rw [s1, e1]; omega), s1, e1]; omega
theorem own_sel_sm (e0 e1 e2 s0 s1 s2 b : Int32) : own_sm (own_sel e0 e1 e2 s0 s1 s2 b) := by
  intro p hp
  unfold own_sel at hp
  rcases List.mem_append.mp hp with h | h
  · split at h
    · exact nomatch h
    · rw [List.mem_singleton.mp h]; exact ⟨_, rfl, own_val_b _ _⟩
  rcases List.mem_append.mp h with h | h
  · split at h
    · exact nomatch h
    · rw [List.mem_singleton.mp h]; exact ⟨_, rfl, own_val_b _ _⟩
  · split at h
    · exact nomatch h
    · rw [List.mem_singleton.mp h]; exact ⟨_, rfl, own_val_b _ _⟩
theorem own_sel_len (e0 e1 e2 s0 s1 s2 b : Int32) : (own_sel e0 e1 e2 s0 s1 s2 b).length ≤ 3 := by
  unfold own_sel
  repeat' split
  all_goals simp
theorem own_B0 : own_B (0 + 0) 0 := ⟨0, own_litI 0 (by decide +kernel) (by decide), by decide⟩
theorem own_Bup {n m : Nat} {s : UInt64} (h : own_B n s) (hm : n ≤ m) : own_B m s := by
  obtain ⟨t, h1, h2⟩ := h; exact ⟨t, h1, Nat.le_trans h2 (Nat.mul_le_mul_left 81 hm)⟩
variable {xs ys : List (Int32 × UInt64)} {i j : Nat} {x y : Int32 × UInt64} {sm d : UInt64}
theorem own_prod (hx : xs[i]? = some x) (hy : ys[j]? = some y) (hxs : own_sm xs) (hys : own_sm ys) : ∃ t : Int, DInt t (FP.dmul x.2 y.2) ∧ t.natAbs ≤ 81 := by
  obtain ⟨u, e1, h1⟩ := hxs x (List.mem_of_getElem? hx)
  obtain ⟨v, e2, h2⟩ := hys y (List.mem_of_getElem? hy)
  have h3 : (u.toInt * v.toInt).natAbs ≤ 9 * 9 := by rw [Int.natAbs_mul]; exact Nat.mul_le_mul h1 h2
  rw [e1, e2]
  exact ⟨_, dmul_int (i2d_int u) (i2d_int v) (by omega), h3⟩
theorem own_nnm (hx : xs[i]? = some x) (hy : ys[j]? = some y) (hxs : own_sm xs) (hys : own_sm ys) : Jvm.Free.Fl.NoNaN64 (FP.dmul x.2 y.2) := by
  obtain ⟨t, h, -⟩ := own_prod hx hy hxs hys; exact own_nn h
theorem own_sumB (hB : own_B (i + j) sm) (hx : xs[i]? = some x) (hy : ys[j]? = some y) (hxs : own_sm xs) (hys : own_sm ys) (hI : i ≤ 3) (hJ : j ≤ 3) : own_B (i + 1 + (j + 1)) (FP.dadd sm (FP.dmul x.2 y.2)) := by
  obtain ⟨t, h, ht⟩ := own_prod hx hy hxs hys
  obtain ⟨u, g, hu⟩ := hB
  exact ⟨u + t, dadd_int g h (by omega), by omega⟩
theorem own_nna (hB : own_B (i + j) sm) (hx : xs[i]? = some x) (hy : ys[j]? = some y) (hxs : own_sm xs) (hys : own_sm ys) (hlx : xs.length ≤ 3) (hly : ys.length ≤ 3) (hI : i < xs.length) (hJ : j < ys.length) : Jvm.Free.Fl.NoNaN64 (FP.dadd sm (FP.dmul x.2 y.2)) := by
  obtain ⟨t, h, -⟩ := own_sumB hB hx hy hxs hys (by omega) (by omega); exact own_nn h
theorem own_Bstep (hB : own_B (i + j) sm) (hx : xs[i]? = some x) (hy : ys[j]? = some y) (hxs : own_sm xs) (hys : own_sm ys) (hI : i ≤ 3) (hJ : j ≤ 3) (e : d = FP.dadd sm (FP.dmul x.2 y.2)) : own_B (i + 1 + (j + 1)) d := by
  rw [e]; exact own_sumB hB hx hy hxs hys hI hJ
theorem own_mstep {R : UInt64} {f : Nat} (hr : R = own_mrg (f + 1) (xs.drop i) (ys.drop j) sm) (hx : xs[i]? = some x) (hy : ys[j]? = some y) (h1 : ¬ x.1 < y.1) (h2 : ¬ y.1 < x.1) (e : d = FP.dadd sm (FP.dmul x.2 y.2)) : R = own_mrg f (xs.drop (i + 1)) (ys.drop (j + 1)) d := by
  rw [hr, own_drop hx, own_drop hy, e]
  show (if x.1 < y.1 then _ else if y.1 < x.1 then _ else _) = _
  rw [if_neg h1, if_neg h2]
theorem own_mlt {R : UInt64} {f : Nat} (hr : R = own_mrg (f + 1) (xs.drop i) (ys.drop j) sm) (hx : xs[i]? = some x) (hy : ys[j]? = some y) (h1 : x.1 < y.1) : R = own_mrg f (xs.drop (i + 1)) (ys.drop j) sm := by
  rw [hr, own_drop hx, own_drop hy]
  show (if x.1 < y.1 then _ else if y.1 < x.1 then _ else _) = _
  rw [if_pos h1]
theorem own_mgt {R : UInt64} {f : Nat} (hr : R = own_mrg (f + 1) (xs.drop i) (ys.drop j) sm) (hx : xs[i]? = some x) (hy : ys[j]? = some y) (h1 : ¬ x.1 < y.1) (h2 : y.1 < x.1) : R = own_mrg f (xs.drop i) (ys.drop (j + 1)) sm := by
  rw [hr, own_drop hx, own_drop hy]
  show (if x.1 < y.1 then _ else if y.1 < x.1 then _ else _) = _
  rw [if_neg h1, if_pos h2]
theorem own_mend {f : Nat} (h : xs.length ≤ i ∨ ys.length ≤ j) : own_mrg (f + 1) (xs.drop i) (ys.drop j) sm = sm := by
  rcases h with h | h
  · rw [List.drop_eq_nil_of_le h]; rfl
  · rw [List.drop_eq_nil_of_le h]
    cases xs.drop i <;> rfl
/-! the law's own sums -/
def own_pr (a b : Int32) (i : Int32) : UInt64 := FP.dmul (FP.i2d (own_val a i)) (FP.i2d (own_val b i))
theorem own_prB (a b i : Int32) : ∃ t : Int, DInt t (FP.dmul (FP.i2d (own_val a i)) (FP.i2d (own_val b i))) ∧ t.natAbs ≤ 81 := by
  have h1 := own_val_b a i; have h2 := own_val_b b i
  have h3 : ((own_val a i).toInt * (own_val b i).toInt).natAbs ≤ 9 * 9 := by rw [Int.natAbs_mul]; exact Nat.mul_le_mul h1 h2
  exact ⟨_, dmul_int (i2d_int _) (i2d_int _) (by omega), h3⟩
theorem own_vv (a b i j : Int32) : Jvm.Free.Fl.NoNaN64 (FP.dmul (FP.i2d (own_val a i)) (FP.i2d (own_val b j))) := Jvm.Free.Fl.dmul_out (Jvm.Free.Fl.i2d_fin _) (Jvm.Free.Fl.i2d_fin _)
def own_BB (n : Nat) (s : UInt64) : Prop := ∃ t : Int, DInt t s ∧ t.natAbs ≤ 81 * n
theorem own_BB.add {n : Nat} {s : UInt64} (h : own_BB n s) (hn : n ≤ 10) (a b i : Int32) : own_BB (n + 1) (FP.dadd s (FP.dmul (FP.i2d (own_val a i)) (FP.i2d (own_val b i)))) := by
  obtain ⟨t, h1, h2⟩ := h
  obtain ⟨u, g1, g2⟩ := own_prB a b i
  exact ⟨t + u, dadd_int h1 g1 (by omega), by omega⟩
theorem own_BB.nn {n : Nat} {s : UInt64} (h : own_BB n s) : Jvm.Free.Fl.NoNaN64 s := by obtain ⟨t, h1, -⟩ := h; exact own_nn h1
theorem own_BB.up {n : Nat} {s : UInt64} (h : own_BB n s) : own_BB (n + 1) s := by obtain ⟨t, h1, h2⟩ := h; exact ⟨t, h1, by omega⟩
theorem own_BB.z : own_BB 0 0 := ⟨0, own_litI 0 (by decide +kernel) (by decide), by decide⟩
theorem own_BB.ite {n : Nat} {s z : UInt64} (h : own_BB n s) (hn : n ≤ 10) {a b i e f : Int32} (hz : z = (if e = 0 then s else (if f = 0 then s else FP.dadd s (FP.dmul (FP.i2d (own_val a i)) (FP.i2d (own_val b i)))))) : own_BB (n + 1) z := by
  rw [hz]; split
  · exact h.up
  · split
    · exact h.up
    · exact h.add hn a b i
end OwnDot
theorem own_min3 {a b c s0 s1 s2 : Int32} (h0 : s0 = (if (if c < b then c else b) < a then (if c < b then c else b) else a)) (h2 : s2 = (if a < (if b < c then c else b) then (if b < c then c else b) else a)) (h1 : s1 = (((a + b) + c) - s0) - s2) : s0.toInt ≤ s1.toInt ∧ s1.toInt ≤ s2.toInt := by
  have r1 : ∀ p q r : Int32, (((p + q) + r) - p) - r = q := fun p q r => by apply Int32.toBitVec_inj.mp; simp only [Int32.toBitVec_sub, Int32.toBitVec_add]; bv_omega
  have r2 : ∀ p q r : Int32, (((p + q) + r) - p) - q = r := fun p q r => by apply Int32.toBitVec_inj.mp; simp only [Int32.toBitVec_sub, Int32.toBitVec_add]; bv_omega
  have r3 : ∀ p q r : Int32, (((p + q) + r) - q) - r = p := fun p q r => by apply Int32.toBitVec_inj.mp; simp only [Int32.toBitVec_sub, Int32.toBitVec_add]; bv_omega
  have r4 : ∀ p q r : Int32, (((p + q) + r) - q) - p = r := fun p q r => by apply Int32.toBitVec_inj.mp; simp only [Int32.toBitVec_sub, Int32.toBitVec_add]; bv_omega
  have r5 : ∀ p q r : Int32, (((p + q) + r) - r) - p = q := fun p q r => by apply Int32.toBitVec_inj.mp; simp only [Int32.toBitVec_sub, Int32.toBitVec_add]; bv_omega
  have r6 : ∀ p q r : Int32, (((p + q) + r) - r) - q = p := fun p q r => by apply Int32.toBitVec_inj.mp; simp only [Int32.toBitVec_sub, Int32.toBitVec_add]; bv_omega
  have r7 : ∀ p q r : Int32, p = r → (((p + q) + r) - p) - p = q := fun p q r e => by subst e; exact r1 p q p
  simp only [Int32.lt_iff_toInt_lt] at h0 h2
  by_cases c1 : c.toInt < b.toInt
  · rw [if_pos c1] at h0
    rw [if_neg (show ¬ b.toInt < c.toInt by omega)] at h2
    by_cases c2 : c.toInt < a.toInt
    · rw [if_pos c2] at h0
      by_cases c3 : a.toInt < b.toInt
      · rw [if_pos c3] at h2; subst h0 h2; rw [r6] at h1; subst h1; omega
      · rw [if_neg c3] at h2; subst h0 h2; rw [r5] at h1; subst h1; omega
    · rw [if_neg c2] at h0
      rw [if_pos (show a.toInt < b.toInt by omega)] at h2; subst h0 h2; rw [r2] at h1; subst h1; omega
  · rw [if_neg c1] at h0
    by_cases c4 : b.toInt < c.toInt
    · rw [if_pos c4] at h2
      by_cases c2 : b.toInt < a.toInt
      · rw [if_pos c2] at h0
        by_cases c3 : a.toInt < c.toInt
        · rw [if_pos c3] at h2; subst h0 h2; rw [r3] at h1; subst h1; omega
        · rw [if_neg c3] at h2; subst h0 h2; rw [r4] at h1; subst h1; omega
      · rw [if_neg c2] at h0
        rw [if_pos (show a.toInt < c.toInt by omega)] at h2; subst h0 h2; rw [r1] at h1; subst h1; omega
    · rw [if_neg c4] at h2
      by_cases c2 : b.toInt < a.toInt
      · rw [if_pos c2] at h0
        rw [if_neg (show ¬ a.toInt < b.toInt by omega)] at h2; subst h0 h2; rw [r4] at h1; subst h1; omega
      · rw [if_neg c2] at h0
        by_cases c3 : a.toInt < b.toInt
        · rw [if_pos c3] at h2; subst h0 h2; rw [r2] at h1; subst h1; omega
        · rw [if_neg c3] at h2
          have e : b = a := Int32.toInt_inj.mp (by omega)
          rw [h0, h2, e, r2] at h1
          rw [h0, h2, h1]; omega
theorem own_mrg_sel {n : Nat} {a0 a1 a2 b0 b1 b2 s0 s1 s2 u v : Int32} (o1 : (¬ a1 = 0 ∨ ¬ b1 = 0) → s0 < s1) (o2 : (¬ a2 = 0 ∨ ¬ b2 = 0) → s1 < s2) (le : ¬ s1 < s0) (hn : 6 ≤ n) :
    own_mrg (n + 1) (own_sel a0 a1 a2 s0 s1 s2 u) (own_sel b0 b1 b2 s0 s1 s2 v) 0 = (if a2 = 0 then (if a1 = 0 then (if a0 = 0 then 0 else if b0 = 0 then 0 else FP.dadd 0 (own_pr u v 0)) else if b1 = 0 then (if a0 = 0 then 0 else if b0 = 0 then 0 else FP.dadd 0 (own_pr u v 0)) else FP.dadd (if a0 = 0 then 0 else if b0 = 0 then 0 else FP.dadd 0 (own_pr u v 0)) (own_pr u v 1)) else if b2 = 0 then (if a1 = 0 then (if a0 = 0 then 0 else if b0 = 0 then 0 else FP.dadd 0 (own_pr u v 0)) else if b1 = 0 then (if a0 = 0 then 0 else if b0 = 0 then 0 else FP.dadd 0 (own_pr u v 0)) else FP.dadd (if a0 = 0 then 0 else if b0 = 0 then 0 else FP.dadd 0 (own_pr u v 0)) (own_pr u v 1)) else FP.dadd (if a1 = 0 then (if a0 = 0 then 0 else if b0 = 0 then 0 else FP.dadd 0 (own_pr u v 0)) else if b1 = 0 then (if a0 = 0 then 0 else if b0 = 0 then 0 else FP.dadd 0 (own_pr u v 0)) else FP.dadd (if a0 = 0 then 0 else if b0 = 0 then 0 else FP.dadd 0 (own_pr u v 0)) (own_pr u v 1)) (own_pr u v 2)) := by
  obtain ⟨n, rfl⟩ : ∃ k, n = k + 6 := ⟨n - 6, by omega⟩
  have o02 : (¬ a2 = 0 ∨ ¬ b2 = 0) → s0 < s2 := fun h => by have := o2 h; simp only [Int32.lt_iff_toInt_lt] at *; omega
  have irr : ∀ z : Int32, ¬ z < z := fun z => by simp only [Int32.lt_iff_toInt_lt]; omega
  have asy : ∀ {p q : Int32}, p < q → ¬ q < p := fun h => by simp only [Int32.lt_iff_toInt_lt] at *; omega
  by_cases A0 : a0 = 0 <;> by_cases A1 : a1 = 0 <;> by_cases A2 : a2 = 0 <;> by_cases B0 : b0 = 0 <;> by_cases B1 : b1 = 0 <;> by_cases B2 : b2 = 0 <;>
  · first | have k1 := o1 (Or.inl A1) | have k1 := o1 (Or.inr B1) | have k1 := irr
    first | have k2 := o2 (Or.inl A2) | have k2 := o2 (Or.inr B2) | have k2 := irr
    first | have k3 := o02 (Or.inl A2) | have k3 := o02 (Or.inr B2) | have k3 := irr
    first | have j1 := asy k1 | have j1 := irr
    first | have j2 := asy k2 | have j2 := irr
    first | have j3 := asy k3 | have j3 := irr
    simp only [own_sel, own_mrg, own_pr, A0, A1, A2, B0, B1, B2, if_true, if_false, List.nil_append, List.cons_append, List.singleton_append, irr, k1, k2, k3, j1, j2, j3]
theorem own_mrg_fuel : ∀ (f g : Nat) (xs ys : List (Int32 × UInt64)) (s : UInt64), xs.length + ys.length ≤ f → xs.length + ys.length ≤ g → own_mrg f xs ys s = own_mrg g xs ys s
  | 0, 0, _, _, _, _, _ => rfl
  | 0, g + 1, [], _, _, _, _ => rfl
  | 0, g + 1, _ :: _, _, _, h, _ => by simp at h
  | f + 1, 0, [], _, _, _, _ => rfl
  | f + 1, 0, _ :: _, _, _, _, h => by simp at h
  | f + 1, g + 1, [], _, _, _, _ => rfl
  | f + 1, g + 1, _ :: _, [], _, _, _ => rfl
  | f + 1, g + 1, x :: xs, y :: ys, s, h1, h2 => by
    simp only [List.length_cons] at h1 h2
    show (if x.1 < y.1 then own_mrg f xs (y :: ys) s else if y.1 < x.1 then own_mrg f (x :: xs) ys s else own_mrg f xs ys (FP.dadd s (FP.dmul x.2 y.2))) = (if x.1 < y.1 then own_mrg g xs (y :: ys) s else if y.1 < x.1 then own_mrg g (x :: xs) ys s else own_mrg g xs ys (FP.dadd s (FP.dmul x.2 y.2)))
    rw [own_mrg_fuel f g xs (y :: ys) s (by simp only [List.length_cons]; omega) (by simp only [List.length_cons]; omega), own_mrg_fuel f g (x :: xs) ys s (by simp only [List.length_cons]; omega) (by simp only [List.length_cons]; omega), own_mrg_fuel f g xs ys _ (by omega) (by omega)]
theorem own_pr_comm (u v i : Int32) : own_pr u v i = own_pr v u i := Jvm.FP.Core.dmul_comm _ _
theorem own_dotfin {x0 x1 x2 x3 x4 x5 s0 s1 s2 d1 d2 a0 a1 a2 b0 b1 b2 : Int32} {z1 z2 z3 : UInt64} (e0 : s0 = (if (if x2 < x1 then x2 else x1) < x0 then (if x2 < x1 then x2 else x1) else x0)) (e2 : s2 = (if x0 < (if x1 < x2 then x2 else x1) then (if x1 < x2 then x2 else x1) else x0)) (e1 : s1 = (((x0 + x1) + x2) - s0) - s2) (f1 : d1 = (if s1 = s0 then 0 else 1)) (f2 : d2 = (if s2 = s1 then 0 else 1))
    (g0 : a0 = (if (x3 &&& 1) = 0 then 0 else 1)) (g1 : a1 = (if (x3 &&& 2) = 0 then 0 else (if d1 = 0 then 0 else 1))) (g2 : a2 = (if (x3 &&& 4) = 0 then 0 else (if d2 = 0 then 0 else 1))) (h0 : b0 = (if (x3 &&& 8) = 0 then 0 else 1)) (h1 : b1 = (if (x3 &&& 16) = 0 then 0 else (if d1 = 0 then 0 else 1))) (h2 : b2 = (if (x3 &&& 32) = 0 then 0 else (if d2 = 0 then 0 else 1)))
    (k1 : z1 = (if a0 = 0 then 0 else (if b0 = 0 then 0 else (FP.dadd 0 (FP.dmul (FP.i2d (own_val x4 0)) (FP.i2d (own_val x5 0))))))) (k2 : z2 = (if a1 = 0 then z1 else (if b1 = 0 then z1 else (FP.dadd z1 (FP.dmul (FP.i2d (own_val x4 1)) (FP.i2d (own_val x5 1))))))) (k3 : z3 = (if a2 = 0 then z2 else (if b2 = 0 then z2 else (FP.dadd z2 (FP.dmul (FP.i2d (own_val x4 2)) (FP.i2d (own_val x5 2))))))) :
    FP.dcmp (own_mrg ((own_sel a0 a1 a2 s0 s1 s2 x4).length + (own_sel b0 b1 b2 s0 s1 s2 x5).length + 1) (own_sel a0 a1 a2 s0 s1 s2 x4) (own_sel b0 b1 b2 s0 s1 s2 x5) 0) z3 = some .eq ∧ FP.dcmp (own_mrg ((own_sel b0 b1 b2 s0 s1 s2 x5).length + (own_sel a0 a1 a2 s0 s1 s2 x4).length + 1) (own_sel b0 b1 b2 s0 s1 s2 x5) (own_sel a0 a1 a2 s0 s1 s2 x4) 0) z3 = some .eq := by
  obtain ⟨q1, q2⟩ := own_min3 e0 e2 e1
  have n1 : (¬ a1 = 0 ∨ ¬ b1 = 0) → s0 < s1 := fun h => by
    have : ¬ s1 = s0 := fun z => by
      rw [if_pos z] at f1; rw [f1] at g1 h1
      rw [if_pos (rfl : (0 : Int32) = 0), ite_self] at g1 h1
      exact h.elim (fun w => w g1) (fun w => w h1)
    have : s1.toInt ≠ s0.toInt := fun z => this (Int32.toInt_inj.mp z)
    rw [Int32.lt_iff_toInt_lt]; omega
  have n2 : (¬ a2 = 0 ∨ ¬ b2 = 0) → s1 < s2 := fun h => by
    have : ¬ s2 = s1 := fun z => by
      rw [if_pos z] at f2; rw [f2] at g2 h2
      rw [if_pos (rfl : (0 : Int32) = 0), ite_self] at g2 h2
      exact h.elim (fun w => w g2) (fun w => w h2)
    have : s2.toInt ≠ s1.toInt := fun z => this (Int32.toInt_inj.mp z)
    rw [Int32.lt_iff_toInt_lt]; omega
  have n0 : ¬ s1 < s0 := by rw [Int32.lt_iff_toInt_lt]; omega
  have l1 := own_sel_len a0 a1 a2 s0 s1 s2 x4
  have l2 := own_sel_len b0 b1 b2 s0 s1 s2 x5
  have B3 : own_BB 3 z3 := ((own_BB.z.ite (by decide) k1).ite (by decide) k2).ite (by decide) k3
  have r1 : own_mrg ((own_sel a0 a1 a2 s0 s1 s2 x4).length + (own_sel b0 b1 b2 s0 s1 s2 x5).length + 1) (own_sel a0 a1 a2 s0 s1 s2 x4) (own_sel b0 b1 b2 s0 s1 s2 x5) 0 = z3 := by
    rw [own_mrg_fuel _ 7 _ _ _ (by omega) (by omega), own_mrg_sel (n := 6) n1 n2 n0 (by omega), k3, k2, k1]
    all_goals first | rfl | (unfold own_pr; rfl)
  have r2 : own_mrg ((own_sel b0 b1 b2 s0 s1 s2 x5).length + (own_sel a0 a1 a2 s0 s1 s2 x4).length + 1) (own_sel b0 b1 b2 s0 s1 s2 x5) (own_sel a0 a1 a2 s0 s1 s2 x4) 0 = z3 := by
    rw [own_mrg_fuel _ 7 _ _ _ (by omega) (by omega), own_mrg_sel (n := 6) (fun h => n1 h.symm) (fun h => n2 h.symm) n0 (by omega), k3, k2, k1, own_pr_comm x5 x4, own_pr_comm x5 x4, own_pr_comm x5 x4]
    unfold own_pr
    by_cases A0 : a0 = 0 <;> by_cases A1 : a1 = 0 <;> by_cases A2 : a2 = 0 <;> by_cases B0 : b0 = 0 <;> by_cases B1 : b1 = 0 <;> by_cases B2 : b2 = 0 <;> simp only [A0, A1, A2, B0, B1, B2, if_true, if_false]
  rw [r1, r2]
  exact ⟨own_self B3.nn, own_self B3.nn⟩

theorem d_jdk_29_method_65_code_0 : decode jdk_29_method_65_code 0 = .ok (.iload_n 0, 1) := by decide +kernel
theorem d_jdk_29_method_65_code_1 : decode jdk_29_method_65_code 1 = .ok (.iload_n 1, 1) := by decide +kernel
theorem d_jdk_29_method_65_code_2 : decode jdk_29_method_65_code 2 = .ok (.if_icmp .lt 7, 3) := by decide +kernel
theorem d_jdk_29_method_65_code_9 : decode jdk_29_method_65_code 9 = .ok (.iload_n 1, 1) := by decide +kernel
theorem d_jdk_29_method_65_code_5 : decode jdk_29_method_65_code 5 = .ok (.iload_n 0, 1) := by decide +kernel
theorem d_jdk_29_method_65_code_6 : decode jdk_29_method_65_code 6 = .ok (.goto 4, 3) := by decide +kernel
theorem d_jdk_29_method_65_code_10 : decode jdk_29_method_65_code 10 = .ok (.ireturn, 1) := by decide +kernel
theorem own_pf_max__II_I : plainFor (⟨"java/lang/Math", "max", "(II)I"⟩ : MethodName) = true := by decide +kernel
def rm_own_max : Room := { frames := 0, cells := 0, slots := 0, locals := 0 }
set_option maxRecDepth 65536 in
set_option maxHeartbeats 40000000 in
theorem own_max (l : Launch) (Z : State) (a0 : Array Value) (hw : ∀ d ∈ tables_1, d.before a0 Z = true) (a b : Int32) (L : List (Addr × (Cell → Prop))) :
    own_Con l Z (⟨"java/lang/Math", "max", "(II)I"⟩ : MethodName) jdk_29_method_65_code 2 (some .int) rm_own_max #[(.int a), (.int b)] (L) (fun v M => v = some (.int (if a < b then b else a)) ∧ M = L) := by
  refine own_con (ls := #[.val (.int a), .val (.int b)]) own_pf_max__II_I (fun m => own_ent m rfl) ?_
  intro p e s m below meth c T C X
  refine k_iloadN C X d_jdk_29_method_65_code_0 rfl rfl ?_
  refine k_iloadN C X d_jdk_29_method_65_code_1 rfl rfl ?_
  suffices J2_10 : ∀ (y10_0 : Int32) (e_y10_0 : y10_0 = (if a < b then b else a)), own_Go p.tables e below (own_E Z s rm_own_max (fun v M => v = some (.int (if a < b then b else a)) ∧ M = L)) (T.setTop (mkF m 10 #[.val (.int a), .val (.int b)] [(.int y10_0)])) by
    refine k_icmp_lt C X d_jdk_29_method_65_code_2 rfl (tpc := 9) rfl (fun h2 => ?_) (fun h2 => ?_)
    · skip
      refine k_iloadN C X d_jdk_29_method_65_code_9 rfl rfl ?_
      exact J2_10 _ (by rw [if_pos h2])
    · skip
      refine k_iloadN C X d_jdk_29_method_65_code_5 rfl rfl ?_
      refine k_goto C X d_jdk_29_method_65_code_6 (tpc := 10) rfl ?_
      exact J2_10 _ (by rw [if_neg h2])
  intro y10_0 e_y10_0
  exact k_ireturn C X d_jdk_29_method_65_code_10 (by simp) rfl ⟨by rw [e_y10_0], rfl⟩ (by decide) (by decide)
theorem d_jdk_29_method_69_code_0 : decode jdk_29_method_69_code 0 = .ok (.iload_n 0, 1) := by decide +kernel
theorem d_jdk_29_method_69_code_1 : decode jdk_29_method_69_code 1 = .ok (.iload_n 1, 1) := by decide +kernel
theorem d_jdk_29_method_69_code_2 : decode jdk_29_method_69_code 2 = .ok (.if_icmp .gt 7, 3) := by decide +kernel
theorem d_jdk_29_method_69_code_9 : decode jdk_29_method_69_code 9 = .ok (.iload_n 1, 1) := by decide +kernel
theorem d_jdk_29_method_69_code_5 : decode jdk_29_method_69_code 5 = .ok (.iload_n 0, 1) := by decide +kernel
theorem d_jdk_29_method_69_code_6 : decode jdk_29_method_69_code 6 = .ok (.goto 4, 3) := by decide +kernel
theorem d_jdk_29_method_69_code_10 : decode jdk_29_method_69_code 10 = .ok (.ireturn, 1) := by decide +kernel
theorem own_pf_min__II_I : plainFor (⟨"java/lang/Math", "min", "(II)I"⟩ : MethodName) = true := by decide +kernel
def rm_own_min : Room := { frames := 0, cells := 0, slots := 0, locals := 0 }
set_option maxRecDepth 65536 in
set_option maxHeartbeats 40000000 in
theorem own_min (l : Launch) (Z : State) (a0 : Array Value) (hw : ∀ d ∈ tables_1, d.before a0 Z = true) (a b : Int32) (L : List (Addr × (Cell → Prop))) :
    own_Con l Z (⟨"java/lang/Math", "min", "(II)I"⟩ : MethodName) jdk_29_method_69_code 2 (some .int) rm_own_min #[(.int a), (.int b)] (L) (fun v M => v = some (.int (if b < a then b else a)) ∧ M = L) := by
  refine own_con (ls := #[.val (.int a), .val (.int b)]) own_pf_min__II_I (fun m => own_ent m rfl) ?_
  intro p e s m below meth c T C X
  refine k_iloadN C X d_jdk_29_method_69_code_0 rfl rfl ?_
  refine k_iloadN C X d_jdk_29_method_69_code_1 rfl rfl ?_
  suffices J2_10 : ∀ (y10_0 : Int32) (e_y10_0 : y10_0 = (if b < a then b else a)), own_Go p.tables e below (own_E Z s rm_own_min (fun v M => v = some (.int (if b < a then b else a)) ∧ M = L)) (T.setTop (mkF m 10 #[.val (.int a), .val (.int b)] [(.int y10_0)])) by
    refine k_icmp_gt C X d_jdk_29_method_69_code_2 rfl (tpc := 9) rfl (fun h2 => ?_) (fun h2 => ?_)
    · skip
      refine k_iloadN C X d_jdk_29_method_69_code_9 rfl rfl ?_
      exact J2_10 _ (by rw [if_pos h2])
    · skip
      refine k_iloadN C X d_jdk_29_method_69_code_5 rfl rfl ?_
      refine k_goto C X d_jdk_29_method_69_code_6 (tpc := 10) rfl ?_
      exact J2_10 _ (by rw [if_neg h2])
  intro y10_0 e_y10_0
  exact k_ireturn C X d_jdk_29_method_69_code_10 (by simp) rfl ⟨by rw [e_y10_0], rfl⟩ (by decide) (by decide)
theorem d_prog_137_method_1_code_0 : decode prog_137_method_1_code 0 = .ok (.aload_n 0, 1) := by decide +kernel
theorem d_prog_137_method_1_code_1 : decode prog_137_method_1_code 1 = .ok (.invokespecial 1, 3) := by decide +kernel
theorem d_prog_137_method_1_code_4 : decode prog_137_method_1_code 4 = .ok (.aload_n 0, 1) := by decide +kernel
theorem d_prog_137_method_1_code_5 : decode prog_137_method_1_code 5 = .ok (.aload_n 1, 1) := by decide +kernel
theorem d_prog_137_method_1_code_6 : decode prog_137_method_1_code 6 = .ok (.putfield 7, 3) := by decide +kernel
def own_lay_SparseVector_N : List (String × String × FieldType) := [("dimensions", "[I", (.array .int)), ("values", "[D", (.array .double))]
theorem own_lay_SparseVector {Z : State} {a0 : Array Value} (hw : ∀ d ∈ tables_1, d.before a0 Z = true) : own_lay Z a0 "com/example/fuzzsub/fuzzsub/service/SparseVector" own_lay_SparseVector_N := ⟨⟨Or.inr (hw _ (List.mem_of_getElem? (i := 26) rfl)), by decide⟩, ⟨Or.inr (hw _ (List.mem_of_getElem? (i := 28) rfl)), by decide⟩, trivial⟩
theorem own_lay_SparseVector_nd : (own_lay_SparseVector_N.map (·.1)).Nodup := by decide +kernel
theorem d_prog_137_method_1_code_9 : decode prog_137_method_1_code 9 = .ok (.aload_n 0, 1) := by decide +kernel
theorem d_prog_137_method_1_code_10 : decode prog_137_method_1_code 10 = .ok (.aload_n 2, 1) := by decide +kernel
theorem d_prog_137_method_1_code_11 : decode prog_137_method_1_code 11 = .ok (.putfield 13, 3) := by decide +kernel
theorem d_prog_137_method_1_code_14 : decode prog_137_method_1_code 14 = .ok (.return_, 1) := by decide +kernel
theorem own_pn0 : plainName "com/example/fuzzsub/fuzzsub/service/SparseVector" = true := by first | (simp [plainName, overriddenIn]; done) | decide +kernel
def rm_own_sv : Room := { frames := 1, cells := 0, slots := 0, locals := 12 }
set_option maxRecDepth 65536 in
set_option maxHeartbeats 40000000 in
theorem own_sv (l : Launch) (Z : State) (a0 : Array Value) (hw : ∀ d ∈ tables_1, d.before a0 Z = true) (a qd qv : Addr) (L : List (Addr × (Cell → Prop))) :
    own_Con l Z (⟨"com/example/fuzzsub/fuzzsub/service/SparseVector", "<init>", "([I[D)V"⟩ : MethodName) prog_137_method_1_code 3 none rm_own_sv #[(.ref a), (.ref qd), (.ref qv)] ((a, own_ob Z "com/example/fuzzsub/fuzzsub/service/SparseVector" [("dimensions", "[I", .null), ("values", "[D", .null)]) :: L) (fun v M => v = none ∧ M = (a, own_ob Z "com/example/fuzzsub/fuzzsub/service/SparseVector" [("dimensions", "[I", (.ref qd)), ("values", "[D", (.ref qv))]) :: L) := by
  refine own_con (ls := #[.val (.ref a), .val (.ref qd), .val (.ref qv)]) (plainFor_of_name own_pn0) (fun m => own_ent m rfl) ?_
  intro p e s m below meth c T C X
  refine k_aloadN C X d_prog_137_method_1_code_0 rfl rfl rfl ?_
  refine k_initO C X d_prog_137_method_1_code_1 rfl (hw _ (List.mem_of_getElem? (i := 22) rfl)) (hw _ (List.mem_of_getElem? (i := 23) rfl)) (hw _ (List.mem_of_getElem? (i := 24) rfl)) rfl (W := 0) (Nat.le_of_eq rfl) (by decide) (by decide) (fun T X => ?_)
  refine k_aloadN C X d_prog_137_method_1_code_4 rfl rfl rfl ?_
  refine k_aloadN C X d_prog_137_method_1_code_5 rfl rfl rfl ?_
  refine k_putfield C X d_prog_137_method_1_code_6 rfl (host := "") (Or.inl (hw _ (List.mem_of_getElem? (i := 25) rfl))) (hw _ (List.mem_of_getElem? (i := 17) rfl)) (Or.inr ⟨(hw _ (List.mem_of_getElem? (i := 26) rfl)), rfl, rfl⟩) (own_lay_SparseVector hw) own_lay_SparseVector_nd (ix := 0) (j := 0) rfl rfl rfl (fs' := [("dimensions", "[I", (.ref qd)), ("values", "[D", .null)]) rfl (ty := (.array .int)) (by decide) rfl rfl (L' := (a, own_ob Z "com/example/fuzzsub/fuzzsub/service/SparseVector" [("dimensions", "[I", (.ref qd)), ("values", "[D", .null)]) :: L) rfl (fun T X => ?_)
  refine k_aloadN C X d_prog_137_method_1_code_9 rfl rfl rfl ?_
  refine k_aloadN C X d_prog_137_method_1_code_10 rfl rfl rfl ?_
  refine k_putfield C X d_prog_137_method_1_code_11 rfl (host := "") (Or.inl (hw _ (List.mem_of_getElem? (i := 27) rfl))) (hw _ (List.mem_of_getElem? (i := 17) rfl)) (Or.inr ⟨(hw _ (List.mem_of_getElem? (i := 28) rfl)), rfl, rfl⟩) (own_lay_SparseVector hw) own_lay_SparseVector_nd (ix := 0) (j := 1) rfl rfl rfl (fs' := [("dimensions", "[I", (.ref qd)), ("values", "[D", (.ref qv))]) rfl (ty := (.array .double)) (by decide) rfl rfl (L' := (a, own_ob Z "com/example/fuzzsub/fuzzsub/service/SparseVector" [("dimensions", "[I", (.ref qd)), ("values", "[D", (.ref qv))]) :: L) rfl (fun T X => ?_)
  exact k_return C X d_prog_137_method_1_code_14 ⟨rfl, rfl⟩ (by decide) (by decide)
theorem d_method_3_code_0 : decode method_3_code 0 = .ok (.iload_n 0, 1) := by decide +kernel
theorem d_method_3_code_1 : decode method_3_code 1 = .ok (.iconst 4, 1) := by decide +kernel
theorem d_method_3_code_2 : decode method_3_code 2 = .ok (.iload_n 1, 1) := by decide +kernel
theorem d_method_3_code_3 : decode method_3_code 3 = .ok (.imul, 1) := by decide +kernel
theorem d_method_3_code_4 : decode method_3_code 4 = .ok (.ishr, 1) := by decide +kernel
theorem d_method_3_code_5 : decode method_3_code 5 = .ok (.bipush 15, 2) := by decide +kernel
theorem d_method_3_code_7 : decode method_3_code 7 = .ok (.iand, 1) := by decide +kernel
theorem d_method_3_code_8 : decode method_3_code 8 = .ok (.istore_n 2, 1) := by decide +kernel
theorem d_method_3_code_9 : decode method_3_code 9 = .ok (.iload_n 2, 1) := by decide +kernel
theorem d_method_3_code_10 : decode method_3_code 10 = .ok (.bipush 8, 2) := by decide +kernel
theorem d_method_3_code_12 : decode method_3_code 12 = .ok (.isub, 1) := by decide +kernel
theorem d_method_3_code_13 : decode method_3_code 13 = .ok (.istore_n 2, 1) := by decide +kernel
theorem d_method_3_code_14 : decode method_3_code 14 = .ok (.iload_n 2, 1) := by decide +kernel
theorem d_method_3_code_15 : decode method_3_code 15 = .ok (.ifCond .lt 7, 3) := by decide +kernel
theorem d_method_3_code_18 : decode method_3_code 18 = .ok (.iload_n 2, 1) := by decide +kernel
theorem d_method_3_code_19 : decode method_3_code 19 = .ok (.iconst 1, 1) := by decide +kernel
theorem d_method_3_code_20 : decode method_3_code 20 = .ok (.iadd, 1) := by decide +kernel
theorem d_method_3_code_21 : decode method_3_code 21 = .ok (.istore_n 2, 1) := by decide +kernel
theorem d_method_3_code_22 : decode method_3_code 22 = .ok (.iload_n 2, 1) := by decide +kernel
theorem d_method_3_code_23 : decode method_3_code 23 = .ok (.i2d, 1) := by decide +kernel
theorem d_method_3_code_24 : decode method_3_code 24 = .ok (.dreturn, 1) := by decide +kernel
theorem own_pn1 : plainName "com/example/fuzzsub/fuzzsub/service/SparseVectorDotPinLaw" = true := by first | (simp [plainName, overriddenIn]; done) | decide +kernel
def rm_own_cval : Room := { frames := 0, cells := 0, slots := 0, locals := 0 }
set_option maxRecDepth 65536 in
set_option maxHeartbeats 40000000 in
theorem own_cval (l : Launch) (Z : State) (a0 : Array Value) (hw : ∀ d ∈ tables_1, d.before a0 Z = true) (x i : Int32) (L : List (Addr × (Cell → Prop))) :
    own_Con l Z (⟨"com/example/fuzzsub/fuzzsub/service/SparseVectorDotPinLaw", "val", "(II)D"⟩ : MethodName) method_3_code 3 (some .double) rm_own_cval #[(.int x), (.int i)] (L) (fun v M => v = some (.double (FP.i2d (own_val x i))) ∧ M = L) := by
  refine own_con (ls := #[.val (.int x), .val (.int i), .unset]) (plainFor_of_name own_pn1) (fun m => own_ent m rfl) ?_
  intro p e s m below meth c T C X
  refine k_iloadN C X d_method_3_code_0 rfl rfl ?_
  refine k_iconst C X d_method_3_code_1 rfl (v := 4) rfl ?_
  refine k_iloadN C X d_method_3_code_2 rfl rfl ?_
  refine k_imul C X d_method_3_code_3 rfl ?_
  refine k_ishr C X d_method_3_code_4 rfl ?_
  refine k_bipush C X d_method_3_code_5 rfl (v := 15) rfl ?_
  refine k_iand C X d_method_3_code_7 rfl ?_
  refine k_istoreN C X d_method_3_code_8 rfl (l' := #[.val (.int x), .val (.int i), .val (.int ((x >>> (((4) * i) &&& 31 : Int32) : Int32) &&& (15)))]) rfl ?_
  refine k_iloadN C X d_method_3_code_9 rfl rfl ?_
  refine k_bipush C X d_method_3_code_10 rfl (v := 8) rfl ?_
  refine k_isub C X d_method_3_code_12 rfl ?_
  refine k_istoreN C X d_method_3_code_13 rfl (l' := #[.val (.int x), .val (.int i), .val (.int (((x >>> (((4) * i) &&& 31 : Int32) : Int32) &&& (15)) - (8)))]) rfl ?_
  refine k_iloadN C X d_method_3_code_14 rfl rfl ?_
  suffices J15_22 : ∀ (z22_2 : Int32) (e_z22_2 : z22_2 = (if (((x >>> (((4) * i) &&& 31 : Int32) : Int32) &&& (15)) - (8)) < 0 then (((x >>> (((4) * i) &&& 31 : Int32) : Int32) &&& (15)) - (8)) else ((((x >>> (((4) * i) &&& 31 : Int32) : Int32) &&& (15)) - (8)) + (1)))), own_Go p.tables e below (own_E Z s rm_own_cval (fun v M => v = some (.double (FP.i2d (own_val x i))) ∧ M = L)) (T.setTop (mkF m 22 #[.val (.int x), .val (.int i), .val (.int z22_2)] [])) by
    refine k_if_lt C X d_method_3_code_15 rfl (tpc := 22) rfl (fun h15 => ?_) (fun h15 => ?_)
    · skip
      exact J15_22 _ (by rw [if_pos h15])
    · skip
      refine k_iloadN C X d_method_3_code_18 rfl rfl ?_
      refine k_iconst C X d_method_3_code_19 rfl (v := 1) rfl ?_
      refine k_iadd C X d_method_3_code_20 rfl ?_
      refine k_istoreN C X d_method_3_code_21 rfl (l' := #[.val (.int x), .val (.int i), .val (.int ((((x >>> (((4) * i) &&& 31 : Int32) : Int32) &&& (15)) - (8)) + (1)))]) rfl ?_
      exact J15_22 _ (by rw [if_neg h15])
  intro z22_2 e_z22_2
  refine k_iloadN C X d_method_3_code_22 rfl rfl ?_
  refine k_i2d C X d_method_3_code_23 rfl ?_
  exact k_dreturn C X d_method_3_code_24 ⟨by rw [e_z22_2]; rfl, rfl⟩ (by decide) (by decide)
theorem d_method_4_code_0 : decode method_4_code 0 = .ok (.iload_n 0, 1) := by decide +kernel
theorem d_method_4_code_1 : decode method_4_code 1 = .ok (.ifCond .eq 7, 3) := by decide +kernel
theorem d_method_4_code_8 : decode method_4_code 8 = .ok (.iconst 0, 1) := by decide +kernel
theorem d_method_4_code_9 : decode method_4_code 9 = .ok (.iload_n 1, 1) := by decide +kernel
theorem d_method_4_code_10 : decode method_4_code 10 = .ok (.ifCond .eq 7, 3) := by decide +kernel
theorem d_method_4_code_17 : decode method_4_code 17 = .ok (.iconst 0, 1) := by decide +kernel
theorem d_method_4_code_18 : decode method_4_code 18 = .ok (.iadd, 1) := by decide +kernel
theorem d_method_4_code_19 : decode method_4_code 19 = .ok (.iload_n 2, 1) := by decide +kernel
theorem d_method_4_code_20 : decode method_4_code 20 = .ok (.ifCond .eq 7, 3) := by decide +kernel
theorem d_method_4_code_27 : decode method_4_code 27 = .ok (.iconst 0, 1) := by decide +kernel
theorem d_method_4_code_28 : decode method_4_code 28 = .ok (.iadd, 1) := by decide +kernel
theorem d_method_4_code_29 : decode method_4_code 29 = .ok (.istore 7, 2) := by decide +kernel
theorem d_method_4_code_31 : decode method_4_code 31 = .ok (.iload 7, 2) := by decide +kernel
theorem d_method_4_code_33 : decode method_4_code 33 = .ok (.newarray .int, 2) := by decide +kernel
theorem d_method_4_code_35 : decode method_4_code 35 = .ok (.astore 8, 2) := by decide +kernel
theorem d_method_4_code_37 : decode method_4_code 37 = .ok (.iload 7, 2) := by decide +kernel
theorem d_method_4_code_39 : decode method_4_code 39 = .ok (.newarray .double, 2) := by decide +kernel
theorem d_method_4_code_41 : decode method_4_code 41 = .ok (.astore 9, 2) := by decide +kernel
theorem d_method_4_code_43 : decode method_4_code 43 = .ok (.iconst 0, 1) := by decide +kernel
theorem d_method_4_code_44 : decode method_4_code 44 = .ok (.istore 10, 2) := by decide +kernel
theorem d_method_4_code_46 : decode method_4_code 46 = .ok (.iload_n 0, 1) := by decide +kernel
theorem d_method_4_code_47 : decode method_4_code 47 = .ok (.ifCond .eq 23, 3) := by decide +kernel
theorem d_method_4_code_70 : decode method_4_code 70 = .ok (.iload_n 1, 1) := by decide +kernel
theorem d_method_4_code_71 : decode method_4_code 71 = .ok (.ifCond .eq 24, 3) := by decide +kernel
theorem d_method_4_code_95 : decode method_4_code 95 = .ok (.iload_n 2, 1) := by decide +kernel
theorem d_method_4_code_96 : decode method_4_code 96 = .ok (.ifCond .eq 24, 3) := by decide +kernel
theorem d_method_4_code_120 : decode method_4_code 120 = .ok (.new 27, 3) := by decide +kernel
theorem d_method_4_code_123 : decode method_4_code 123 = .ok (.dup, 1) := by decide +kernel
theorem d_method_4_code_124 : decode method_4_code 124 = .ok (.aload 8, 2) := by decide +kernel
theorem d_method_4_code_126 : decode method_4_code 126 = .ok (.aload 9, 2) := by decide +kernel
theorem d_method_4_code_128 : decode method_4_code 128 = .ok (.invokespecial 32, 3) := by decide +kernel
theorem own_pd0 : parseMethodDescriptor "([I[D)V" = some ⟨[(.array .int), (.array .double)], none⟩ := by decide +kernel
theorem d_method_4_code_131 : decode method_4_code 131 = .ok (.areturn, 1) := by decide +kernel
theorem d_method_4_code_23 : decode method_4_code 23 = .ok (.iconst 1, 1) := by decide +kernel
theorem d_method_4_code_24 : decode method_4_code 24 = .ok (.goto 4, 3) := by decide +kernel
theorem d_method_4_code_99 : decode method_4_code 99 = .ok (.aload 8, 2) := by decide +kernel
theorem d_method_4_code_101 : decode method_4_code 101 = .ok (.iload 10, 2) := by decide +kernel
theorem d_method_4_code_103 : decode method_4_code 103 = .ok (.iload 5, 2) := by decide +kernel
theorem d_method_4_code_105 : decode method_4_code 105 = .ok (.iastore, 1) := by decide +kernel
theorem d_method_4_code_106 : decode method_4_code 106 = .ok (.aload 9, 2) := by decide +kernel
theorem d_method_4_code_108 : decode method_4_code 108 = .ok (.iload 10, 2) := by decide +kernel
theorem d_method_4_code_110 : decode method_4_code 110 = .ok (.iload 6, 2) := by decide +kernel
theorem d_method_4_code_112 : decode method_4_code 112 = .ok (.iconst 2, 1) := by decide +kernel
theorem d_method_4_code_113 : decode method_4_code 113 = .ok (.invokestatic 22, 3) := by decide +kernel
theorem own_pd1 : parseMethodDescriptor "(II)D" = some ⟨[.int, .int], some .double⟩ := by decide +kernel
theorem d_method_4_code_116 : decode method_4_code 116 = .ok (.dastore, 1) := by decide +kernel
theorem d_method_4_code_117 : decode method_4_code 117 = .ok (.iinc 10 1, 3) := by decide +kernel
theorem d_method_4_code_13 : decode method_4_code 13 = .ok (.iconst 1, 1) := by decide +kernel
theorem d_method_4_code_14 : decode method_4_code 14 = .ok (.goto 4, 3) := by decide +kernel
theorem d_method_4_code_74 : decode method_4_code 74 = .ok (.aload 8, 2) := by decide +kernel
theorem d_method_4_code_76 : decode method_4_code 76 = .ok (.iload 10, 2) := by decide +kernel
theorem d_method_4_code_78 : decode method_4_code 78 = .ok (.iload 4, 2) := by decide +kernel
theorem d_method_4_code_80 : decode method_4_code 80 = .ok (.iastore, 1) := by decide +kernel
theorem d_method_4_code_81 : decode method_4_code 81 = .ok (.aload 9, 2) := by decide +kernel
theorem d_method_4_code_83 : decode method_4_code 83 = .ok (.iload 10, 2) := by decide +kernel
theorem d_method_4_code_85 : decode method_4_code 85 = .ok (.iload 6, 2) := by decide +kernel
theorem d_method_4_code_87 : decode method_4_code 87 = .ok (.iconst 1, 1) := by decide +kernel
theorem d_method_4_code_88 : decode method_4_code 88 = .ok (.invokestatic 22, 3) := by decide +kernel
theorem d_method_4_code_91 : decode method_4_code 91 = .ok (.dastore, 1) := by decide +kernel
theorem d_method_4_code_92 : decode method_4_code 92 = .ok (.iinc 10 1, 3) := by decide +kernel
theorem d_method_4_code_4 : decode method_4_code 4 = .ok (.iconst 1, 1) := by decide +kernel
theorem d_method_4_code_5 : decode method_4_code 5 = .ok (.goto 4, 3) := by decide +kernel
theorem d_method_4_code_50 : decode method_4_code 50 = .ok (.aload 8, 2) := by decide +kernel
theorem d_method_4_code_52 : decode method_4_code 52 = .ok (.iload 10, 2) := by decide +kernel
theorem d_method_4_code_54 : decode method_4_code 54 = .ok (.iload_n 3, 1) := by decide +kernel
theorem d_method_4_code_55 : decode method_4_code 55 = .ok (.iastore, 1) := by decide +kernel
theorem d_method_4_code_56 : decode method_4_code 56 = .ok (.aload 9, 2) := by decide +kernel
theorem d_method_4_code_58 : decode method_4_code 58 = .ok (.iload 10, 2) := by decide +kernel
theorem d_method_4_code_60 : decode method_4_code 60 = .ok (.iload 6, 2) := by decide +kernel
theorem d_method_4_code_62 : decode method_4_code 62 = .ok (.iconst 0, 1) := by decide +kernel
theorem d_method_4_code_63 : decode method_4_code 63 = .ok (.invokestatic 22, 3) := by decide +kernel
theorem d_method_4_code_66 : decode method_4_code 66 = .ok (.dastore, 1) := by decide +kernel
theorem d_method_4_code_67 : decode method_4_code 67 = .ok (.iinc 10 1, 3) := by decide +kernel
def rm_own_make : Room := { frames := 2, cells := 3, slots := 8, locals := 27 }
set_option maxRecDepth 65536 in
set_option maxHeartbeats 40000000 in
theorem own_make (l : Launch) (Z : State) (a0 : Array Value) (hw : ∀ d ∈ tables_1, d.before a0 Z = true) (e0 e1 e2 s0 s1 s2 b : Int32) (L : List (Addr × (Cell → Prop))) :
    own_Con l Z (⟨"com/example/fuzzsub/fuzzsub/service/SparseVectorDotPinLaw", "make", "(ZZZIIII)Lcom/example/fuzzsub/fuzzsub/service/SparseVector;"⟩ : MethodName) method_4_code 11 (some (.object "com/example/fuzzsub/fuzzsub/service/SparseVector")) rm_own_make #[(.int e0), (.int e1), (.int e2), (.int s0), (.int s1), (.int s2), (.int b)] (L) (fun v M => ∃ a d q, v = some (.ref a) ∧ M = (a, own_ob Z "com/example/fuzzsub/fuzzsub/service/SparseVector" [("dimensions", "[I", (.ref d)), ("values", "[D", (.ref q))]) :: (q, own_ar Z .double ((own_sel e0 e1 e2 s0 s1 s2 b).map fun p => Value.double p.2)) :: (d, own_ar Z .int ((own_sel e0 e1 e2 s0 s1 s2 b).map fun p => Value.int p.1)) :: L) := by
  refine own_con (ls := #[.val (.int e0), .val (.int e1), .val (.int e2), .val (.int s0), .val (.int s1), .val (.int s2), .val (.int b), .unset, .unset, .unset, .unset]) (plainFor_of_name own_pn1) (fun m => own_ent m rfl) ?_
  intro p e s m below meth c T C X
  refine k_iloadN C X d_method_4_code_0 rfl rfl ?_
  refine k_if_eq C X d_method_4_code_1 rfl (tpc := 8) rfl (fun h1 => ?_) (fun h1 => ?_)
  · skip
    refine k_iconst C X d_method_4_code_8 rfl (v := 0) rfl ?_
    refine k_iloadN C X d_method_4_code_9 rfl rfl ?_
    refine k_if_eq C X d_method_4_code_10 rfl (tpc := 17) rfl (fun h10 => ?_) (fun h10 => ?_)
    · skip
      refine k_iconst C X d_method_4_code_17 rfl (v := 0) rfl ?_
      refine k_iadd C X d_method_4_code_18 rfl ?_
      refine k_iloadN C X d_method_4_code_19 rfl rfl ?_
      refine k_if_eq C X d_method_4_code_20 rfl (tpc := 27) rfl (fun h20 => ?_) (fun h20 => ?_)
      · skip
        refine k_iconst C X d_method_4_code_27 rfl (v := 0) rfl ?_
        refine k_iadd C X d_method_4_code_28 rfl ?_
        refine k_istore C X d_method_4_code_29 rfl (l' := #[.val (.int e0), .val (.int e1), .val (.int e2), .val (.int s0), .val (.int s1), .val (.int s2), .val (.int b), .val (.int (0)), .unset, .unset, .unset]) rfl ?_
        refine k_iload C X d_method_4_code_31 rfl rfl ?_
        refine k_newarray C X d_method_4_code_33 rfl (ty := .int) rfl (hw _ (List.mem_of_getElem? (i := 11) rfl)) (by decide) (cap := 0) (by decide) (by decide) (by decide) (by decide) (vs := []) rfl (fun T o33 X => ?_)
        refine k_astore C X d_method_4_code_35 rfl rfl (l' := #[.val (.int e0), .val (.int e1), .val (.int e2), .val (.int s0), .val (.int s1), .val (.int s2), .val (.int b), .val (.int (0)), .val (.ref o33), .unset, .unset]) rfl ?_
        refine k_iload C X d_method_4_code_37 rfl rfl ?_
        refine k_newarray C X d_method_4_code_39 rfl (ty := .double) rfl (hw _ (List.mem_of_getElem? (i := 12) rfl)) (by decide) (cap := 0) (by decide) (by decide) (by decide) (by decide) (vs := []) rfl (fun T o39 X => ?_)
        refine k_astore C X d_method_4_code_41 rfl rfl (l' := #[.val (.int e0), .val (.int e1), .val (.int e2), .val (.int s0), .val (.int s1), .val (.int s2), .val (.int b), .val (.int (0)), .val (.ref o33), .val (.ref o39), .unset]) rfl ?_
        refine k_iconst C X d_method_4_code_43 rfl (v := 0) rfl ?_
        refine k_istore C X d_method_4_code_44 rfl (l' := #[.val (.int e0), .val (.int e1), .val (.int e2), .val (.int s0), .val (.int s1), .val (.int s2), .val (.int b), .val (.int (0)), .val (.ref o33), .val (.ref o39), .val (.int (0))]) rfl ?_
        refine k_iloadN C X d_method_4_code_46 rfl rfl ?_
        refine k_if_eq C X d_method_4_code_47 rfl (tpc := 70) rfl (fun _ => ?_) (fun hc => (hc h1 : False).elim)
        refine k_iloadN C X d_method_4_code_70 rfl rfl ?_
        refine k_if_eq C X d_method_4_code_71 rfl (tpc := 95) rfl (fun _ => ?_) (fun hc => (hc h10 : False).elim)
        refine k_iloadN C X d_method_4_code_95 rfl rfl ?_
        refine k_if_eq C X d_method_4_code_96 rfl (tpc := 120) rfl (fun _ => ?_) (fun hc => (hc h20 : False).elim)
        refine k_new C X d_method_4_code_120 rfl (hw _ (List.mem_of_getElem? (i := 16) rfl)) (hw _ (List.mem_of_getElem? (i := 17) rfl)) (hw _ (List.mem_of_getElem? (i := 18) rfl)) (own_lay_SparseVector hw) (fs := [("dimensions", "[I", .null), ("values", "[D", .null)]) rfl (by decide) (by decide) (fun T o120 X => ?_)
        refine k_dup C X d_method_4_code_123 rfl rfl ?_
        refine k_aload C X d_method_4_code_124 rfl rfl rfl ?_
        refine k_aload C X d_method_4_code_126 rfl rfl rfl ?_
        refine k_init C X d_method_4_code_128 rfl rfl (hw _ (List.mem_of_getElem? (i := 19) rfl)) (hw _ (List.mem_of_getElem? (i := 20) rfl)) (hw _ (List.mem_of_getElem? (i := 18) rfl)) (hw _ (List.mem_of_getElem? (i := 21) rfl)) (by decide) (own_sv l Z a0 hw o120 o33 o39 ((o39, own_ar Z .double []) :: (o33, own_ar Z .int []) :: L)) (W := 1) (argsL := [(.ref o33), (.ref o39)]) (rest := [(.ref o120)]) rfl rfl rfl own_pd0 rfl (Nat.le_of_eq rfl) (by decide) (by decide) (by decide) (by decide) (fun v T M hQ X => ?_)
        obtain ⟨rfl, rfl⟩ := hQ
        exact k_areturn C X d_method_4_code_131 rfl rfl rfl ⟨o120, o33, o39, rfl, by rw [own_sel_eq, if_pos h1, if_pos h10, if_pos h20]; rfl⟩ (by decide) (by decide)
      · skip
        refine k_iconst C X d_method_4_code_23 rfl (v := 1) rfl ?_
        refine k_goto C X d_method_4_code_24 (tpc := 28) rfl ?_
        refine k_iadd C X d_method_4_code_28 rfl ?_
        refine k_istore C X d_method_4_code_29 rfl (l' := #[.val (.int e0), .val (.int e1), .val (.int e2), .val (.int s0), .val (.int s1), .val (.int s2), .val (.int b), .val (.int (1)), .unset, .unset, .unset]) rfl ?_
        refine k_iload C X d_method_4_code_31 rfl rfl ?_
        refine k_newarray C X d_method_4_code_33 rfl (ty := .int) rfl (hw _ (List.mem_of_getElem? (i := 11) rfl)) (by decide) (cap := 1) (by decide) (by decide) (by decide) (by decide) (vs := [(.int 0)]) rfl (fun T o33 X => ?_)
        refine k_astore C X d_method_4_code_35 rfl rfl (l' := #[.val (.int e0), .val (.int e1), .val (.int e2), .val (.int s0), .val (.int s1), .val (.int s2), .val (.int b), .val (.int (1)), .val (.ref o33), .unset, .unset]) rfl ?_
        refine k_iload C X d_method_4_code_37 rfl rfl ?_
        refine k_newarray C X d_method_4_code_39 rfl (ty := .double) rfl (hw _ (List.mem_of_getElem? (i := 12) rfl)) (by decide) (cap := 1) (by decide) (by decide) (by decide) (by decide) (vs := [(.double 0)]) rfl (fun T o39 X => ?_)
        refine k_astore C X d_method_4_code_41 rfl rfl (l' := #[.val (.int e0), .val (.int e1), .val (.int e2), .val (.int s0), .val (.int s1), .val (.int s2), .val (.int b), .val (.int (1)), .val (.ref o33), .val (.ref o39), .unset]) rfl ?_
        refine k_iconst C X d_method_4_code_43 rfl (v := 0) rfl ?_
        refine k_istore C X d_method_4_code_44 rfl (l' := #[.val (.int e0), .val (.int e1), .val (.int e2), .val (.int s0), .val (.int s1), .val (.int s2), .val (.int b), .val (.int (1)), .val (.ref o33), .val (.ref o39), .val (.int (0))]) rfl ?_
        refine k_iloadN C X d_method_4_code_46 rfl rfl ?_
        refine k_if_eq C X d_method_4_code_47 rfl (tpc := 70) rfl (fun _ => ?_) (fun hc => (hc h1 : False).elim)
        refine k_iloadN C X d_method_4_code_70 rfl rfl ?_
        refine k_if_eq C X d_method_4_code_71 rfl (tpc := 95) rfl (fun _ => ?_) (fun hc => (hc h10 : False).elim)
        refine k_iloadN C X d_method_4_code_95 rfl rfl ?_
        refine k_if_eq C X d_method_4_code_96 rfl (tpc := 120) rfl (fun hc => (h20 hc : False).elim) (fun _ => ?_)
        refine k_aload C X d_method_4_code_99 rfl rfl rfl ?_
        refine k_iload C X d_method_4_code_101 rfl rfl ?_
        refine k_iload C X d_method_4_code_103 rfl rfl ?_
        refine k_iastore C X d_method_4_code_105 rfl (ix := 1) (i := 0) rfl (by decide) (by decide) (Nat.le_of_ble_eq_true rfl) (vs' := [(.int s2)]) rfl (L' := (o39, own_ar Z .double [(.double 0)]) :: (o33, own_ar Z .int [(.int s2)]) :: L) rfl (fun T X => ?_)
        refine k_aload C X d_method_4_code_106 rfl rfl rfl ?_
        refine k_iload C X d_method_4_code_108 rfl rfl ?_
        refine k_iload C X d_method_4_code_110 rfl rfl ?_
        refine k_iconst C X d_method_4_code_112 rfl (v := 2) rfl ?_
        refine k_static C X d_method_4_code_113 rfl (hw _ (List.mem_of_getElem? (i := 13) rfl)) (hw _ (List.mem_of_getElem? (i := 14) rfl)) (hw _ (List.mem_of_getElem? (i := 9) rfl)) (hw _ (List.mem_of_getElem? (i := 15) rfl)) (by decide) (own_cval l Z a0 hw b (2) ((o39, own_ar Z .double [(.double 0)]) :: (o33, own_ar Z .int [(.int s2)]) :: L)) (W := 2) (argsL := [(.int b), (.int (2))]) (rest := [(.int (0)), (.ref o39)]) rfl rfl rfl own_pd1 rfl (Nat.le_of_eq rfl) (by decide) (by decide) (by decide) (by decide) (fun v T M hQ X => ?_)
        obtain ⟨rfl, rfl⟩ := hQ
        refine k_dastore C X d_method_4_code_116 rfl (ix := 0) (i := 0) rfl (by decide) (by decide) (Nat.le_of_ble_eq_true rfl) (vs' := [(.double (FP.i2d (own_val b (2))))]) rfl (L' := (o39, own_ar Z .double [(.double (FP.i2d (own_val b (2))))]) :: (o33, own_ar Z .int [(.int s2)]) :: L) rfl (fun T X => ?_)
        refine k_iinc C X d_method_4_code_117 rfl (v := 1) rfl rfl (l' := #[.val (.int e0), .val (.int e1), .val (.int e2), .val (.int s0), .val (.int s1), .val (.int s2), .val (.int b), .val (.int (1)), .val (.ref o33), .val (.ref o39), .val (.int (1))]) rfl ?_
        refine k_new C X d_method_4_code_120 rfl (hw _ (List.mem_of_getElem? (i := 16) rfl)) (hw _ (List.mem_of_getElem? (i := 17) rfl)) (hw _ (List.mem_of_getElem? (i := 18) rfl)) (own_lay_SparseVector hw) (fs := [("dimensions", "[I", .null), ("values", "[D", .null)]) rfl (by decide) (by decide) (fun T o120 X => ?_)
        refine k_dup C X d_method_4_code_123 rfl rfl ?_
        refine k_aload C X d_method_4_code_124 rfl rfl rfl ?_
        refine k_aload C X d_method_4_code_126 rfl rfl rfl ?_
        refine k_init C X d_method_4_code_128 rfl rfl (hw _ (List.mem_of_getElem? (i := 19) rfl)) (hw _ (List.mem_of_getElem? (i := 20) rfl)) (hw _ (List.mem_of_getElem? (i := 18) rfl)) (hw _ (List.mem_of_getElem? (i := 21) rfl)) (by decide) (own_sv l Z a0 hw o120 o33 o39 ((o39, own_ar Z .double [(.double (FP.i2d (own_val b (2))))]) :: (o33, own_ar Z .int [(.int s2)]) :: L)) (W := 1) (argsL := [(.ref o33), (.ref o39)]) (rest := [(.ref o120)]) rfl rfl rfl own_pd0 rfl (Nat.le_of_eq rfl) (by decide) (by decide) (by decide) (by decide) (fun v T M hQ X => ?_)
        obtain ⟨rfl, rfl⟩ := hQ
        exact k_areturn C X d_method_4_code_131 rfl rfl rfl ⟨o120, o33, o39, rfl, by rw [own_sel_eq, if_pos h1, if_pos h10, if_neg h20]; rfl⟩ (by decide) (by decide)
    · skip
      refine k_iconst C X d_method_4_code_13 rfl (v := 1) rfl ?_
      refine k_goto C X d_method_4_code_14 (tpc := 18) rfl ?_
      refine k_iadd C X d_method_4_code_18 rfl ?_
      refine k_iloadN C X d_method_4_code_19 rfl rfl ?_
      refine k_if_eq C X d_method_4_code_20 rfl (tpc := 27) rfl (fun h20 => ?_) (fun h20 => ?_)
      · skip
        refine k_iconst C X d_method_4_code_27 rfl (v := 0) rfl ?_
        refine k_iadd C X d_method_4_code_28 rfl ?_
        refine k_istore C X d_method_4_code_29 rfl (l' := #[.val (.int e0), .val (.int e1), .val (.int e2), .val (.int s0), .val (.int s1), .val (.int s2), .val (.int b), .val (.int (1)), .unset, .unset, .unset]) rfl ?_
        refine k_iload C X d_method_4_code_31 rfl rfl ?_
        refine k_newarray C X d_method_4_code_33 rfl (ty := .int) rfl (hw _ (List.mem_of_getElem? (i := 11) rfl)) (by decide) (cap := 1) (by decide) (by decide) (by decide) (by decide) (vs := [(.int 0)]) rfl (fun T o33 X => ?_)
        refine k_astore C X d_method_4_code_35 rfl rfl (l' := #[.val (.int e0), .val (.int e1), .val (.int e2), .val (.int s0), .val (.int s1), .val (.int s2), .val (.int b), .val (.int (1)), .val (.ref o33), .unset, .unset]) rfl ?_
        refine k_iload C X d_method_4_code_37 rfl rfl ?_
        refine k_newarray C X d_method_4_code_39 rfl (ty := .double) rfl (hw _ (List.mem_of_getElem? (i := 12) rfl)) (by decide) (cap := 1) (by decide) (by decide) (by decide) (by decide) (vs := [(.double 0)]) rfl (fun T o39 X => ?_)
        refine k_astore C X d_method_4_code_41 rfl rfl (l' := #[.val (.int e0), .val (.int e1), .val (.int e2), .val (.int s0), .val (.int s1), .val (.int s2), .val (.int b), .val (.int (1)), .val (.ref o33), .val (.ref o39), .unset]) rfl ?_
        refine k_iconst C X d_method_4_code_43 rfl (v := 0) rfl ?_
        refine k_istore C X d_method_4_code_44 rfl (l' := #[.val (.int e0), .val (.int e1), .val (.int e2), .val (.int s0), .val (.int s1), .val (.int s2), .val (.int b), .val (.int (1)), .val (.ref o33), .val (.ref o39), .val (.int (0))]) rfl ?_
        refine k_iloadN C X d_method_4_code_46 rfl rfl ?_
        refine k_if_eq C X d_method_4_code_47 rfl (tpc := 70) rfl (fun _ => ?_) (fun hc => (hc h1 : False).elim)
        refine k_iloadN C X d_method_4_code_70 rfl rfl ?_
        refine k_if_eq C X d_method_4_code_71 rfl (tpc := 95) rfl (fun hc => (h10 hc : False).elim) (fun _ => ?_)
        refine k_aload C X d_method_4_code_74 rfl rfl rfl ?_
        refine k_iload C X d_method_4_code_76 rfl rfl ?_
        refine k_iload C X d_method_4_code_78 rfl rfl ?_
        refine k_iastore C X d_method_4_code_80 rfl (ix := 1) (i := 0) rfl (by decide) (by decide) (Nat.le_of_ble_eq_true rfl) (vs' := [(.int s1)]) rfl (L' := (o39, own_ar Z .double [(.double 0)]) :: (o33, own_ar Z .int [(.int s1)]) :: L) rfl (fun T X => ?_)
        refine k_aload C X d_method_4_code_81 rfl rfl rfl ?_
        refine k_iload C X d_method_4_code_83 rfl rfl ?_
        refine k_iload C X d_method_4_code_85 rfl rfl ?_
        refine k_iconst C X d_method_4_code_87 rfl (v := 1) rfl ?_
        refine k_static C X d_method_4_code_88 rfl (hw _ (List.mem_of_getElem? (i := 13) rfl)) (hw _ (List.mem_of_getElem? (i := 14) rfl)) (hw _ (List.mem_of_getElem? (i := 9) rfl)) (hw _ (List.mem_of_getElem? (i := 15) rfl)) (by decide) (own_cval l Z a0 hw b (1) ((o39, own_ar Z .double [(.double 0)]) :: (o33, own_ar Z .int [(.int s1)]) :: L)) (W := 2) (argsL := [(.int b), (.int (1))]) (rest := [(.int (0)), (.ref o39)]) rfl rfl rfl own_pd1 rfl (Nat.le_of_eq rfl) (by decide) (by decide) (by decide) (by decide) (fun v T M hQ X => ?_)
        obtain ⟨rfl, rfl⟩ := hQ
        refine k_dastore C X d_method_4_code_91 rfl (ix := 0) (i := 0) rfl (by decide) (by decide) (Nat.le_of_ble_eq_true rfl) (vs' := [(.double (FP.i2d (own_val b (1))))]) rfl (L' := (o39, own_ar Z .double [(.double (FP.i2d (own_val b (1))))]) :: (o33, own_ar Z .int [(.int s1)]) :: L) rfl (fun T X => ?_)
        refine k_iinc C X d_method_4_code_92 rfl (v := 1) rfl rfl (l' := #[.val (.int e0), .val (.int e1), .val (.int e2), .val (.int s0), .val (.int s1), .val (.int s2), .val (.int b), .val (.int (1)), .val (.ref o33), .val (.ref o39), .val (.int (1))]) rfl ?_
        refine k_iloadN C X d_method_4_code_95 rfl rfl ?_
        refine k_if_eq C X d_method_4_code_96 rfl (tpc := 120) rfl (fun _ => ?_) (fun hc => (hc h20 : False).elim)
        refine k_new C X d_method_4_code_120 rfl (hw _ (List.mem_of_getElem? (i := 16) rfl)) (hw _ (List.mem_of_getElem? (i := 17) rfl)) (hw _ (List.mem_of_getElem? (i := 18) rfl)) (own_lay_SparseVector hw) (fs := [("dimensions", "[I", .null), ("values", "[D", .null)]) rfl (by decide) (by decide) (fun T o120 X => ?_)
        refine k_dup C X d_method_4_code_123 rfl rfl ?_
        refine k_aload C X d_method_4_code_124 rfl rfl rfl ?_
        refine k_aload C X d_method_4_code_126 rfl rfl rfl ?_
        refine k_init C X d_method_4_code_128 rfl rfl (hw _ (List.mem_of_getElem? (i := 19) rfl)) (hw _ (List.mem_of_getElem? (i := 20) rfl)) (hw _ (List.mem_of_getElem? (i := 18) rfl)) (hw _ (List.mem_of_getElem? (i := 21) rfl)) (by decide) (own_sv l Z a0 hw o120 o33 o39 ((o39, own_ar Z .double [(.double (FP.i2d (own_val b (1))))]) :: (o33, own_ar Z .int [(.int s1)]) :: L)) (W := 1) (argsL := [(.ref o33), (.ref o39)]) (rest := [(.ref o120)]) rfl rfl rfl own_pd0 rfl (Nat.le_of_eq rfl) (by decide) (by decide) (by decide) (by decide) (fun v T M hQ X => ?_)
        obtain ⟨rfl, rfl⟩ := hQ
        exact k_areturn C X d_method_4_code_131 rfl rfl rfl ⟨o120, o33, o39, rfl, by rw [own_sel_eq, if_pos h1, if_neg h10, if_pos h20]; rfl⟩ (by decide) (by decide)
      · skip
        refine k_iconst C X d_method_4_code_23 rfl (v := 1) rfl ?_
        refine k_goto C X d_method_4_code_24 (tpc := 28) rfl ?_
        refine k_iadd C X d_method_4_code_28 rfl ?_
        refine k_istore C X d_method_4_code_29 rfl (l' := #[.val (.int e0), .val (.int e1), .val (.int e2), .val (.int s0), .val (.int s1), .val (.int s2), .val (.int b), .val (.int (2)), .unset, .unset, .unset]) rfl ?_
        refine k_iload C X d_method_4_code_31 rfl rfl ?_
        refine k_newarray C X d_method_4_code_33 rfl (ty := .int) rfl (hw _ (List.mem_of_getElem? (i := 11) rfl)) (by decide) (cap := 2) (by decide) (by decide) (by decide) (by decide) (vs := [(.int 0), (.int 0)]) rfl (fun T o33 X => ?_)
        refine k_astore C X d_method_4_code_35 rfl rfl (l' := #[.val (.int e0), .val (.int e1), .val (.int e2), .val (.int s0), .val (.int s1), .val (.int s2), .val (.int b), .val (.int (2)), .val (.ref o33), .unset, .unset]) rfl ?_
        refine k_iload C X d_method_4_code_37 rfl rfl ?_
        refine k_newarray C X d_method_4_code_39 rfl (ty := .double) rfl (hw _ (List.mem_of_getElem? (i := 12) rfl)) (by decide) (cap := 2) (by decide) (by decide) (by decide) (by decide) (vs := [(.double 0), (.double 0)]) rfl (fun T o39 X => ?_)
        refine k_astore C X d_method_4_code_41 rfl rfl (l' := #[.val (.int e0), .val (.int e1), .val (.int e2), .val (.int s0), .val (.int s1), .val (.int s2), .val (.int b), .val (.int (2)), .val (.ref o33), .val (.ref o39), .unset]) rfl ?_
        refine k_iconst C X d_method_4_code_43 rfl (v := 0) rfl ?_
        refine k_istore C X d_method_4_code_44 rfl (l' := #[.val (.int e0), .val (.int e1), .val (.int e2), .val (.int s0), .val (.int s1), .val (.int s2), .val (.int b), .val (.int (2)), .val (.ref o33), .val (.ref o39), .val (.int (0))]) rfl ?_
        refine k_iloadN C X d_method_4_code_46 rfl rfl ?_
        refine k_if_eq C X d_method_4_code_47 rfl (tpc := 70) rfl (fun _ => ?_) (fun hc => (hc h1 : False).elim)
        refine k_iloadN C X d_method_4_code_70 rfl rfl ?_
        refine k_if_eq C X d_method_4_code_71 rfl (tpc := 95) rfl (fun hc => (h10 hc : False).elim) (fun _ => ?_)
        refine k_aload C X d_method_4_code_74 rfl rfl rfl ?_
        refine k_iload C X d_method_4_code_76 rfl rfl ?_
        refine k_iload C X d_method_4_code_78 rfl rfl ?_
        refine k_iastore C X d_method_4_code_80 rfl (ix := 1) (i := 0) rfl (by decide) (by decide) (Nat.le_of_ble_eq_true rfl) (vs' := [(.int s1), (.int 0)]) rfl (L' := (o39, own_ar Z .double [(.double 0), (.double 0)]) :: (o33, own_ar Z .int [(.int s1), (.int 0)]) :: L) rfl (fun T X => ?_)
        refine k_aload C X d_method_4_code_81 rfl rfl rfl ?_
        refine k_iload C X d_method_4_code_83 rfl rfl ?_
        refine k_iload C X d_method_4_code_85 rfl rfl ?_
        refine k_iconst C X d_method_4_code_87 rfl (v := 1) rfl ?_
        refine k_static C X d_method_4_code_88 rfl (hw _ (List.mem_of_getElem? (i := 13) rfl)) (hw _ (List.mem_of_getElem? (i := 14) rfl)) (hw _ (List.mem_of_getElem? (i := 9) rfl)) (hw _ (List.mem_of_getElem? (i := 15) rfl)) (by decide) (own_cval l Z a0 hw b (1) ((o39, own_ar Z .double [(.double 0), (.double 0)]) :: (o33, own_ar Z .int [(.int s1), (.int 0)]) :: L)) (W := 2) (argsL := [(.int b), (.int (1))]) (rest := [(.int (0)), (.ref o39)]) rfl rfl rfl own_pd1 rfl (Nat.le_of_eq rfl) (by decide) (by decide) (by decide) (by decide) (fun v T M hQ X => ?_)
        obtain ⟨rfl, rfl⟩ := hQ
        refine k_dastore C X d_method_4_code_91 rfl (ix := 0) (i := 0) rfl (by decide) (by decide) (Nat.le_of_ble_eq_true rfl) (vs' := [(.double (FP.i2d (own_val b (1)))), (.double 0)]) rfl (L' := (o39, own_ar Z .double [(.double (FP.i2d (own_val b (1)))), (.double 0)]) :: (o33, own_ar Z .int [(.int s1), (.int 0)]) :: L) rfl (fun T X => ?_)
        refine k_iinc C X d_method_4_code_92 rfl (v := 1) rfl rfl (l' := #[.val (.int e0), .val (.int e1), .val (.int e2), .val (.int s0), .val (.int s1), .val (.int s2), .val (.int b), .val (.int (2)), .val (.ref o33), .val (.ref o39), .val (.int (1))]) rfl ?_
        refine k_iloadN C X d_method_4_code_95 rfl rfl ?_
        refine k_if_eq C X d_method_4_code_96 rfl (tpc := 120) rfl (fun hc => (h20 hc : False).elim) (fun _ => ?_)
        refine k_aload C X d_method_4_code_99 rfl rfl rfl ?_
        refine k_iload C X d_method_4_code_101 rfl rfl ?_
        refine k_iload C X d_method_4_code_103 rfl rfl ?_
        refine k_iastore C X d_method_4_code_105 rfl (ix := 1) (i := 1) rfl (by decide) (by decide) (Nat.le_of_ble_eq_true rfl) (vs' := [(.int s1), (.int s2)]) rfl (L' := (o39, own_ar Z .double [(.double (FP.i2d (own_val b (1)))), (.double 0)]) :: (o33, own_ar Z .int [(.int s1), (.int s2)]) :: L) rfl (fun T X => ?_)
        refine k_aload C X d_method_4_code_106 rfl rfl rfl ?_
        refine k_iload C X d_method_4_code_108 rfl rfl ?_
        refine k_iload C X d_method_4_code_110 rfl rfl ?_
        refine k_iconst C X d_method_4_code_112 rfl (v := 2) rfl ?_
        refine k_static C X d_method_4_code_113 rfl (hw _ (List.mem_of_getElem? (i := 13) rfl)) (hw _ (List.mem_of_getElem? (i := 14) rfl)) (hw _ (List.mem_of_getElem? (i := 9) rfl)) (hw _ (List.mem_of_getElem? (i := 15) rfl)) (by decide) (own_cval l Z a0 hw b (2) ((o39, own_ar Z .double [(.double (FP.i2d (own_val b (1)))), (.double 0)]) :: (o33, own_ar Z .int [(.int s1), (.int s2)]) :: L)) (W := 2) (argsL := [(.int b), (.int (2))]) (rest := [(.int (1)), (.ref o39)]) rfl rfl rfl own_pd1 rfl (Nat.le_of_eq rfl) (by decide) (by decide) (by decide) (by decide) (fun v T M hQ X => ?_)
        obtain ⟨rfl, rfl⟩ := hQ
        refine k_dastore C X d_method_4_code_116 rfl (ix := 0) (i := 1) rfl (by decide) (by decide) (Nat.le_of_ble_eq_true rfl) (vs' := [(.double (FP.i2d (own_val b (1)))), (.double (FP.i2d (own_val b (2))))]) rfl (L' := (o39, own_ar Z .double [(.double (FP.i2d (own_val b (1)))), (.double (FP.i2d (own_val b (2))))]) :: (o33, own_ar Z .int [(.int s1), (.int s2)]) :: L) rfl (fun T X => ?_)
        refine k_iinc C X d_method_4_code_117 rfl (v := 1) rfl rfl (l' := #[.val (.int e0), .val (.int e1), .val (.int e2), .val (.int s0), .val (.int s1), .val (.int s2), .val (.int b), .val (.int (2)), .val (.ref o33), .val (.ref o39), .val (.int (2))]) rfl ?_
        refine k_new C X d_method_4_code_120 rfl (hw _ (List.mem_of_getElem? (i := 16) rfl)) (hw _ (List.mem_of_getElem? (i := 17) rfl)) (hw _ (List.mem_of_getElem? (i := 18) rfl)) (own_lay_SparseVector hw) (fs := [("dimensions", "[I", .null), ("values", "[D", .null)]) rfl (by decide) (by decide) (fun T o120 X => ?_)
        refine k_dup C X d_method_4_code_123 rfl rfl ?_
        refine k_aload C X d_method_4_code_124 rfl rfl rfl ?_
        refine k_aload C X d_method_4_code_126 rfl rfl rfl ?_
        refine k_init C X d_method_4_code_128 rfl rfl (hw _ (List.mem_of_getElem? (i := 19) rfl)) (hw _ (List.mem_of_getElem? (i := 20) rfl)) (hw _ (List.mem_of_getElem? (i := 18) rfl)) (hw _ (List.mem_of_getElem? (i := 21) rfl)) (by decide) (own_sv l Z a0 hw o120 o33 o39 ((o39, own_ar Z .double [(.double (FP.i2d (own_val b (1)))), (.double (FP.i2d (own_val b (2))))]) :: (o33, own_ar Z .int [(.int s1), (.int s2)]) :: L)) (W := 1) (argsL := [(.ref o33), (.ref o39)]) (rest := [(.ref o120)]) rfl rfl rfl own_pd0 rfl (Nat.le_of_eq rfl) (by decide) (by decide) (by decide) (by decide) (fun v T M hQ X => ?_)
        obtain ⟨rfl, rfl⟩ := hQ
        exact k_areturn C X d_method_4_code_131 rfl rfl rfl ⟨o120, o33, o39, rfl, by rw [own_sel_eq, if_pos h1, if_neg h10, if_neg h20]; rfl⟩ (by decide) (by decide)
  · skip
    refine k_iconst C X d_method_4_code_4 rfl (v := 1) rfl ?_
    refine k_goto C X d_method_4_code_5 (tpc := 9) rfl ?_
    refine k_iloadN C X d_method_4_code_9 rfl rfl ?_
    refine k_if_eq C X d_method_4_code_10 rfl (tpc := 17) rfl (fun h10 => ?_) (fun h10 => ?_)
    · skip
      refine k_iconst C X d_method_4_code_17 rfl (v := 0) rfl ?_
      refine k_iadd C X d_method_4_code_18 rfl ?_
      refine k_iloadN C X d_method_4_code_19 rfl rfl ?_
      refine k_if_eq C X d_method_4_code_20 rfl (tpc := 27) rfl (fun h20 => ?_) (fun h20 => ?_)
      · skip
        refine k_iconst C X d_method_4_code_27 rfl (v := 0) rfl ?_
        refine k_iadd C X d_method_4_code_28 rfl ?_
        refine k_istore C X d_method_4_code_29 rfl (l' := #[.val (.int e0), .val (.int e1), .val (.int e2), .val (.int s0), .val (.int s1), .val (.int s2), .val (.int b), .val (.int (1)), .unset, .unset, .unset]) rfl ?_
        refine k_iload C X d_method_4_code_31 rfl rfl ?_
        refine k_newarray C X d_method_4_code_33 rfl (ty := .int) rfl (hw _ (List.mem_of_getElem? (i := 11) rfl)) (by decide) (cap := 1) (by decide) (by decide) (by decide) (by decide) (vs := [(.int 0)]) rfl (fun T o33 X => ?_)
        refine k_astore C X d_method_4_code_35 rfl rfl (l' := #[.val (.int e0), .val (.int e1), .val (.int e2), .val (.int s0), .val (.int s1), .val (.int s2), .val (.int b), .val (.int (1)), .val (.ref o33), .unset, .unset]) rfl ?_
        refine k_iload C X d_method_4_code_37 rfl rfl ?_
        refine k_newarray C X d_method_4_code_39 rfl (ty := .double) rfl (hw _ (List.mem_of_getElem? (i := 12) rfl)) (by decide) (cap := 1) (by decide) (by decide) (by decide) (by decide) (vs := [(.double 0)]) rfl (fun T o39 X => ?_)
        refine k_astore C X d_method_4_code_41 rfl rfl (l' := #[.val (.int e0), .val (.int e1), .val (.int e2), .val (.int s0), .val (.int s1), .val (.int s2), .val (.int b), .val (.int (1)), .val (.ref o33), .val (.ref o39), .unset]) rfl ?_
        refine k_iconst C X d_method_4_code_43 rfl (v := 0) rfl ?_
        refine k_istore C X d_method_4_code_44 rfl (l' := #[.val (.int e0), .val (.int e1), .val (.int e2), .val (.int s0), .val (.int s1), .val (.int s2), .val (.int b), .val (.int (1)), .val (.ref o33), .val (.ref o39), .val (.int (0))]) rfl ?_
        refine k_iloadN C X d_method_4_code_46 rfl rfl ?_
        refine k_if_eq C X d_method_4_code_47 rfl (tpc := 70) rfl (fun hc => (h1 hc : False).elim) (fun _ => ?_)
        refine k_aload C X d_method_4_code_50 rfl rfl rfl ?_
        refine k_iload C X d_method_4_code_52 rfl rfl ?_
        refine k_iloadN C X d_method_4_code_54 rfl rfl ?_
        refine k_iastore C X d_method_4_code_55 rfl (ix := 1) (i := 0) rfl (by decide) (by decide) (Nat.le_of_ble_eq_true rfl) (vs' := [(.int s0)]) rfl (L' := (o39, own_ar Z .double [(.double 0)]) :: (o33, own_ar Z .int [(.int s0)]) :: L) rfl (fun T X => ?_)
        refine k_aload C X d_method_4_code_56 rfl rfl rfl ?_
        refine k_iload C X d_method_4_code_58 rfl rfl ?_
        refine k_iload C X d_method_4_code_60 rfl rfl ?_
        refine k_iconst C X d_method_4_code_62 rfl (v := 0) rfl ?_
        refine k_static C X d_method_4_code_63 rfl (hw _ (List.mem_of_getElem? (i := 13) rfl)) (hw _ (List.mem_of_getElem? (i := 14) rfl)) (hw _ (List.mem_of_getElem? (i := 9) rfl)) (hw _ (List.mem_of_getElem? (i := 15) rfl)) (by decide) (own_cval l Z a0 hw b (0) ((o39, own_ar Z .double [(.double 0)]) :: (o33, own_ar Z .int [(.int s0)]) :: L)) (W := 2) (argsL := [(.int b), (.int (0))]) (rest := [(.int (0)), (.ref o39)]) rfl rfl rfl own_pd1 rfl (Nat.le_of_eq rfl) (by decide) (by decide) (by decide) (by decide) (fun v T M hQ X => ?_)
        obtain ⟨rfl, rfl⟩ := hQ
        refine k_dastore C X d_method_4_code_66 rfl (ix := 0) (i := 0) rfl (by decide) (by decide) (Nat.le_of_ble_eq_true rfl) (vs' := [(.double (FP.i2d (own_val b (0))))]) rfl (L' := (o39, own_ar Z .double [(.double (FP.i2d (own_val b (0))))]) :: (o33, own_ar Z .int [(.int s0)]) :: L) rfl (fun T X => ?_)
        refine k_iinc C X d_method_4_code_67 rfl (v := 1) rfl rfl (l' := #[.val (.int e0), .val (.int e1), .val (.int e2), .val (.int s0), .val (.int s1), .val (.int s2), .val (.int b), .val (.int (1)), .val (.ref o33), .val (.ref o39), .val (.int (1))]) rfl ?_
        refine k_iloadN C X d_method_4_code_70 rfl rfl ?_
        refine k_if_eq C X d_method_4_code_71 rfl (tpc := 95) rfl (fun _ => ?_) (fun hc => (hc h10 : False).elim)
        refine k_iloadN C X d_method_4_code_95 rfl rfl ?_
        refine k_if_eq C X d_method_4_code_96 rfl (tpc := 120) rfl (fun _ => ?_) (fun hc => (hc h20 : False).elim)
        refine k_new C X d_method_4_code_120 rfl (hw _ (List.mem_of_getElem? (i := 16) rfl)) (hw _ (List.mem_of_getElem? (i := 17) rfl)) (hw _ (List.mem_of_getElem? (i := 18) rfl)) (own_lay_SparseVector hw) (fs := [("dimensions", "[I", .null), ("values", "[D", .null)]) rfl (by decide) (by decide) (fun T o120 X => ?_)
        refine k_dup C X d_method_4_code_123 rfl rfl ?_
        refine k_aload C X d_method_4_code_124 rfl rfl rfl ?_
        refine k_aload C X d_method_4_code_126 rfl rfl rfl ?_
        refine k_init C X d_method_4_code_128 rfl rfl (hw _ (List.mem_of_getElem? (i := 19) rfl)) (hw _ (List.mem_of_getElem? (i := 20) rfl)) (hw _ (List.mem_of_getElem? (i := 18) rfl)) (hw _ (List.mem_of_getElem? (i := 21) rfl)) (by decide) (own_sv l Z a0 hw o120 o33 o39 ((o39, own_ar Z .double [(.double (FP.i2d (own_val b (0))))]) :: (o33, own_ar Z .int [(.int s0)]) :: L)) (W := 1) (argsL := [(.ref o33), (.ref o39)]) (rest := [(.ref o120)]) rfl rfl rfl own_pd0 rfl (Nat.le_of_eq rfl) (by decide) (by decide) (by decide) (by decide) (fun v T M hQ X => ?_)
        obtain ⟨rfl, rfl⟩ := hQ
        exact k_areturn C X d_method_4_code_131 rfl rfl rfl ⟨o120, o33, o39, rfl, by rw [own_sel_eq, if_neg h1, if_pos h10, if_pos h20]; rfl⟩ (by decide) (by decide)
      · skip
        refine k_iconst C X d_method_4_code_23 rfl (v := 1) rfl ?_
        refine k_goto C X d_method_4_code_24 (tpc := 28) rfl ?_
        refine k_iadd C X d_method_4_code_28 rfl ?_
        refine k_istore C X d_method_4_code_29 rfl (l' := #[.val (.int e0), .val (.int e1), .val (.int e2), .val (.int s0), .val (.int s1), .val (.int s2), .val (.int b), .val (.int (2)), .unset, .unset, .unset]) rfl ?_
        refine k_iload C X d_method_4_code_31 rfl rfl ?_
        refine k_newarray C X d_method_4_code_33 rfl (ty := .int) rfl (hw _ (List.mem_of_getElem? (i := 11) rfl)) (by decide) (cap := 2) (by decide) (by decide) (by decide) (by decide) (vs := [(.int 0), (.int 0)]) rfl (fun T o33 X => ?_)
        refine k_astore C X d_method_4_code_35 rfl rfl (l' := #[.val (.int e0), .val (.int e1), .val (.int e2), .val (.int s0), .val (.int s1), .val (.int s2), .val (.int b), .val (.int (2)), .val (.ref o33), .unset, .unset]) rfl ?_
        refine k_iload C X d_method_4_code_37 rfl rfl ?_
        refine k_newarray C X d_method_4_code_39 rfl (ty := .double) rfl (hw _ (List.mem_of_getElem? (i := 12) rfl)) (by decide) (cap := 2) (by decide) (by decide) (by decide) (by decide) (vs := [(.double 0), (.double 0)]) rfl (fun T o39 X => ?_)
        refine k_astore C X d_method_4_code_41 rfl rfl (l' := #[.val (.int e0), .val (.int e1), .val (.int e2), .val (.int s0), .val (.int s1), .val (.int s2), .val (.int b), .val (.int (2)), .val (.ref o33), .val (.ref o39), .unset]) rfl ?_
        refine k_iconst C X d_method_4_code_43 rfl (v := 0) rfl ?_
        refine k_istore C X d_method_4_code_44 rfl (l' := #[.val (.int e0), .val (.int e1), .val (.int e2), .val (.int s0), .val (.int s1), .val (.int s2), .val (.int b), .val (.int (2)), .val (.ref o33), .val (.ref o39), .val (.int (0))]) rfl ?_
        refine k_iloadN C X d_method_4_code_46 rfl rfl ?_
        refine k_if_eq C X d_method_4_code_47 rfl (tpc := 70) rfl (fun hc => (h1 hc : False).elim) (fun _ => ?_)
        refine k_aload C X d_method_4_code_50 rfl rfl rfl ?_
        refine k_iload C X d_method_4_code_52 rfl rfl ?_
        refine k_iloadN C X d_method_4_code_54 rfl rfl ?_
        refine k_iastore C X d_method_4_code_55 rfl (ix := 1) (i := 0) rfl (by decide) (by decide) (Nat.le_of_ble_eq_true rfl) (vs' := [(.int s0), (.int 0)]) rfl (L' := (o39, own_ar Z .double [(.double 0), (.double 0)]) :: (o33, own_ar Z .int [(.int s0), (.int 0)]) :: L) rfl (fun T X => ?_)
        refine k_aload C X d_method_4_code_56 rfl rfl rfl ?_
        refine k_iload C X d_method_4_code_58 rfl rfl ?_
        refine k_iload C X d_method_4_code_60 rfl rfl ?_
        refine k_iconst C X d_method_4_code_62 rfl (v := 0) rfl ?_
        refine k_static C X d_method_4_code_63 rfl (hw _ (List.mem_of_getElem? (i := 13) rfl)) (hw _ (List.mem_of_getElem? (i := 14) rfl)) (hw _ (List.mem_of_getElem? (i := 9) rfl)) (hw _ (List.mem_of_getElem? (i := 15) rfl)) (by decide) (own_cval l Z a0 hw b (0) ((o39, own_ar Z .double [(.double 0), (.double 0)]) :: (o33, own_ar Z .int [(.int s0), (.int 0)]) :: L)) (W := 2) (argsL := [(.int b), (.int (0))]) (rest := [(.int (0)), (.ref o39)]) rfl rfl rfl own_pd1 rfl (Nat.le_of_eq rfl) (by decide) (by decide) (by decide) (by decide) (fun v T M hQ X => ?_)
        obtain ⟨rfl, rfl⟩ := hQ
        refine k_dastore C X d_method_4_code_66 rfl (ix := 0) (i := 0) rfl (by decide) (by decide) (Nat.le_of_ble_eq_true rfl) (vs' := [(.double (FP.i2d (own_val b (0)))), (.double 0)]) rfl (L' := (o39, own_ar Z .double [(.double (FP.i2d (own_val b (0)))), (.double 0)]) :: (o33, own_ar Z .int [(.int s0), (.int 0)]) :: L) rfl (fun T X => ?_)
        refine k_iinc C X d_method_4_code_67 rfl (v := 1) rfl rfl (l' := #[.val (.int e0), .val (.int e1), .val (.int e2), .val (.int s0), .val (.int s1), .val (.int s2), .val (.int b), .val (.int (2)), .val (.ref o33), .val (.ref o39), .val (.int (1))]) rfl ?_
        refine k_iloadN C X d_method_4_code_70 rfl rfl ?_
        refine k_if_eq C X d_method_4_code_71 rfl (tpc := 95) rfl (fun _ => ?_) (fun hc => (hc h10 : False).elim)
        refine k_iloadN C X d_method_4_code_95 rfl rfl ?_
        refine k_if_eq C X d_method_4_code_96 rfl (tpc := 120) rfl (fun hc => (h20 hc : False).elim) (fun _ => ?_)
        refine k_aload C X d_method_4_code_99 rfl rfl rfl ?_
        refine k_iload C X d_method_4_code_101 rfl rfl ?_
        refine k_iload C X d_method_4_code_103 rfl rfl ?_
        refine k_iastore C X d_method_4_code_105 rfl (ix := 1) (i := 1) rfl (by decide) (by decide) (Nat.le_of_ble_eq_true rfl) (vs' := [(.int s0), (.int s2)]) rfl (L' := (o39, own_ar Z .double [(.double (FP.i2d (own_val b (0)))), (.double 0)]) :: (o33, own_ar Z .int [(.int s0), (.int s2)]) :: L) rfl (fun T X => ?_)
        refine k_aload C X d_method_4_code_106 rfl rfl rfl ?_
        refine k_iload C X d_method_4_code_108 rfl rfl ?_
        refine k_iload C X d_method_4_code_110 rfl rfl ?_
        refine k_iconst C X d_method_4_code_112 rfl (v := 2) rfl ?_
        refine k_static C X d_method_4_code_113 rfl (hw _ (List.mem_of_getElem? (i := 13) rfl)) (hw _ (List.mem_of_getElem? (i := 14) rfl)) (hw _ (List.mem_of_getElem? (i := 9) rfl)) (hw _ (List.mem_of_getElem? (i := 15) rfl)) (by decide) (own_cval l Z a0 hw b (2) ((o39, own_ar Z .double [(.double (FP.i2d (own_val b (0)))), (.double 0)]) :: (o33, own_ar Z .int [(.int s0), (.int s2)]) :: L)) (W := 2) (argsL := [(.int b), (.int (2))]) (rest := [(.int (1)), (.ref o39)]) rfl rfl rfl own_pd1 rfl (Nat.le_of_eq rfl) (by decide) (by decide) (by decide) (by decide) (fun v T M hQ X => ?_)
        obtain ⟨rfl, rfl⟩ := hQ
        refine k_dastore C X d_method_4_code_116 rfl (ix := 0) (i := 1) rfl (by decide) (by decide) (Nat.le_of_ble_eq_true rfl) (vs' := [(.double (FP.i2d (own_val b (0)))), (.double (FP.i2d (own_val b (2))))]) rfl (L' := (o39, own_ar Z .double [(.double (FP.i2d (own_val b (0)))), (.double (FP.i2d (own_val b (2))))]) :: (o33, own_ar Z .int [(.int s0), (.int s2)]) :: L) rfl (fun T X => ?_)
        refine k_iinc C X d_method_4_code_117 rfl (v := 1) rfl rfl (l' := #[.val (.int e0), .val (.int e1), .val (.int e2), .val (.int s0), .val (.int s1), .val (.int s2), .val (.int b), .val (.int (2)), .val (.ref o33), .val (.ref o39), .val (.int (2))]) rfl ?_
        refine k_new C X d_method_4_code_120 rfl (hw _ (List.mem_of_getElem? (i := 16) rfl)) (hw _ (List.mem_of_getElem? (i := 17) rfl)) (hw _ (List.mem_of_getElem? (i := 18) rfl)) (own_lay_SparseVector hw) (fs := [("dimensions", "[I", .null), ("values", "[D", .null)]) rfl (by decide) (by decide) (fun T o120 X => ?_)
        refine k_dup C X d_method_4_code_123 rfl rfl ?_
        refine k_aload C X d_method_4_code_124 rfl rfl rfl ?_
        refine k_aload C X d_method_4_code_126 rfl rfl rfl ?_
        refine k_init C X d_method_4_code_128 rfl rfl (hw _ (List.mem_of_getElem? (i := 19) rfl)) (hw _ (List.mem_of_getElem? (i := 20) rfl)) (hw _ (List.mem_of_getElem? (i := 18) rfl)) (hw _ (List.mem_of_getElem? (i := 21) rfl)) (by decide) (own_sv l Z a0 hw o120 o33 o39 ((o39, own_ar Z .double [(.double (FP.i2d (own_val b (0)))), (.double (FP.i2d (own_val b (2))))]) :: (o33, own_ar Z .int [(.int s0), (.int s2)]) :: L)) (W := 1) (argsL := [(.ref o33), (.ref o39)]) (rest := [(.ref o120)]) rfl rfl rfl own_pd0 rfl (Nat.le_of_eq rfl) (by decide) (by decide) (by decide) (by decide) (fun v T M hQ X => ?_)
        obtain ⟨rfl, rfl⟩ := hQ
        exact k_areturn C X d_method_4_code_131 rfl rfl rfl ⟨o120, o33, o39, rfl, by rw [own_sel_eq, if_neg h1, if_pos h10, if_neg h20]; rfl⟩ (by decide) (by decide)
    · skip
      refine k_iconst C X d_method_4_code_13 rfl (v := 1) rfl ?_
      refine k_goto C X d_method_4_code_14 (tpc := 18) rfl ?_
      refine k_iadd C X d_method_4_code_18 rfl ?_
      refine k_iloadN C X d_method_4_code_19 rfl rfl ?_
      refine k_if_eq C X d_method_4_code_20 rfl (tpc := 27) rfl (fun h20 => ?_) (fun h20 => ?_)
      · skip
        refine k_iconst C X d_method_4_code_27 rfl (v := 0) rfl ?_
        refine k_iadd C X d_method_4_code_28 rfl ?_
        refine k_istore C X d_method_4_code_29 rfl (l' := #[.val (.int e0), .val (.int e1), .val (.int e2), .val (.int s0), .val (.int s1), .val (.int s2), .val (.int b), .val (.int (2)), .unset, .unset, .unset]) rfl ?_
        refine k_iload C X d_method_4_code_31 rfl rfl ?_
        refine k_newarray C X d_method_4_code_33 rfl (ty := .int) rfl (hw _ (List.mem_of_getElem? (i := 11) rfl)) (by decide) (cap := 2) (by decide) (by decide) (by decide) (by decide) (vs := [(.int 0), (.int 0)]) rfl (fun T o33 X => ?_)
        refine k_astore C X d_method_4_code_35 rfl rfl (l' := #[.val (.int e0), .val (.int e1), .val (.int e2), .val (.int s0), .val (.int s1), .val (.int s2), .val (.int b), .val (.int (2)), .val (.ref o33), .unset, .unset]) rfl ?_
        refine k_iload C X d_method_4_code_37 rfl rfl ?_
        refine k_newarray C X d_method_4_code_39 rfl (ty := .double) rfl (hw _ (List.mem_of_getElem? (i := 12) rfl)) (by decide) (cap := 2) (by decide) (by decide) (by decide) (by decide) (vs := [(.double 0), (.double 0)]) rfl (fun T o39 X => ?_)
        refine k_astore C X d_method_4_code_41 rfl rfl (l' := #[.val (.int e0), .val (.int e1), .val (.int e2), .val (.int s0), .val (.int s1), .val (.int s2), .val (.int b), .val (.int (2)), .val (.ref o33), .val (.ref o39), .unset]) rfl ?_
        refine k_iconst C X d_method_4_code_43 rfl (v := 0) rfl ?_
        refine k_istore C X d_method_4_code_44 rfl (l' := #[.val (.int e0), .val (.int e1), .val (.int e2), .val (.int s0), .val (.int s1), .val (.int s2), .val (.int b), .val (.int (2)), .val (.ref o33), .val (.ref o39), .val (.int (0))]) rfl ?_
        refine k_iloadN C X d_method_4_code_46 rfl rfl ?_
        refine k_if_eq C X d_method_4_code_47 rfl (tpc := 70) rfl (fun hc => (h1 hc : False).elim) (fun _ => ?_)
        refine k_aload C X d_method_4_code_50 rfl rfl rfl ?_
        refine k_iload C X d_method_4_code_52 rfl rfl ?_
        refine k_iloadN C X d_method_4_code_54 rfl rfl ?_
        refine k_iastore C X d_method_4_code_55 rfl (ix := 1) (i := 0) rfl (by decide) (by decide) (Nat.le_of_ble_eq_true rfl) (vs' := [(.int s0), (.int 0)]) rfl (L' := (o39, own_ar Z .double [(.double 0), (.double 0)]) :: (o33, own_ar Z .int [(.int s0), (.int 0)]) :: L) rfl (fun T X => ?_)
        refine k_aload C X d_method_4_code_56 rfl rfl rfl ?_
        refine k_iload C X d_method_4_code_58 rfl rfl ?_
        refine k_iload C X d_method_4_code_60 rfl rfl ?_
        refine k_iconst C X d_method_4_code_62 rfl (v := 0) rfl ?_
        refine k_static C X d_method_4_code_63 rfl (hw _ (List.mem_of_getElem? (i := 13) rfl)) (hw _ (List.mem_of_getElem? (i := 14) rfl)) (hw _ (List.mem_of_getElem? (i := 9) rfl)) (hw _ (List.mem_of_getElem? (i := 15) rfl)) (by decide) (own_cval l Z a0 hw b (0) ((o39, own_ar Z .double [(.double 0), (.double 0)]) :: (o33, own_ar Z .int [(.int s0), (.int 0)]) :: L)) (W := 2) (argsL := [(.int b), (.int (0))]) (rest := [(.int (0)), (.ref o39)]) rfl rfl rfl own_pd1 rfl (Nat.le_of_eq rfl) (by decide) (by decide) (by decide) (by decide) (fun v T M hQ X => ?_)
        obtain ⟨rfl, rfl⟩ := hQ
        refine k_dastore C X d_method_4_code_66 rfl (ix := 0) (i := 0) rfl (by decide) (by decide) (Nat.le_of_ble_eq_true rfl) (vs' := [(.double (FP.i2d (own_val b (0)))), (.double 0)]) rfl (L' := (o39, own_ar Z .double [(.double (FP.i2d (own_val b (0)))), (.double 0)]) :: (o33, own_ar Z .int [(.int s0), (.int 0)]) :: L) rfl (fun T X => ?_)
        refine k_iinc C X d_method_4_code_67 rfl (v := 1) rfl rfl (l' := #[.val (.int e0), .val (.int e1), .val (.int e2), .val (.int s0), .val (.int s1), .val (.int s2), .val (.int b), .val (.int (2)), .val (.ref o33), .val (.ref o39), .val (.int (1))]) rfl ?_
        refine k_iloadN C X d_method_4_code_70 rfl rfl ?_
        refine k_if_eq C X d_method_4_code_71 rfl (tpc := 95) rfl (fun hc => (h10 hc : False).elim) (fun _ => ?_)
        refine k_aload C X d_method_4_code_74 rfl rfl rfl ?_
        refine k_iload C X d_method_4_code_76 rfl rfl ?_
        refine k_iload C X d_method_4_code_78 rfl rfl ?_
        refine k_iastore C X d_method_4_code_80 rfl (ix := 1) (i := 1) rfl (by decide) (by decide) (Nat.le_of_ble_eq_true rfl) (vs' := [(.int s0), (.int s1)]) rfl (L' := (o39, own_ar Z .double [(.double (FP.i2d (own_val b (0)))), (.double 0)]) :: (o33, own_ar Z .int [(.int s0), (.int s1)]) :: L) rfl (fun T X => ?_)
        refine k_aload C X d_method_4_code_81 rfl rfl rfl ?_
        refine k_iload C X d_method_4_code_83 rfl rfl ?_
        refine k_iload C X d_method_4_code_85 rfl rfl ?_
        refine k_iconst C X d_method_4_code_87 rfl (v := 1) rfl ?_
        refine k_static C X d_method_4_code_88 rfl (hw _ (List.mem_of_getElem? (i := 13) rfl)) (hw _ (List.mem_of_getElem? (i := 14) rfl)) (hw _ (List.mem_of_getElem? (i := 9) rfl)) (hw _ (List.mem_of_getElem? (i := 15) rfl)) (by decide) (own_cval l Z a0 hw b (1) ((o39, own_ar Z .double [(.double (FP.i2d (own_val b (0)))), (.double 0)]) :: (o33, own_ar Z .int [(.int s0), (.int s1)]) :: L)) (W := 2) (argsL := [(.int b), (.int (1))]) (rest := [(.int (1)), (.ref o39)]) rfl rfl rfl own_pd1 rfl (Nat.le_of_eq rfl) (by decide) (by decide) (by decide) (by decide) (fun v T M hQ X => ?_)
        obtain ⟨rfl, rfl⟩ := hQ
        refine k_dastore C X d_method_4_code_91 rfl (ix := 0) (i := 1) rfl (by decide) (by decide) (Nat.le_of_ble_eq_true rfl) (vs' := [(.double (FP.i2d (own_val b (0)))), (.double (FP.i2d (own_val b (1))))]) rfl (L' := (o39, own_ar Z .double [(.double (FP.i2d (own_val b (0)))), (.double (FP.i2d (own_val b (1))))]) :: (o33, own_ar Z .int [(.int s0), (.int s1)]) :: L) rfl (fun T X => ?_)
        refine k_iinc C X d_method_4_code_92 rfl (v := 1) rfl rfl (l' := #[.val (.int e0), .val (.int e1), .val (.int e2), .val (.int s0), .val (.int s1), .val (.int s2), .val (.int b), .val (.int (2)), .val (.ref o33), .val (.ref o39), .val (.int (2))]) rfl ?_
        refine k_iloadN C X d_method_4_code_95 rfl rfl ?_
        refine k_if_eq C X d_method_4_code_96 rfl (tpc := 120) rfl (fun _ => ?_) (fun hc => (hc h20 : False).elim)
        refine k_new C X d_method_4_code_120 rfl (hw _ (List.mem_of_getElem? (i := 16) rfl)) (hw _ (List.mem_of_getElem? (i := 17) rfl)) (hw _ (List.mem_of_getElem? (i := 18) rfl)) (own_lay_SparseVector hw) (fs := [("dimensions", "[I", .null), ("values", "[D", .null)]) rfl (by decide) (by decide) (fun T o120 X => ?_)
        refine k_dup C X d_method_4_code_123 rfl rfl ?_
        refine k_aload C X d_method_4_code_124 rfl rfl rfl ?_
        refine k_aload C X d_method_4_code_126 rfl rfl rfl ?_
        refine k_init C X d_method_4_code_128 rfl rfl (hw _ (List.mem_of_getElem? (i := 19) rfl)) (hw _ (List.mem_of_getElem? (i := 20) rfl)) (hw _ (List.mem_of_getElem? (i := 18) rfl)) (hw _ (List.mem_of_getElem? (i := 21) rfl)) (by decide) (own_sv l Z a0 hw o120 o33 o39 ((o39, own_ar Z .double [(.double (FP.i2d (own_val b (0)))), (.double (FP.i2d (own_val b (1))))]) :: (o33, own_ar Z .int [(.int s0), (.int s1)]) :: L)) (W := 1) (argsL := [(.ref o33), (.ref o39)]) (rest := [(.ref o120)]) rfl rfl rfl own_pd0 rfl (Nat.le_of_eq rfl) (by decide) (by decide) (by decide) (by decide) (fun v T M hQ X => ?_)
        obtain ⟨rfl, rfl⟩ := hQ
        exact k_areturn C X d_method_4_code_131 rfl rfl rfl ⟨o120, o33, o39, rfl, by rw [own_sel_eq, if_neg h1, if_neg h10, if_pos h20]; rfl⟩ (by decide) (by decide)
      · skip
        refine k_iconst C X d_method_4_code_23 rfl (v := 1) rfl ?_
        refine k_goto C X d_method_4_code_24 (tpc := 28) rfl ?_
        refine k_iadd C X d_method_4_code_28 rfl ?_
        refine k_istore C X d_method_4_code_29 rfl (l' := #[.val (.int e0), .val (.int e1), .val (.int e2), .val (.int s0), .val (.int s1), .val (.int s2), .val (.int b), .val (.int (3)), .unset, .unset, .unset]) rfl ?_
        refine k_iload C X d_method_4_code_31 rfl rfl ?_
        refine k_newarray C X d_method_4_code_33 rfl (ty := .int) rfl (hw _ (List.mem_of_getElem? (i := 11) rfl)) (by decide) (cap := 3) (by decide) (by decide) (by decide) (by decide) (vs := [(.int 0), (.int 0), (.int 0)]) rfl (fun T o33 X => ?_)
        refine k_astore C X d_method_4_code_35 rfl rfl (l' := #[.val (.int e0), .val (.int e1), .val (.int e2), .val (.int s0), .val (.int s1), .val (.int s2), .val (.int b), .val (.int (3)), .val (.ref o33), .unset, .unset]) rfl ?_
        refine k_iload C X d_method_4_code_37 rfl rfl ?_
        refine k_newarray C X d_method_4_code_39 rfl (ty := .double) rfl (hw _ (List.mem_of_getElem? (i := 12) rfl)) (by decide) (cap := 3) (by decide) (by decide) (by decide) (by decide) (vs := [(.double 0), (.double 0), (.double 0)]) rfl (fun T o39 X => ?_)
        refine k_astore C X d_method_4_code_41 rfl rfl (l' := #[.val (.int e0), .val (.int e1), .val (.int e2), .val (.int s0), .val (.int s1), .val (.int s2), .val (.int b), .val (.int (3)), .val (.ref o33), .val (.ref o39), .unset]) rfl ?_
        refine k_iconst C X d_method_4_code_43 rfl (v := 0) rfl ?_
        refine k_istore C X d_method_4_code_44 rfl (l' := #[.val (.int e0), .val (.int e1), .val (.int e2), .val (.int s0), .val (.int s1), .val (.int s2), .val (.int b), .val (.int (3)), .val (.ref o33), .val (.ref o39), .val (.int (0))]) rfl ?_
        refine k_iloadN C X d_method_4_code_46 rfl rfl ?_
        refine k_if_eq C X d_method_4_code_47 rfl (tpc := 70) rfl (fun hc => (h1 hc : False).elim) (fun _ => ?_)
        refine k_aload C X d_method_4_code_50 rfl rfl rfl ?_
        refine k_iload C X d_method_4_code_52 rfl rfl ?_
        refine k_iloadN C X d_method_4_code_54 rfl rfl ?_
        refine k_iastore C X d_method_4_code_55 rfl (ix := 1) (i := 0) rfl (by decide) (by decide) (Nat.le_of_ble_eq_true rfl) (vs' := [(.int s0), (.int 0), (.int 0)]) rfl (L' := (o39, own_ar Z .double [(.double 0), (.double 0), (.double 0)]) :: (o33, own_ar Z .int [(.int s0), (.int 0), (.int 0)]) :: L) rfl (fun T X => ?_)
        refine k_aload C X d_method_4_code_56 rfl rfl rfl ?_
        refine k_iload C X d_method_4_code_58 rfl rfl ?_
        refine k_iload C X d_method_4_code_60 rfl rfl ?_
        refine k_iconst C X d_method_4_code_62 rfl (v := 0) rfl ?_
        refine k_static C X d_method_4_code_63 rfl (hw _ (List.mem_of_getElem? (i := 13) rfl)) (hw _ (List.mem_of_getElem? (i := 14) rfl)) (hw _ (List.mem_of_getElem? (i := 9) rfl)) (hw _ (List.mem_of_getElem? (i := 15) rfl)) (by decide) (own_cval l Z a0 hw b (0) ((o39, own_ar Z .double [(.double 0), (.double 0), (.double 0)]) :: (o33, own_ar Z .int [(.int s0), (.int 0), (.int 0)]) :: L)) (W := 2) (argsL := [(.int b), (.int (0))]) (rest := [(.int (0)), (.ref o39)]) rfl rfl rfl own_pd1 rfl (Nat.le_of_eq rfl) (by decide) (by decide) (by decide) (by decide) (fun v T M hQ X => ?_)
        obtain ⟨rfl, rfl⟩ := hQ
        refine k_dastore C X d_method_4_code_66 rfl (ix := 0) (i := 0) rfl (by decide) (by decide) (Nat.le_of_ble_eq_true rfl) (vs' := [(.double (FP.i2d (own_val b (0)))), (.double 0), (.double 0)]) rfl (L' := (o39, own_ar Z .double [(.double (FP.i2d (own_val b (0)))), (.double 0), (.double 0)]) :: (o33, own_ar Z .int [(.int s0), (.int 0), (.int 0)]) :: L) rfl (fun T X => ?_)
        refine k_iinc C X d_method_4_code_67 rfl (v := 1) rfl rfl (l' := #[.val (.int e0), .val (.int e1), .val (.int e2), .val (.int s0), .val (.int s1), .val (.int s2), .val (.int b), .val (.int (3)), .val (.ref o33), .val (.ref o39), .val (.int (1))]) rfl ?_
        refine k_iloadN C X d_method_4_code_70 rfl rfl ?_
        refine k_if_eq C X d_method_4_code_71 rfl (tpc := 95) rfl (fun hc => (h10 hc : False).elim) (fun _ => ?_)
        refine k_aload C X d_method_4_code_74 rfl rfl rfl ?_
        refine k_iload C X d_method_4_code_76 rfl rfl ?_
        refine k_iload C X d_method_4_code_78 rfl rfl ?_
        refine k_iastore C X d_method_4_code_80 rfl (ix := 1) (i := 1) rfl (by decide) (by decide) (Nat.le_of_ble_eq_true rfl) (vs' := [(.int s0), (.int s1), (.int 0)]) rfl (L' := (o39, own_ar Z .double [(.double (FP.i2d (own_val b (0)))), (.double 0), (.double 0)]) :: (o33, own_ar Z .int [(.int s0), (.int s1), (.int 0)]) :: L) rfl (fun T X => ?_)
        refine k_aload C X d_method_4_code_81 rfl rfl rfl ?_
        refine k_iload C X d_method_4_code_83 rfl rfl ?_
        refine k_iload C X d_method_4_code_85 rfl rfl ?_
        refine k_iconst C X d_method_4_code_87 rfl (v := 1) rfl ?_
        refine k_static C X d_method_4_code_88 rfl (hw _ (List.mem_of_getElem? (i := 13) rfl)) (hw _ (List.mem_of_getElem? (i := 14) rfl)) (hw _ (List.mem_of_getElem? (i := 9) rfl)) (hw _ (List.mem_of_getElem? (i := 15) rfl)) (by decide) (own_cval l Z a0 hw b (1) ((o39, own_ar Z .double [(.double (FP.i2d (own_val b (0)))), (.double 0), (.double 0)]) :: (o33, own_ar Z .int [(.int s0), (.int s1), (.int 0)]) :: L)) (W := 2) (argsL := [(.int b), (.int (1))]) (rest := [(.int (1)), (.ref o39)]) rfl rfl rfl own_pd1 rfl (Nat.le_of_eq rfl) (by decide) (by decide) (by decide) (by decide) (fun v T M hQ X => ?_)
        obtain ⟨rfl, rfl⟩ := hQ
        refine k_dastore C X d_method_4_code_91 rfl (ix := 0) (i := 1) rfl (by decide) (by decide) (Nat.le_of_ble_eq_true rfl) (vs' := [(.double (FP.i2d (own_val b (0)))), (.double (FP.i2d (own_val b (1)))), (.double 0)]) rfl (L' := (o39, own_ar Z .double [(.double (FP.i2d (own_val b (0)))), (.double (FP.i2d (own_val b (1)))), (.double 0)]) :: (o33, own_ar Z .int [(.int s0), (.int s1), (.int 0)]) :: L) rfl (fun T X => ?_)
        refine k_iinc C X d_method_4_code_92 rfl (v := 1) rfl rfl (l' := #[.val (.int e0), .val (.int e1), .val (.int e2), .val (.int s0), .val (.int s1), .val (.int s2), .val (.int b), .val (.int (3)), .val (.ref o33), .val (.ref o39), .val (.int (2))]) rfl ?_
        refine k_iloadN C X d_method_4_code_95 rfl rfl ?_
        refine k_if_eq C X d_method_4_code_96 rfl (tpc := 120) rfl (fun hc => (h20 hc : False).elim) (fun _ => ?_)
        refine k_aload C X d_method_4_code_99 rfl rfl rfl ?_
        refine k_iload C X d_method_4_code_101 rfl rfl ?_
        refine k_iload C X d_method_4_code_103 rfl rfl ?_
        refine k_iastore C X d_method_4_code_105 rfl (ix := 1) (i := 2) rfl (by decide) (by decide) (Nat.le_of_ble_eq_true rfl) (vs' := [(.int s0), (.int s1), (.int s2)]) rfl (L' := (o39, own_ar Z .double [(.double (FP.i2d (own_val b (0)))), (.double (FP.i2d (own_val b (1)))), (.double 0)]) :: (o33, own_ar Z .int [(.int s0), (.int s1), (.int s2)]) :: L) rfl (fun T X => ?_)
        refine k_aload C X d_method_4_code_106 rfl rfl rfl ?_
        refine k_iload C X d_method_4_code_108 rfl rfl ?_
        refine k_iload C X d_method_4_code_110 rfl rfl ?_
        refine k_iconst C X d_method_4_code_112 rfl (v := 2) rfl ?_
        refine k_static C X d_method_4_code_113 rfl (hw _ (List.mem_of_getElem? (i := 13) rfl)) (hw _ (List.mem_of_getElem? (i := 14) rfl)) (hw _ (List.mem_of_getElem? (i := 9) rfl)) (hw _ (List.mem_of_getElem? (i := 15) rfl)) (by decide) (own_cval l Z a0 hw b (2) ((o39, own_ar Z .double [(.double (FP.i2d (own_val b (0)))), (.double (FP.i2d (own_val b (1)))), (.double 0)]) :: (o33, own_ar Z .int [(.int s0), (.int s1), (.int s2)]) :: L)) (W := 2) (argsL := [(.int b), (.int (2))]) (rest := [(.int (2)), (.ref o39)]) rfl rfl rfl own_pd1 rfl (Nat.le_of_eq rfl) (by decide) (by decide) (by decide) (by decide) (fun v T M hQ X => ?_)
        obtain ⟨rfl, rfl⟩ := hQ
        refine k_dastore C X d_method_4_code_116 rfl (ix := 0) (i := 2) rfl (by decide) (by decide) (Nat.le_of_ble_eq_true rfl) (vs' := [(.double (FP.i2d (own_val b (0)))), (.double (FP.i2d (own_val b (1)))), (.double (FP.i2d (own_val b (2))))]) rfl (L' := (o39, own_ar Z .double [(.double (FP.i2d (own_val b (0)))), (.double (FP.i2d (own_val b (1)))), (.double (FP.i2d (own_val b (2))))]) :: (o33, own_ar Z .int [(.int s0), (.int s1), (.int s2)]) :: L) rfl (fun T X => ?_)
        refine k_iinc C X d_method_4_code_117 rfl (v := 1) rfl rfl (l' := #[.val (.int e0), .val (.int e1), .val (.int e2), .val (.int s0), .val (.int s1), .val (.int s2), .val (.int b), .val (.int (3)), .val (.ref o33), .val (.ref o39), .val (.int (3))]) rfl ?_
        refine k_new C X d_method_4_code_120 rfl (hw _ (List.mem_of_getElem? (i := 16) rfl)) (hw _ (List.mem_of_getElem? (i := 17) rfl)) (hw _ (List.mem_of_getElem? (i := 18) rfl)) (own_lay_SparseVector hw) (fs := [("dimensions", "[I", .null), ("values", "[D", .null)]) rfl (by decide) (by decide) (fun T o120 X => ?_)
        refine k_dup C X d_method_4_code_123 rfl rfl ?_
        refine k_aload C X d_method_4_code_124 rfl rfl rfl ?_
        refine k_aload C X d_method_4_code_126 rfl rfl rfl ?_
        refine k_init C X d_method_4_code_128 rfl rfl (hw _ (List.mem_of_getElem? (i := 19) rfl)) (hw _ (List.mem_of_getElem? (i := 20) rfl)) (hw _ (List.mem_of_getElem? (i := 18) rfl)) (hw _ (List.mem_of_getElem? (i := 21) rfl)) (by decide) (own_sv l Z a0 hw o120 o33 o39 ((o39, own_ar Z .double [(.double (FP.i2d (own_val b (0)))), (.double (FP.i2d (own_val b (1)))), (.double (FP.i2d (own_val b (2))))]) :: (o33, own_ar Z .int [(.int s0), (.int s1), (.int s2)]) :: L)) (W := 1) (argsL := [(.ref o33), (.ref o39)]) (rest := [(.ref o120)]) rfl rfl rfl own_pd0 rfl (Nat.le_of_eq rfl) (by decide) (by decide) (by decide) (by decide) (fun v T M hQ X => ?_)
        obtain ⟨rfl, rfl⟩ := hQ
        exact k_areturn C X d_method_4_code_131 rfl rfl rfl ⟨o120, o33, o39, rfl, by rw [own_sel_eq, if_neg h1, if_neg h10, if_neg h20]; rfl⟩ (by decide) (by decide)
theorem d_prog_137_method_8_code_0 : decode prog_137_method_8_code 0 = .ok (.dconst 0, 1) := by decide +kernel
theorem d_prog_137_method_8_code_1 : decode prog_137_method_8_code 1 = .ok (.dstore_n 2, 1) := by decide +kernel
theorem d_prog_137_method_8_code_2 : decode prog_137_method_8_code 2 = .ok (.iconst 0, 1) := by decide +kernel
theorem d_prog_137_method_8_code_3 : decode prog_137_method_8_code 3 = .ok (.istore 4, 2) := by decide +kernel
theorem d_prog_137_method_8_code_5 : decode prog_137_method_8_code 5 = .ok (.iconst 0, 1) := by decide +kernel
theorem d_prog_137_method_8_code_6 : decode prog_137_method_8_code 6 = .ok (.istore 5, 2) := by decide +kernel
theorem d_prog_137_method_8_code_8 : decode prog_137_method_8_code 8 = .ok (.iload 4, 2) := by decide +kernel
theorem d_prog_137_method_8_code_10 : decode prog_137_method_8_code 10 = .ok (.aload_n 0, 1) := by decide +kernel
theorem d_prog_137_method_8_code_11 : decode prog_137_method_8_code 11 = .ok (.getfield 7, 3) := by decide +kernel
theorem d_prog_137_method_8_code_14 : decode prog_137_method_8_code 14 = .ok (.arraylength, 1) := by decide +kernel
theorem d_prog_137_method_8_code_15 : decode prog_137_method_8_code 15 = .ok (.if_icmp .ge 86, 3) := by decide +kernel
theorem d_prog_137_method_8_code_101 : decode prog_137_method_8_code 101 = .ok (.dload_n 2, 1) := by decide +kernel
theorem d_prog_137_method_8_code_102 : decode prog_137_method_8_code 102 = .ok (.dreturn, 1) := by decide +kernel
theorem d_prog_137_method_8_code_18 : decode prog_137_method_8_code 18 = .ok (.iload 5, 2) := by decide +kernel
theorem d_prog_137_method_8_code_20 : decode prog_137_method_8_code 20 = .ok (.aload_n 1, 1) := by decide +kernel
theorem d_prog_137_method_8_code_21 : decode prog_137_method_8_code 21 = .ok (.getfield 7, 3) := by decide +kernel
theorem d_prog_137_method_8_code_24 : decode prog_137_method_8_code 24 = .ok (.arraylength, 1) := by decide +kernel
theorem d_prog_137_method_8_code_25 : decode prog_137_method_8_code 25 = .ok (.if_icmp .ge 76, 3) := by decide +kernel
theorem d_prog_137_method_8_code_28 : decode prog_137_method_8_code 28 = .ok (.aload_n 0, 1) := by decide +kernel
theorem d_prog_137_method_8_code_29 : decode prog_137_method_8_code 29 = .ok (.getfield 7, 3) := by decide +kernel
theorem d_prog_137_method_8_code_32 : decode prog_137_method_8_code 32 = .ok (.iload 4, 2) := by decide +kernel
theorem d_prog_137_method_8_code_34 : decode prog_137_method_8_code 34 = .ok (.iaload, 1) := by decide +kernel
theorem d_prog_137_method_8_code_35 : decode prog_137_method_8_code 35 = .ok (.aload_n 1, 1) := by decide +kernel
theorem d_prog_137_method_8_code_36 : decode prog_137_method_8_code 36 = .ok (.getfield 7, 3) := by decide +kernel
theorem d_prog_137_method_8_code_39 : decode prog_137_method_8_code 39 = .ok (.iload 5, 2) := by decide +kernel
theorem d_prog_137_method_8_code_41 : decode prog_137_method_8_code 41 = .ok (.iaload, 1) := by decide +kernel
theorem d_prog_137_method_8_code_42 : decode prog_137_method_8_code 42 = .ok (.if_icmp .ge 9, 3) := by decide +kernel
theorem d_prog_137_method_8_code_51 : decode prog_137_method_8_code 51 = .ok (.aload_n 0, 1) := by decide +kernel
theorem d_prog_137_method_8_code_52 : decode prog_137_method_8_code 52 = .ok (.getfield 7, 3) := by decide +kernel
theorem d_prog_137_method_8_code_55 : decode prog_137_method_8_code 55 = .ok (.iload 4, 2) := by decide +kernel
theorem d_prog_137_method_8_code_57 : decode prog_137_method_8_code 57 = .ok (.iaload, 1) := by decide +kernel
theorem d_prog_137_method_8_code_58 : decode prog_137_method_8_code 58 = .ok (.aload_n 1, 1) := by decide +kernel
theorem d_prog_137_method_8_code_59 : decode prog_137_method_8_code 59 = .ok (.getfield 7, 3) := by decide +kernel
theorem d_prog_137_method_8_code_62 : decode prog_137_method_8_code 62 = .ok (.iload 5, 2) := by decide +kernel
theorem d_prog_137_method_8_code_64 : decode prog_137_method_8_code 64 = .ok (.iaload, 1) := by decide +kernel
theorem d_prog_137_method_8_code_65 : decode prog_137_method_8_code 65 = .ok (.if_icmp .le 9, 3) := by decide +kernel
theorem d_prog_137_method_8_code_74 : decode prog_137_method_8_code 74 = .ok (.dload_n 2, 1) := by decide +kernel
theorem d_prog_137_method_8_code_75 : decode prog_137_method_8_code 75 = .ok (.aload_n 0, 1) := by decide +kernel
theorem d_prog_137_method_8_code_76 : decode prog_137_method_8_code 76 = .ok (.getfield 13, 3) := by decide +kernel
theorem d_prog_137_method_8_code_79 : decode prog_137_method_8_code 79 = .ok (.iload 4, 2) := by decide +kernel
theorem d_prog_137_method_8_code_81 : decode prog_137_method_8_code 81 = .ok (.iinc 4 1, 3) := by decide +kernel
theorem d_prog_137_method_8_code_84 : decode prog_137_method_8_code 84 = .ok (.daload, 1) := by decide +kernel
theorem d_prog_137_method_8_code_85 : decode prog_137_method_8_code 85 = .ok (.aload_n 1, 1) := by decide +kernel
theorem d_prog_137_method_8_code_86 : decode prog_137_method_8_code 86 = .ok (.getfield 13, 3) := by decide +kernel
theorem d_prog_137_method_8_code_89 : decode prog_137_method_8_code 89 = .ok (.iload 5, 2) := by decide +kernel
theorem d_prog_137_method_8_code_91 : decode prog_137_method_8_code 91 = .ok (.iinc 5 1, 3) := by decide +kernel
theorem d_prog_137_method_8_code_94 : decode prog_137_method_8_code 94 = .ok (.daload, 1) := by decide +kernel
theorem d_prog_137_method_8_code_95 : decode prog_137_method_8_code 95 = .ok (.dmul, 1) := by decide +kernel
theorem d_prog_137_method_8_code_96 : decode prog_137_method_8_code 96 = .ok (.dadd, 1) := by decide +kernel
theorem d_prog_137_method_8_code_97 : decode prog_137_method_8_code 97 = .ok (.dstore_n 2, 1) := by decide +kernel
theorem d_prog_137_method_8_code_98 : decode prog_137_method_8_code 98 = .ok (.goto (-90), 3) := by decide +kernel
theorem d_prog_137_method_8_code_68 : decode prog_137_method_8_code 68 = .ok (.iinc 5 1, 3) := by decide +kernel
theorem d_prog_137_method_8_code_71 : decode prog_137_method_8_code 71 = .ok (.goto (-63), 3) := by decide +kernel
theorem d_prog_137_method_8_code_45 : decode prog_137_method_8_code 45 = .ok (.iinc 4 1, 3) := by decide +kernel
theorem d_prog_137_method_8_code_48 : decode prog_137_method_8_code 48 = .ok (.goto (-40), 3) := by decide +kernel
def rm_own_cdot : Room := { frames := 0, cells := 0, slots := 0, locals := 0 }
set_option maxRecDepth 65536 in
set_option maxHeartbeats 40000000 in
theorem own_cdot (l : Launch) (Z : State) (a0 : Array Value) (hw : ∀ d ∈ tables_1, d.before a0 Z = true) (a ad aq b bd bq : Addr) (xs ys : List (Int32 × UInt64)) (hlx : xs.length ≤ 3) (hly : ys.length ≤ 3) (hxs : own_sm xs) (hys : own_sm ys) (L : List (Addr × (Cell → Prop))) :
    own_Con l Z (⟨"com/example/fuzzsub/fuzzsub/service/SparseVector", "dot", "(Lcom/example/fuzzsub/fuzzsub/service/SparseVector;)D"⟩ : MethodName) prog_137_method_8_code 6 (some .double) rm_own_cdot #[(.ref a), (.ref b)] ((a, own_ob Z "com/example/fuzzsub/fuzzsub/service/SparseVector" [("dimensions", "[I", (.ref ad)), ("values", "[D", (.ref aq))]) :: (aq, own_ar Z .double (xs.map fun p => Value.double p.2)) :: (ad, own_ar Z .int (xs.map fun p => Value.int p.1)) :: (b, own_ob Z "com/example/fuzzsub/fuzzsub/service/SparseVector" [("dimensions", "[I", (.ref bd)), ("values", "[D", (.ref bq))]) :: (bq, own_ar Z .double (ys.map fun p => Value.double p.2)) :: (bd, own_ar Z .int (ys.map fun p => Value.int p.1)) :: L) (fun v M => v = some (.double (own_mrg (xs.length + ys.length + 1) xs ys 0)) ∧ M = (a, own_ob Z "com/example/fuzzsub/fuzzsub/service/SparseVector" [("dimensions", "[I", (.ref ad)), ("values", "[D", (.ref aq))]) :: (aq, own_ar Z .double (xs.map fun p => Value.double p.2)) :: (ad, own_ar Z .int (xs.map fun p => Value.int p.1)) :: (b, own_ob Z "com/example/fuzzsub/fuzzsub/service/SparseVector" [("dimensions", "[I", (.ref bd)), ("values", "[D", (.ref bq))]) :: (bq, own_ar Z .double (ys.map fun p => Value.double p.2)) :: (bd, own_ar Z .int (ys.map fun p => Value.int p.1)) :: L) := by
  refine own_con (ls := #[.val (.ref a), .val (.ref b), .unset, .unset, .unset, .unset]) (plainFor_of_name own_pn0) (fun m => own_ent m rfl) ?_
  intro p e s m below meth c T C X
  refine k_dconst0 C X d_prog_137_method_8_code_0 rfl ?_
  refine k_dstoreN C X d_prog_137_method_8_code_1 rfl (l' := #[.val (.ref a), .val (.ref b), .val (.double 0), .second, .unset, .unset]) rfl ?_
  refine k_iconst C X d_prog_137_method_8_code_2 rfl (v := 0) rfl ?_
  refine k_istore C X d_prog_137_method_8_code_3 rfl (l' := #[.val (.ref a), .val (.ref b), .val (.double 0), .second, .val (.int (0)), .unset]) rfl ?_
  refine k_iconst C X d_prog_137_method_8_code_5 rfl (v := 0) rfl ?_
  refine k_istore C X d_prog_137_method_8_code_6 rfl (l' := #[.val (.ref a), .val (.ref b), .val (.double 0), .second, .val (.int (0)), .val (.int (0))]) rfl ?_
  suffices LP8 : ∀ (f8 : Nat) (T' : State) (i : Nat) (j : Nat) (sm : UInt64) (hi : i ≤ xs.length) (hj : j ≤ ys.length) (hf : (xs.length - i) + (ys.length - j) < f8) (hB : own_B (i + j) sm) (hr : own_mrg (xs.length + ys.length + 1) xs ys 0 = own_mrg f8 (xs.drop i) (ys.drop j) sm) (X' : own_S p l e rm_own_cdot s m #[(.ref a), (.ref b)] below meth c Z T' ((a, own_ob Z "com/example/fuzzsub/fuzzsub/service/SparseVector" [("dimensions", "[I", (.ref ad)), ("values", "[D", (.ref aq))]) :: (aq, own_ar Z .double (xs.map fun p => Value.double p.2)) :: (ad, own_ar Z .int (xs.map fun p => Value.int p.1)) :: (b, own_ob Z "com/example/fuzzsub/fuzzsub/service/SparseVector" [("dimensions", "[I", (.ref bd)), ("values", "[D", (.ref bq))]) :: (bq, own_ar Z .double (ys.map fun p => Value.double p.2)) :: (bd, own_ar Z .int (ys.map fun p => Value.int p.1)) :: L) 0 0), own_Go p.tables e below (own_E Z s rm_own_cdot (fun v M => v = some (.double (own_mrg (xs.length + ys.length + 1) xs ys 0)) ∧ M = (a, own_ob Z "com/example/fuzzsub/fuzzsub/service/SparseVector" [("dimensions", "[I", (.ref ad)), ("values", "[D", (.ref aq))]) :: (aq, own_ar Z .double (xs.map fun p => Value.double p.2)) :: (ad, own_ar Z .int (xs.map fun p => Value.int p.1)) :: (b, own_ob Z "com/example/fuzzsub/fuzzsub/service/SparseVector" [("dimensions", "[I", (.ref bd)), ("values", "[D", (.ref bq))]) :: (bq, own_ar Z .double (ys.map fun p => Value.double p.2)) :: (bd, own_ar Z .int (ys.map fun p => Value.int p.1)) :: L)) (T'.setTop (mkF m 8 #[.val (.ref a), .val (.ref b), .val (.double sm), .second, .val (.int i.toInt32), .val (.int j.toInt32)] [])) by
    exact LP8 (xs.length + ys.length + 1) _ 0 0 0 (Nat.zero_le _) (Nat.zero_le _) (by omega) own_B0 rfl (X.more (by decide) (by decide))
  intro f8
  induction f8 with
  | zero =>
    intro T i j sm hi hj hf hB hr X
    omega
  | succ f8 ih8 =>
    intro T i j sm hi hj hf hB hr X
    refine k_iload C X d_prog_137_method_8_code_8 rfl rfl ?_
    refine k_aloadN C X d_prog_137_method_8_code_10 rfl rfl rfl ?_
    refine k_getfield C X d_prog_137_method_8_code_11 rfl (host := "") (Or.inl (hw _ (List.mem_of_getElem? (i := 25) rfl))) (own_fL (ix := 0) (j := 0) rfl rfl) (fun T X => ?_)
    refine k_arraylength C X d_prog_137_method_8_code_14 rfl (ix := 2) rfl (z := xs.length.toInt32) (by rw [List.length_map]) ?_
    refine k_icmp_ge C X d_prog_137_method_8_code_15 rfl (tpc := 101) rfl (fun h15 => ?_) (fun h15 => ?_)
    · skip
      refine k_dloadN C X d_prog_137_method_8_code_101 rfl rfl ?_
      exact k_dreturn C X d_prog_137_method_8_code_102 ⟨by rw [hr, own_mend (Or.inl (by have := mt (own_lt32 (by omega) (by omega)).mpr h15; omega))], rfl⟩ (by decide) (by decide)
    · skip
      refine k_iload C X d_prog_137_method_8_code_18 rfl rfl ?_
      refine k_aloadN C X d_prog_137_method_8_code_20 rfl rfl rfl ?_
      refine k_getfield C X d_prog_137_method_8_code_21 rfl (host := "") (Or.inl (hw _ (List.mem_of_getElem? (i := 25) rfl))) (own_fL (ix := 3) (j := 0) rfl rfl) (fun T X => ?_)
      refine k_arraylength C X d_prog_137_method_8_code_24 rfl (ix := 5) rfl (z := ys.length.toInt32) (by rw [List.length_map]) ?_
      refine k_icmp_ge C X d_prog_137_method_8_code_25 rfl (tpc := 101) rfl (fun h25 => ?_) (fun h25 => ?_)
      · skip
        refine k_dloadN C X d_prog_137_method_8_code_101 rfl rfl ?_
        exact k_dreturn C X d_prog_137_method_8_code_102 ⟨by rw [hr, own_mend (Or.inr (by have := mt (own_lt32 (by omega) (by omega)).mpr h25; omega))], rfl⟩ (by decide) (by decide)
      · skip
        have hI : i < xs.length := (own_lt32 (by omega) (by omega)).mp h15
        have hJ : j < ys.length := (own_lt32 (by omega) (by omega)).mp h25
        obtain ⟨x, hx⟩ : ∃ x, xs[i]? = some x := ⟨_, List.getElem?_eq_getElem hI⟩
        obtain ⟨y, hy⟩ : ∃ y, ys[j]? = some y := ⟨_, List.getElem?_eq_getElem hJ⟩
        refine k_aloadN C X d_prog_137_method_8_code_28 rfl rfl rfl ?_
        refine k_getfield C X d_prog_137_method_8_code_29 rfl (host := "") (Or.inl (hw _ (List.mem_of_getElem? (i := 25) rfl))) (own_fL (ix := 0) (j := 0) rfl rfl) (fun T X => ?_)
        refine k_iload C X d_prog_137_method_8_code_32 rfl rfl ?_
        refine k_iaload C X d_prog_137_method_8_code_34 rfl (ix := 2) (i := i) rfl (own_len32 i (by omega)).2 (own_len32 i (by omega)).1 (by rw [List.getElem?_map, hx]; rfl) ?_
        refine k_aloadN C X d_prog_137_method_8_code_35 rfl rfl rfl ?_
        refine k_getfield C X d_prog_137_method_8_code_36 rfl (host := "") (Or.inl (hw _ (List.mem_of_getElem? (i := 25) rfl))) (own_fL (ix := 3) (j := 0) rfl rfl) (fun T X => ?_)
        refine k_iload C X d_prog_137_method_8_code_39 rfl rfl ?_
        refine k_iaload C X d_prog_137_method_8_code_41 rfl (ix := 5) (i := j) rfl (own_len32 j (by omega)).2 (own_len32 j (by omega)).1 (by rw [List.getElem?_map, hy]; rfl) ?_
        refine k_icmp_ge C X d_prog_137_method_8_code_42 rfl (tpc := 51) rfl (fun h42 => ?_) (fun h42 => ?_)
        · skip
          refine k_aloadN C X d_prog_137_method_8_code_51 rfl rfl rfl ?_
          refine k_getfield C X d_prog_137_method_8_code_52 rfl (host := "") (Or.inl (hw _ (List.mem_of_getElem? (i := 25) rfl))) (own_fL (ix := 0) (j := 0) rfl rfl) (fun T X => ?_)
          refine k_iload C X d_prog_137_method_8_code_55 rfl rfl ?_
          refine k_iaload C X d_prog_137_method_8_code_57 rfl (ix := 2) (i := i) rfl (own_len32 i (by omega)).2 (own_len32 i (by omega)).1 (by rw [List.getElem?_map, hx]; rfl) ?_
          refine k_aloadN C X d_prog_137_method_8_code_58 rfl rfl rfl ?_
          refine k_getfield C X d_prog_137_method_8_code_59 rfl (host := "") (Or.inl (hw _ (List.mem_of_getElem? (i := 25) rfl))) (own_fL (ix := 3) (j := 0) rfl rfl) (fun T X => ?_)
          refine k_iload C X d_prog_137_method_8_code_62 rfl rfl ?_
          refine k_iaload C X d_prog_137_method_8_code_64 rfl (ix := 5) (i := j) rfl (own_len32 j (by omega)).2 (own_len32 j (by omega)).1 (by rw [List.getElem?_map, hy]; rfl) ?_
          refine k_icmp_le C X d_prog_137_method_8_code_65 rfl (tpc := 74) rfl (fun h65 => ?_) (fun h65 => ?_)
          · skip
            refine k_dloadN C X d_prog_137_method_8_code_74 rfl rfl ?_
            refine k_aloadN C X d_prog_137_method_8_code_75 rfl rfl rfl ?_
            refine k_getfield C X d_prog_137_method_8_code_76 rfl (host := "") (Or.inl (hw _ (List.mem_of_getElem? (i := 27) rfl))) (own_fL (ix := 0) (j := 1) rfl rfl) (fun T X => ?_)
            refine k_iload C X d_prog_137_method_8_code_79 rfl rfl ?_
            refine k_iinc C X d_prog_137_method_8_code_81 rfl (v := 1) rfl rfl (l' := #[.val (.ref a), .val (.ref b), .val (.double sm), .second, .val (.int (i.toInt32 + 1)), .val (.int j.toInt32)]) rfl ?_
            refine k_daload C X d_prog_137_method_8_code_84 rfl (ix := 1) (i := i) rfl (own_len32 i (by omega)).2 (own_len32 i (by omega)).1 (by rw [List.getElem?_map, hx]; rfl) ?_
            refine k_aloadN C X d_prog_137_method_8_code_85 rfl rfl rfl ?_
            refine k_getfield C X d_prog_137_method_8_code_86 rfl (host := "") (Or.inl (hw _ (List.mem_of_getElem? (i := 27) rfl))) (own_fL (ix := 3) (j := 1) rfl rfl) (fun T X => ?_)
            refine k_iload C X d_prog_137_method_8_code_89 rfl rfl ?_
            refine k_iinc C X d_prog_137_method_8_code_91 rfl (v := 1) rfl rfl (l' := #[.val (.ref a), .val (.ref b), .val (.double sm), .second, .val (.int (i.toInt32 + 1)), .val (.int (j.toInt32 + 1))]) rfl ?_
            refine k_daload C X d_prog_137_method_8_code_94 rfl (ix := 4) (i := j) rfl (own_len32 j (by omega)).2 (own_len32 j (by omega)).1 (by rw [List.getElem?_map, hy]; rfl) ?_
            refine k_dmul C X d_prog_137_method_8_code_95 rfl (own_nnm hx hy hxs hys) (fun d95 ed95 => ?_)
            refine k_dadd C X d_prog_137_method_8_code_96 rfl (by rw [ed95]; exact own_nna hB hx hy hxs hys hlx hly hI hJ) (fun d96 ed96 => ?_)
            refine k_dstoreN C X d_prog_137_method_8_code_97 rfl (l' := #[.val (.ref a), .val (.ref b), .val (.double d96), .second, .val (.int (i.toInt32 + 1)), .val (.int (j.toInt32 + 1))]) rfl ?_
            refine k_goto C X d_prog_137_method_8_code_98 (tpc := 8) rfl ?_
            rw [own_succ i]
            rw [own_succ j]
            exact ih8 _ (i + 1) (j + 1) d96 (by omega) (by omega) (by omega) (own_Bstep hB hx hy hxs hys (by omega) (by omega) (ed96.trans (by rw [ed95]))) (own_mstep hr hx hy h42 h65 (ed96.trans (by rw [ed95]))) (X.more (by decide) (by decide))
          · skip
            refine k_iinc C X d_prog_137_method_8_code_68 rfl (v := 1) rfl rfl (l' := #[.val (.ref a), .val (.ref b), .val (.double sm), .second, .val (.int i.toInt32), .val (.int (j.toInt32 + 1))]) rfl ?_
            refine k_goto C X d_prog_137_method_8_code_71 (tpc := 8) rfl ?_
            rw [own_succ j]
            exact ih8 _ i (j + 1) sm (by omega) (by omega) (by omega) (own_Bup hB (by omega)) (own_mgt hr hx hy h42 h65) (X.more (by decide) (by decide))
        · skip
          refine k_iinc C X d_prog_137_method_8_code_45 rfl (v := 1) rfl rfl (l' := #[.val (.ref a), .val (.ref b), .val (.double sm), .second, .val (.int (i.toInt32 + 1)), .val (.int j.toInt32)]) rfl ?_
          refine k_goto C X d_prog_137_method_8_code_48 (tpc := 8) rfl ?_
          rw [own_succ i]
          exact ih8 _ (i + 1) j sm (by omega) (by omega) (by omega) (own_Bup hB (by omega)) (own_mlt hr hx hy h42) (X.more (by decide) (by decide))
theorem own_pd2 : parseMethodDescriptor "(II)I" = some ⟨[.int, .int], some .int⟩ := by decide +kernel
theorem own_pd3 : parseMethodDescriptor "(ZZZIIII)Lcom/example/fuzzsub/fuzzsub/service/SparseVector;" = some ⟨[.boolean, .boolean, .boolean, .int, .int, .int, .int], some (.object "com/example/fuzzsub/fuzzsub/service/SparseVector")⟩ := by decide +kernel
theorem own_pd4 : parseMethodDescriptor "(Lcom/example/fuzzsub/fuzzsub/service/SparseVector;)D" = some ⟨[(.object "com/example/fuzzsub/fuzzsub/service/SparseVector")], some .double⟩ := by decide +kernel
set_option maxRecDepth 65536 in
set_option maxHeartbeats 40000000 in
theorem own_law (l : Launch) (Z : State) (a0 : Array Value) (hw : ∀ d ∈ tables_1, d.before a0 Z = true) (x0 x1 x2 x3 x4 x5 : Int32) :
    own_Con l Z x code maxLocals ret room_1 #[(.int x0), (.int x1), (.int x2), (.int x3), (.int x4), (.int x5)] ([]) (fun v M => v = some (.int 1)) := by
  refine own_con (ls := #[.val (.int x0), .val (.int x1), .val (.int x2), .val (.int x3), .val (.int x4), .val (.int x5), .unset, .unset, .unset, .unset, .unset, .unset, .unset, .unset, .unset, .unset, .unset, .unset, .unset, .unset, .unset]) (plainFor_of_name own_pn1) (fun m => own_ent m rfl) ?_
  intro p e s m below meth c T C X
  refine k_iloadN C X at_0 rfl rfl ?_
  refine k_iloadN C X at_1 rfl rfl ?_
  refine k_iloadN C X at_2 rfl rfl ?_
  refine k_static C X at_3 rfl (hw _ (List.mem_of_getElem? (i := 0) rfl)) (hw _ (List.mem_of_getElem? (i := 1) rfl)) (hw _ (List.mem_of_getElem? (i := 2) rfl)) (hw _ (List.mem_of_getElem? (i := 3) rfl)) (by decide) (own_min l Z a0 hw x1 x2 ([])) (W := 1) (argsL := [(.int x1), (.int x2)]) (rest := [(.int x0)]) rfl rfl rfl own_pd2 rfl (Nat.le_of_eq rfl) (by decide) (by decide) (by decide) (by decide) (fun v T M hQ X => ?_)
  obtain ⟨rfl, rfl⟩ := hQ
  refine k_static C X at_6 rfl (hw _ (List.mem_of_getElem? (i := 0) rfl)) (hw _ (List.mem_of_getElem? (i := 1) rfl)) (hw _ (List.mem_of_getElem? (i := 2) rfl)) (hw _ (List.mem_of_getElem? (i := 3) rfl)) (by decide) (own_min l Z a0 hw x0 (if x2 < x1 then x2 else x1) ([])) (W := 0) (argsL := [(.int x0), (.int (if x2 < x1 then x2 else x1))]) (rest := []) rfl rfl rfl own_pd2 rfl (Nat.le_of_eq rfl) (by decide) (by decide) (by decide) (by decide) (fun v T M hQ X => ?_)
  obtain ⟨rfl, rfl⟩ := hQ
  refine k_istore C X at_9 rfl (l' := #[.val (.int x0), .val (.int x1), .val (.int x2), .val (.int x3), .val (.int x4), .val (.int x5), .val (.int (if (if x2 < x1 then x2 else x1) < x0 then (if x2 < x1 then x2 else x1) else x0)), .unset, .unset, .unset, .unset, .unset, .unset, .unset, .unset, .unset, .unset, .unset, .unset, .unset, .unset]) rfl ?_
  obtain ⟨s0, e_s0⟩ : ∃ z, z = ((if (if x2 < x1 then x2 else x1) < x0 then (if x2 < x1 then x2 else x1) else x0) : Int32) := ⟨_, rfl⟩
  rw [← e_s0]
  refine k_iloadN C X at_11 rfl rfl ?_
  refine k_iloadN C X at_12 rfl rfl ?_
  refine k_iloadN C X at_13 rfl rfl ?_
  refine k_static C X at_14 rfl (hw _ (List.mem_of_getElem? (i := 4) rfl)) (hw _ (List.mem_of_getElem? (i := 5) rfl)) (hw _ (List.mem_of_getElem? (i := 2) rfl)) (hw _ (List.mem_of_getElem? (i := 6) rfl)) (by decide) (own_max l Z a0 hw x1 x2 ([])) (W := 1) (argsL := [(.int x1), (.int x2)]) (rest := [(.int x0)]) rfl rfl rfl own_pd2 rfl (Nat.le_of_eq rfl) (by decide) (by decide) (by decide) (by decide) (fun v T M hQ X => ?_)
  obtain ⟨rfl, rfl⟩ := hQ
  refine k_static C X at_17 rfl (hw _ (List.mem_of_getElem? (i := 4) rfl)) (hw _ (List.mem_of_getElem? (i := 5) rfl)) (hw _ (List.mem_of_getElem? (i := 2) rfl)) (hw _ (List.mem_of_getElem? (i := 6) rfl)) (by decide) (own_max l Z a0 hw x0 (if x1 < x2 then x2 else x1) ([])) (W := 0) (argsL := [(.int x0), (.int (if x1 < x2 then x2 else x1))]) (rest := []) rfl rfl rfl own_pd2 rfl (Nat.le_of_eq rfl) (by decide) (by decide) (by decide) (by decide) (fun v T M hQ X => ?_)
  obtain ⟨rfl, rfl⟩ := hQ
  refine k_istore C X at_20 rfl (l' := #[.val (.int x0), .val (.int x1), .val (.int x2), .val (.int x3), .val (.int x4), .val (.int x5), .val (.int s0), .val (.int (if x0 < (if x1 < x2 then x2 else x1) then (if x1 < x2 then x2 else x1) else x0)), .unset, .unset, .unset, .unset, .unset, .unset, .unset, .unset, .unset, .unset, .unset, .unset, .unset]) rfl ?_
  obtain ⟨s2, e_s2⟩ : ∃ z, z = ((if x0 < (if x1 < x2 then x2 else x1) then (if x1 < x2 then x2 else x1) else x0) : Int32) := ⟨_, rfl⟩
  rw [← e_s2]
  refine k_iloadN C X at_22 rfl rfl ?_
  refine k_iloadN C X at_23 rfl rfl ?_
  refine k_iadd C X at_24 rfl ?_
  refine k_iloadN C X at_25 rfl rfl ?_
  refine k_iadd C X at_26 rfl ?_
  refine k_iload C X at_27 rfl rfl ?_
  refine k_isub C X at_29 rfl ?_
  refine k_iload C X at_30 rfl rfl ?_
  refine k_isub C X at_32 rfl ?_
  refine k_istore C X at_33 rfl (l' := #[.val (.int x0), .val (.int x1), .val (.int x2), .val (.int x3), .val (.int x4), .val (.int x5), .val (.int s0), .val (.int s2), .val (.int ((((x0 + x1) + x2) - s0) - s2)), .unset, .unset, .unset, .unset, .unset, .unset, .unset, .unset, .unset, .unset, .unset, .unset]) rfl ?_
  obtain ⟨s1, e_s1⟩ : ∃ z, z = (((((x0 + x1) + x2) - s0) - s2) : Int32) := ⟨_, rfl⟩
  rw [← e_s1]
  refine k_iload C X at_35 rfl rfl ?_
  refine k_iload C X at_37 rfl rfl ?_
  suffices J39_47 : ∀ (y47_0 : Int32) (e_y47_0 : y47_0 = (if s1 = s0 then (0) else (1))), own_Go p.tables e below (own_E Z s room_1 (fun v M => v = some (.int 1))) (T.setTop (mkF m 47 #[.val (.int x0), .val (.int x1), .val (.int x2), .val (.int x3), .val (.int x4), .val (.int x5), .val (.int s0), .val (.int s2), .val (.int s1), .unset, .unset, .unset, .unset, .unset, .unset, .unset, .unset, .unset, .unset, .unset, .unset] [(.int y47_0)])) by
    refine k_icmp_eq C X at_39 rfl (tpc := 46) rfl (fun h39 => ?_) (fun h39 => ?_)
    · skip
      refine k_iconst C X at_46 rfl (v := 0) rfl ?_
      exact J39_47 _ (by rw [if_pos h39])
    · skip
      refine k_iconst C X at_42 rfl (v := 1) rfl ?_
      refine k_goto C X at_43 (tpc := 47) rfl ?_
      exact J39_47 _ (by rw [if_neg h39])
  intro y47_0 e_y47_0
  refine k_istore C X at_47 rfl (l' := #[.val (.int x0), .val (.int x1), .val (.int x2), .val (.int x3), .val (.int x4), .val (.int x5), .val (.int s0), .val (.int s2), .val (.int s1), .val (.int y47_0), .unset, .unset, .unset, .unset, .unset, .unset, .unset, .unset, .unset, .unset, .unset]) rfl ?_
  refine k_iload C X at_49 rfl rfl ?_
  refine k_iload C X at_51 rfl rfl ?_
  suffices J53_61 : ∀ (y61_0 : Int32) (e_y61_0 : y61_0 = (if s2 = s1 then (0) else (1))), own_Go p.tables e below (own_E Z s room_1 (fun v M => v = some (.int 1))) (T.setTop (mkF m 61 #[.val (.int x0), .val (.int x1), .val (.int x2), .val (.int x3), .val (.int x4), .val (.int x5), .val (.int s0), .val (.int s2), .val (.int s1), .val (.int y47_0), .unset, .unset, .unset, .unset, .unset, .unset, .unset, .unset, .unset, .unset, .unset] [(.int y61_0)])) by
    refine k_icmp_eq C X at_53 rfl (tpc := 60) rfl (fun h53 => ?_) (fun h53 => ?_)
    · skip
      refine k_iconst C X at_60 rfl (v := 0) rfl ?_
      exact J53_61 _ (by rw [if_pos h53])
    · skip
      refine k_iconst C X at_56 rfl (v := 1) rfl ?_
      refine k_goto C X at_57 (tpc := 61) rfl ?_
      exact J53_61 _ (by rw [if_neg h53])
  intro y61_0 e_y61_0
  refine k_istore C X at_61 rfl (l' := #[.val (.int x0), .val (.int x1), .val (.int x2), .val (.int x3), .val (.int x4), .val (.int x5), .val (.int s0), .val (.int s2), .val (.int s1), .val (.int y47_0), .val (.int y61_0), .unset, .unset, .unset, .unset, .unset, .unset, .unset, .unset, .unset, .unset]) rfl ?_
  refine k_iloadN C X at_63 rfl rfl ?_
  refine k_iconst C X at_64 rfl (v := 1) rfl ?_
  refine k_iand C X at_65 rfl ?_
  suffices J66_74 : ∀ (y74_0 : Int32) (e_y74_0 : y74_0 = (if (x3 &&& (1)) = 0 then (0) else (1))), own_Go p.tables e below (own_E Z s room_1 (fun v M => v = some (.int 1))) (T.setTop (mkF m 74 #[.val (.int x0), .val (.int x1), .val (.int x2), .val (.int x3), .val (.int x4), .val (.int x5), .val (.int s0), .val (.int s2), .val (.int s1), .val (.int y47_0), .val (.int y61_0), .unset, .unset, .unset, .unset, .unset, .unset, .unset, .unset, .unset, .unset] [(.int y74_0)])) by
    refine k_if_eq C X at_66 rfl (tpc := 73) rfl (fun h66 => ?_) (fun h66 => ?_)
    · skip
      refine k_iconst C X at_73 rfl (v := 0) rfl ?_
      exact J66_74 _ (by rw [if_pos h66])
    · skip
      refine k_iconst C X at_69 rfl (v := 1) rfl ?_
      refine k_goto C X at_70 (tpc := 74) rfl ?_
      exact J66_74 _ (by rw [if_neg h66])
  intro y74_0 e_y74_0
  refine k_istore C X at_74 rfl (l' := #[.val (.int x0), .val (.int x1), .val (.int x2), .val (.int x3), .val (.int x4), .val (.int x5), .val (.int s0), .val (.int s2), .val (.int s1), .val (.int y47_0), .val (.int y61_0), .val (.int y74_0), .unset, .unset, .unset, .unset, .unset, .unset, .unset, .unset, .unset]) rfl ?_
  refine k_iloadN C X at_76 rfl rfl ?_
  refine k_iconst C X at_77 rfl (v := 2) rfl ?_
  refine k_iand C X at_78 rfl ?_
  suffices J79_92 : ∀ (y92_0 : Int32) (e_y92_0 : y92_0 = (if (x3 &&& (2)) = 0 then (0) else (if y47_0 = 0 then (0) else (1)))), own_Go p.tables e below (own_E Z s room_1 (fun v M => v = some (.int 1))) (T.setTop (mkF m 92 #[.val (.int x0), .val (.int x1), .val (.int x2), .val (.int x3), .val (.int x4), .val (.int x5), .val (.int s0), .val (.int s2), .val (.int s1), .val (.int y47_0), .val (.int y61_0), .val (.int y74_0), .unset, .unset, .unset, .unset, .unset, .unset, .unset, .unset, .unset] [(.int y92_0)])) by
    refine k_if_eq C X at_79 rfl (tpc := 91) rfl (fun h79 => ?_) (fun h79 => ?_)
    · skip
      refine k_iconst C X at_91 rfl (v := 0) rfl ?_
      exact J79_92 _ (by rw [if_pos h79])
    · skip
      refine k_iload C X at_82 rfl rfl ?_
      refine k_if_eq C X at_84 rfl (tpc := 91) rfl (fun h84 => ?_) (fun h84 => ?_)
      · skip
        refine k_iconst C X at_91 rfl (v := 0) rfl ?_
        exact J79_92 _ (by rw [if_neg h79, if_pos h84])
      · skip
        refine k_iconst C X at_87 rfl (v := 1) rfl ?_
        refine k_goto C X at_88 (tpc := 92) rfl ?_
        exact J79_92 _ (by rw [if_neg h79, if_neg h84])
  intro y92_0 e_y92_0
  refine k_istore C X at_92 rfl (l' := #[.val (.int x0), .val (.int x1), .val (.int x2), .val (.int x3), .val (.int x4), .val (.int x5), .val (.int s0), .val (.int s2), .val (.int s1), .val (.int y47_0), .val (.int y61_0), .val (.int y74_0), .val (.int y92_0), .unset, .unset, .unset, .unset, .unset, .unset, .unset, .unset]) rfl ?_
  refine k_iloadN C X at_94 rfl rfl ?_
  refine k_iconst C X at_95 rfl (v := 4) rfl ?_
  refine k_iand C X at_96 rfl ?_
  suffices J97_110 : ∀ (y110_0 : Int32) (e_y110_0 : y110_0 = (if (x3 &&& (4)) = 0 then (0) else (if y61_0 = 0 then (0) else (1)))), own_Go p.tables e below (own_E Z s room_1 (fun v M => v = some (.int 1))) (T.setTop (mkF m 110 #[.val (.int x0), .val (.int x1), .val (.int x2), .val (.int x3), .val (.int x4), .val (.int x5), .val (.int s0), .val (.int s2), .val (.int s1), .val (.int y47_0), .val (.int y61_0), .val (.int y74_0), .val (.int y92_0), .unset, .unset, .unset, .unset, .unset, .unset, .unset, .unset] [(.int y110_0)])) by
    refine k_if_eq C X at_97 rfl (tpc := 109) rfl (fun h97 => ?_) (fun h97 => ?_)
    · skip
      refine k_iconst C X at_109 rfl (v := 0) rfl ?_
      exact J97_110 _ (by rw [if_pos h97])
    · skip
      refine k_iload C X at_100 rfl rfl ?_
      refine k_if_eq C X at_102 rfl (tpc := 109) rfl (fun h102 => ?_) (fun h102 => ?_)
      · skip
        refine k_iconst C X at_109 rfl (v := 0) rfl ?_
        exact J97_110 _ (by rw [if_neg h97, if_pos h102])
      · skip
        refine k_iconst C X at_105 rfl (v := 1) rfl ?_
        refine k_goto C X at_106 (tpc := 110) rfl ?_
        exact J97_110 _ (by rw [if_neg h97, if_neg h102])
  intro y110_0 e_y110_0
  refine k_istore C X at_110 rfl (l' := #[.val (.int x0), .val (.int x1), .val (.int x2), .val (.int x3), .val (.int x4), .val (.int x5), .val (.int s0), .val (.int s2), .val (.int s1), .val (.int y47_0), .val (.int y61_0), .val (.int y74_0), .val (.int y92_0), .val (.int y110_0), .unset, .unset, .unset, .unset, .unset, .unset, .unset]) rfl ?_
  refine k_iloadN C X at_112 rfl rfl ?_
  refine k_bipush C X at_113 rfl (v := 8) rfl ?_
  refine k_iand C X at_115 rfl ?_
  suffices J116_124 : ∀ (y124_0 : Int32) (e_y124_0 : y124_0 = (if (x3 &&& (8)) = 0 then (0) else (1))), own_Go p.tables e below (own_E Z s room_1 (fun v M => v = some (.int 1))) (T.setTop (mkF m 124 #[.val (.int x0), .val (.int x1), .val (.int x2), .val (.int x3), .val (.int x4), .val (.int x5), .val (.int s0), .val (.int s2), .val (.int s1), .val (.int y47_0), .val (.int y61_0), .val (.int y74_0), .val (.int y92_0), .val (.int y110_0), .unset, .unset, .unset, .unset, .unset, .unset, .unset] [(.int y124_0)])) by
    refine k_if_eq C X at_116 rfl (tpc := 123) rfl (fun h116 => ?_) (fun h116 => ?_)
    · skip
      refine k_iconst C X at_123 rfl (v := 0) rfl ?_
      exact J116_124 _ (by rw [if_pos h116])
    · skip
      refine k_iconst C X at_119 rfl (v := 1) rfl ?_
      refine k_goto C X at_120 (tpc := 124) rfl ?_
      exact J116_124 _ (by rw [if_neg h116])
  intro y124_0 e_y124_0
  refine k_istore C X at_124 rfl (l' := #[.val (.int x0), .val (.int x1), .val (.int x2), .val (.int x3), .val (.int x4), .val (.int x5), .val (.int s0), .val (.int s2), .val (.int s1), .val (.int y47_0), .val (.int y61_0), .val (.int y74_0), .val (.int y92_0), .val (.int y110_0), .val (.int y124_0), .unset, .unset, .unset, .unset, .unset, .unset]) rfl ?_
  refine k_iloadN C X at_126 rfl rfl ?_
  refine k_bipush C X at_127 rfl (v := 16) rfl ?_
  refine k_iand C X at_129 rfl ?_
  suffices J130_143 : ∀ (y143_0 : Int32) (e_y143_0 : y143_0 = (if (x3 &&& (16)) = 0 then (0) else (if y47_0 = 0 then (0) else (1)))), own_Go p.tables e below (own_E Z s room_1 (fun v M => v = some (.int 1))) (T.setTop (mkF m 143 #[.val (.int x0), .val (.int x1), .val (.int x2), .val (.int x3), .val (.int x4), .val (.int x5), .val (.int s0), .val (.int s2), .val (.int s1), .val (.int y47_0), .val (.int y61_0), .val (.int y74_0), .val (.int y92_0), .val (.int y110_0), .val (.int y124_0), .unset, .unset, .unset, .unset, .unset, .unset] [(.int y143_0)])) by
    refine k_if_eq C X at_130 rfl (tpc := 142) rfl (fun h130 => ?_) (fun h130 => ?_)
    · skip
      refine k_iconst C X at_142 rfl (v := 0) rfl ?_
      exact J130_143 _ (by rw [if_pos h130])
    · skip
      refine k_iload C X at_133 rfl rfl ?_
      refine k_if_eq C X at_135 rfl (tpc := 142) rfl (fun h135 => ?_) (fun h135 => ?_)
      · skip
        refine k_iconst C X at_142 rfl (v := 0) rfl ?_
        exact J130_143 _ (by rw [if_neg h130, if_pos h135])
      · skip
        refine k_iconst C X at_138 rfl (v := 1) rfl ?_
        refine k_goto C X at_139 (tpc := 143) rfl ?_
        exact J130_143 _ (by rw [if_neg h130, if_neg h135])
  intro y143_0 e_y143_0
  refine k_istore C X at_143 rfl (l' := #[.val (.int x0), .val (.int x1), .val (.int x2), .val (.int x3), .val (.int x4), .val (.int x5), .val (.int s0), .val (.int s2), .val (.int s1), .val (.int y47_0), .val (.int y61_0), .val (.int y74_0), .val (.int y92_0), .val (.int y110_0), .val (.int y124_0), .val (.int y143_0), .unset, .unset, .unset, .unset, .unset]) rfl ?_
  refine k_iloadN C X at_145 rfl rfl ?_
  refine k_bipush C X at_146 rfl (v := 32) rfl ?_
  refine k_iand C X at_148 rfl ?_
  suffices J149_162 : ∀ (y162_0 : Int32) (e_y162_0 : y162_0 = (if (x3 &&& (32)) = 0 then (0) else (if y61_0 = 0 then (0) else (1)))), own_Go p.tables e below (own_E Z s room_1 (fun v M => v = some (.int 1))) (T.setTop (mkF m 162 #[.val (.int x0), .val (.int x1), .val (.int x2), .val (.int x3), .val (.int x4), .val (.int x5), .val (.int s0), .val (.int s2), .val (.int s1), .val (.int y47_0), .val (.int y61_0), .val (.int y74_0), .val (.int y92_0), .val (.int y110_0), .val (.int y124_0), .val (.int y143_0), .unset, .unset, .unset, .unset, .unset] [(.int y162_0)])) by
    refine k_if_eq C X at_149 rfl (tpc := 161) rfl (fun h149 => ?_) (fun h149 => ?_)
    · skip
      refine k_iconst C X at_161 rfl (v := 0) rfl ?_
      exact J149_162 _ (by rw [if_pos h149])
    · skip
      refine k_iload C X at_152 rfl rfl ?_
      refine k_if_eq C X at_154 rfl (tpc := 161) rfl (fun h154 => ?_) (fun h154 => ?_)
      · skip
        refine k_iconst C X at_161 rfl (v := 0) rfl ?_
        exact J149_162 _ (by rw [if_neg h149, if_pos h154])
      · skip
        refine k_iconst C X at_157 rfl (v := 1) rfl ?_
        refine k_goto C X at_158 (tpc := 162) rfl ?_
        exact J149_162 _ (by rw [if_neg h149, if_neg h154])
  intro y162_0 e_y162_0
  refine k_istore C X at_162 rfl (l' := #[.val (.int x0), .val (.int x1), .val (.int x2), .val (.int x3), .val (.int x4), .val (.int x5), .val (.int s0), .val (.int s2), .val (.int s1), .val (.int y47_0), .val (.int y61_0), .val (.int y74_0), .val (.int y92_0), .val (.int y110_0), .val (.int y124_0), .val (.int y143_0), .val (.int y162_0), .unset, .unset, .unset, .unset]) rfl ?_
  refine k_iload C X at_164 rfl rfl ?_
  refine k_iload C X at_166 rfl rfl ?_
  refine k_iload C X at_168 rfl rfl ?_
  refine k_iload C X at_170 rfl rfl ?_
  refine k_iload C X at_172 rfl rfl ?_
  refine k_iload C X at_174 rfl rfl ?_
  refine k_iload C X at_176 rfl rfl ?_
  refine k_static C X at_178 rfl (hw _ (List.mem_of_getElem? (i := 7) rfl)) (hw _ (List.mem_of_getElem? (i := 8) rfl)) (hw _ (List.mem_of_getElem? (i := 9) rfl)) (hw _ (List.mem_of_getElem? (i := 10) rfl)) (by decide) (own_make l Z a0 hw y74_0 y92_0 y110_0 s0 s1 s2 x4 ([])) (W := 0) (argsL := [(.int y74_0), (.int y92_0), (.int y110_0), (.int s0), (.int s1), (.int s2), (.int x4)]) (rest := []) rfl rfl rfl own_pd3 rfl (Nat.le_of_eq rfl) (by decide) (by decide) (by decide) (by decide) (fun v T M hQ X => ?_)
  obtain ⟨va1, vd1, vq1, rfl, rfl⟩ := hQ
  refine k_astore C X at_181 rfl rfl (l' := #[.val (.int x0), .val (.int x1), .val (.int x2), .val (.int x3), .val (.int x4), .val (.int x5), .val (.int s0), .val (.int s2), .val (.int s1), .val (.int y47_0), .val (.int y61_0), .val (.int y74_0), .val (.int y92_0), .val (.int y110_0), .val (.int y124_0), .val (.int y143_0), .val (.int y162_0), .val (.ref va1), .unset, .unset, .unset]) rfl ?_
  refine k_iload C X at_183 rfl rfl ?_
  refine k_iload C X at_185 rfl rfl ?_
  refine k_iload C X at_187 rfl rfl ?_
  refine k_iload C X at_189 rfl rfl ?_
  refine k_iload C X at_191 rfl rfl ?_
  refine k_iload C X at_193 rfl rfl ?_
  refine k_iload C X at_195 rfl rfl ?_
  refine k_static C X at_197 rfl (hw _ (List.mem_of_getElem? (i := 7) rfl)) (hw _ (List.mem_of_getElem? (i := 8) rfl)) (hw _ (List.mem_of_getElem? (i := 9) rfl)) (hw _ (List.mem_of_getElem? (i := 10) rfl)) (by decide) (own_make l Z a0 hw y124_0 y143_0 y162_0 s0 s1 s2 x5 ([(va1, own_ob Z "com/example/fuzzsub/fuzzsub/service/SparseVector" [("dimensions", "[I", (.ref vd1)), ("values", "[D", (.ref vq1))]), (vq1, own_ar Z .double ((own_sel y74_0 y92_0 y110_0 s0 s1 s2 x4).map fun p => Value.double p.2)), (vd1, own_ar Z .int ((own_sel y74_0 y92_0 y110_0 s0 s1 s2 x4).map fun p => Value.int p.1))])) (W := 0) (argsL := [(.int y124_0), (.int y143_0), (.int y162_0), (.int s0), (.int s1), (.int s2), (.int x5)]) (rest := []) rfl rfl rfl own_pd3 rfl (Nat.le_of_eq rfl) (by decide) (by decide) (by decide) (by decide) (fun v T M hQ X => ?_)
  obtain ⟨va2, vd2, vq2, rfl, rfl⟩ := hQ
  refine k_astore C X at_200 rfl rfl (l' := #[.val (.int x0), .val (.int x1), .val (.int x2), .val (.int x3), .val (.int x4), .val (.int x5), .val (.int s0), .val (.int s2), .val (.int s1), .val (.int y47_0), .val (.int y61_0), .val (.int y74_0), .val (.int y92_0), .val (.int y110_0), .val (.int y124_0), .val (.int y143_0), .val (.int y162_0), .val (.ref va1), .val (.ref va2), .unset, .unset]) rfl ?_
  refine k_dconst0 C X at_202 rfl ?_
  refine k_dstore C X at_203 rfl (l' := #[.val (.int x0), .val (.int x1), .val (.int x2), .val (.int x3), .val (.int x4), .val (.int x5), .val (.int s0), .val (.int s2), .val (.int s1), .val (.int y47_0), .val (.int y61_0), .val (.int y74_0), .val (.int y92_0), .val (.int y110_0), .val (.int y124_0), .val (.int y143_0), .val (.int y162_0), .val (.ref va1), .val (.ref va2), .val (.double 0), .second]) rfl ?_
  refine k_iload C X at_205 rfl rfl ?_
  suffices J207_233 : ∀ (T' : State) (z233_19 : UInt64) (e_z233_19 : z233_19 = (if y74_0 = 0 then 0 else (if y124_0 = 0 then 0 else (FP.dadd 0 (FP.dmul (FP.i2d (own_val x4 (0))) (FP.i2d (own_val x5 (0)))))))) (X' : own_S p l e room_1 s m #[(.int x0), (.int x1), (.int x2), (.int x3), (.int x4), (.int x5)] below meth c Z T' ([(va2, own_ob Z "com/example/fuzzsub/fuzzsub/service/SparseVector" [("dimensions", "[I", (.ref vd2)), ("values", "[D", (.ref vq2))]), (vq2, own_ar Z .double ((own_sel y124_0 y143_0 y162_0 s0 s1 s2 x5).map fun p => Value.double p.2)), (vd2, own_ar Z .int ((own_sel y124_0 y143_0 y162_0 s0 s1 s2 x5).map fun p => Value.int p.1)), (va1, own_ob Z "com/example/fuzzsub/fuzzsub/service/SparseVector" [("dimensions", "[I", (.ref vd1)), ("values", "[D", (.ref vq1))]), (vq1, own_ar Z .double ((own_sel y74_0 y92_0 y110_0 s0 s1 s2 x4).map fun p => Value.double p.2)), (vd1, own_ar Z .int ((own_sel y74_0 y92_0 y110_0 s0 s1 s2 x4).map fun p => Value.int p.1))]) 6 16), own_Go p.tables e below (own_E Z s room_1 (fun v M => v = some (.int 1))) (T'.setTop (mkF m 233 #[.val (.int x0), .val (.int x1), .val (.int x2), .val (.int x3), .val (.int x4), .val (.int x5), .val (.int s0), .val (.int s2), .val (.int s1), .val (.int y47_0), .val (.int y61_0), .val (.int y74_0), .val (.int y92_0), .val (.int y110_0), .val (.int y124_0), .val (.int y143_0), .val (.int y162_0), .val (.ref va1), .val (.ref va2), .val (.double z233_19), .second] [])) by
    refine k_if_eq C X at_207 rfl (tpc := 233) rfl (fun h207 => ?_) (fun h207 => ?_)
    · skip
      exact J207_233 _ _ (by rw [if_pos h207]) (X.more (by decide) (by decide))
    · skip
      refine k_iload C X at_210 rfl rfl ?_
      refine k_if_eq C X at_212 rfl (tpc := 233) rfl (fun h212 => ?_) (fun h212 => ?_)
      · skip
        exact J207_233 _ _ (by rw [if_neg h207, if_pos h212]) (X.more (by decide) (by decide))
      · skip
        refine k_dload C X at_215 rfl rfl ?_
        refine k_iload C X at_217 rfl rfl ?_
        refine k_iconst C X at_219 rfl (v := 0) rfl ?_
        refine k_static C X at_220 rfl (hw _ (List.mem_of_getElem? (i := 13) rfl)) (hw _ (List.mem_of_getElem? (i := 14) rfl)) (hw _ (List.mem_of_getElem? (i := 9) rfl)) (hw _ (List.mem_of_getElem? (i := 15) rfl)) (by decide) (own_cval l Z a0 hw x4 (0) ([(va2, own_ob Z "com/example/fuzzsub/fuzzsub/service/SparseVector" [("dimensions", "[I", (.ref vd2)), ("values", "[D", (.ref vq2))]), (vq2, own_ar Z .double ((own_sel y124_0 y143_0 y162_0 s0 s1 s2 x5).map fun p => Value.double p.2)), (vd2, own_ar Z .int ((own_sel y124_0 y143_0 y162_0 s0 s1 s2 x5).map fun p => Value.int p.1)), (va1, own_ob Z "com/example/fuzzsub/fuzzsub/service/SparseVector" [("dimensions", "[I", (.ref vd1)), ("values", "[D", (.ref vq1))]), (vq1, own_ar Z .double ((own_sel y74_0 y92_0 y110_0 s0 s1 s2 x4).map fun p => Value.double p.2)), (vd1, own_ar Z .int ((own_sel y74_0 y92_0 y110_0 s0 s1 s2 x4).map fun p => Value.int p.1))])) (W := 2) (argsL := [(.int x4), (.int (0))]) (rest := [(.double 0)]) rfl rfl rfl own_pd1 rfl (Nat.le_of_eq rfl) (by decide) (by decide) (by decide) (by decide) (fun v T M hQ X => ?_)
        obtain ⟨rfl, rfl⟩ := hQ
        refine k_iload C X at_223 rfl rfl ?_
        refine k_iconst C X at_225 rfl (v := 0) rfl ?_
        refine k_static C X at_226 rfl (hw _ (List.mem_of_getElem? (i := 13) rfl)) (hw _ (List.mem_of_getElem? (i := 14) rfl)) (hw _ (List.mem_of_getElem? (i := 9) rfl)) (hw _ (List.mem_of_getElem? (i := 15) rfl)) (by decide) (own_cval l Z a0 hw x5 (0) ([(va2, own_ob Z "com/example/fuzzsub/fuzzsub/service/SparseVector" [("dimensions", "[I", (.ref vd2)), ("values", "[D", (.ref vq2))]), (vq2, own_ar Z .double ((own_sel y124_0 y143_0 y162_0 s0 s1 s2 x5).map fun p => Value.double p.2)), (vd2, own_ar Z .int ((own_sel y124_0 y143_0 y162_0 s0 s1 s2 x5).map fun p => Value.int p.1)), (va1, own_ob Z "com/example/fuzzsub/fuzzsub/service/SparseVector" [("dimensions", "[I", (.ref vd1)), ("values", "[D", (.ref vq1))]), (vq1, own_ar Z .double ((own_sel y74_0 y92_0 y110_0 s0 s1 s2 x4).map fun p => Value.double p.2)), (vd1, own_ar Z .int ((own_sel y74_0 y92_0 y110_0 s0 s1 s2 x4).map fun p => Value.int p.1))])) (W := 4) (argsL := [(.int x5), (.int (0))]) (rest := [(.double (FP.i2d (own_val x4 (0)))), (.double 0)]) rfl rfl rfl own_pd1 rfl (Nat.le_of_eq rfl) (by decide) (by decide) (by decide) (by decide) (fun v T M hQ X => ?_)
        obtain ⟨rfl, rfl⟩ := hQ
        refine k_dmulE C X at_229 rfl (own_vv _ _ _ _) ?_
        refine k_daddE C X at_230 rfl ((own_BB.z.add (by decide) _ _ _).nn) ?_
        refine k_dstore C X at_231 rfl (l' := #[.val (.int x0), .val (.int x1), .val (.int x2), .val (.int x3), .val (.int x4), .val (.int x5), .val (.int s0), .val (.int s2), .val (.int s1), .val (.int y47_0), .val (.int y61_0), .val (.int y74_0), .val (.int y92_0), .val (.int y110_0), .val (.int y124_0), .val (.int y143_0), .val (.int y162_0), .val (.ref va1), .val (.ref va2), .val (.double (FP.dadd 0 (FP.dmul (FP.i2d (own_val x4 (0))) (FP.i2d (own_val x5 (0)))))), .second]) rfl ?_
        exact J207_233 _ _ (by rw [if_neg h207, if_neg h212]) (X.more (by decide) (by decide))
  intro T z233_19 e_z233_19 X
  refine k_iload C X at_233 rfl rfl ?_
  suffices J235_261 : ∀ (T' : State) (z261_19 : UInt64) (e_z261_19 : z261_19 = (if y92_0 = 0 then z233_19 else (if y143_0 = 0 then z233_19 else (FP.dadd z233_19 (FP.dmul (FP.i2d (own_val x4 (1))) (FP.i2d (own_val x5 (1)))))))) (X' : own_S p l e room_1 s m #[(.int x0), (.int x1), (.int x2), (.int x3), (.int x4), (.int x5)] below meth c Z T' ([(va2, own_ob Z "com/example/fuzzsub/fuzzsub/service/SparseVector" [("dimensions", "[I", (.ref vd2)), ("values", "[D", (.ref vq2))]), (vq2, own_ar Z .double ((own_sel y124_0 y143_0 y162_0 s0 s1 s2 x5).map fun p => Value.double p.2)), (vd2, own_ar Z .int ((own_sel y124_0 y143_0 y162_0 s0 s1 s2 x5).map fun p => Value.int p.1)), (va1, own_ob Z "com/example/fuzzsub/fuzzsub/service/SparseVector" [("dimensions", "[I", (.ref vd1)), ("values", "[D", (.ref vq1))]), (vq1, own_ar Z .double ((own_sel y74_0 y92_0 y110_0 s0 s1 s2 x4).map fun p => Value.double p.2)), (vd1, own_ar Z .int ((own_sel y74_0 y92_0 y110_0 s0 s1 s2 x4).map fun p => Value.int p.1))]) 6 16), own_Go p.tables e below (own_E Z s room_1 (fun v M => v = some (.int 1))) (T'.setTop (mkF m 261 #[.val (.int x0), .val (.int x1), .val (.int x2), .val (.int x3), .val (.int x4), .val (.int x5), .val (.int s0), .val (.int s2), .val (.int s1), .val (.int y47_0), .val (.int y61_0), .val (.int y74_0), .val (.int y92_0), .val (.int y110_0), .val (.int y124_0), .val (.int y143_0), .val (.int y162_0), .val (.ref va1), .val (.ref va2), .val (.double z261_19), .second] [])) by
    refine k_if_eq C X at_235 rfl (tpc := 261) rfl (fun h235 => ?_) (fun h235 => ?_)
    · skip
      exact J235_261 _ _ (by rw [if_pos h235]) (X.more (by decide) (by decide))
    · skip
      refine k_iload C X at_238 rfl rfl ?_
      refine k_if_eq C X at_240 rfl (tpc := 261) rfl (fun h240 => ?_) (fun h240 => ?_)
      · skip
        exact J235_261 _ _ (by rw [if_neg h235, if_pos h240]) (X.more (by decide) (by decide))
      · skip
        refine k_dload C X at_243 rfl rfl ?_
        refine k_iload C X at_245 rfl rfl ?_
        refine k_iconst C X at_247 rfl (v := 1) rfl ?_
        refine k_static C X at_248 rfl (hw _ (List.mem_of_getElem? (i := 13) rfl)) (hw _ (List.mem_of_getElem? (i := 14) rfl)) (hw _ (List.mem_of_getElem? (i := 9) rfl)) (hw _ (List.mem_of_getElem? (i := 15) rfl)) (by decide) (own_cval l Z a0 hw x4 (1) ([(va2, own_ob Z "com/example/fuzzsub/fuzzsub/service/SparseVector" [("dimensions", "[I", (.ref vd2)), ("values", "[D", (.ref vq2))]), (vq2, own_ar Z .double ((own_sel y124_0 y143_0 y162_0 s0 s1 s2 x5).map fun p => Value.double p.2)), (vd2, own_ar Z .int ((own_sel y124_0 y143_0 y162_0 s0 s1 s2 x5).map fun p => Value.int p.1)), (va1, own_ob Z "com/example/fuzzsub/fuzzsub/service/SparseVector" [("dimensions", "[I", (.ref vd1)), ("values", "[D", (.ref vq1))]), (vq1, own_ar Z .double ((own_sel y74_0 y92_0 y110_0 s0 s1 s2 x4).map fun p => Value.double p.2)), (vd1, own_ar Z .int ((own_sel y74_0 y92_0 y110_0 s0 s1 s2 x4).map fun p => Value.int p.1))])) (W := 2) (argsL := [(.int x4), (.int (1))]) (rest := [(.double z233_19)]) rfl rfl rfl own_pd1 rfl (Nat.le_of_eq rfl) (by decide) (by decide) (by decide) (by decide) (fun v T M hQ X => ?_)
        obtain ⟨rfl, rfl⟩ := hQ
        refine k_iload C X at_251 rfl rfl ?_
        refine k_iconst C X at_253 rfl (v := 1) rfl ?_
        refine k_static C X at_254 rfl (hw _ (List.mem_of_getElem? (i := 13) rfl)) (hw _ (List.mem_of_getElem? (i := 14) rfl)) (hw _ (List.mem_of_getElem? (i := 9) rfl)) (hw _ (List.mem_of_getElem? (i := 15) rfl)) (by decide) (own_cval l Z a0 hw x5 (1) ([(va2, own_ob Z "com/example/fuzzsub/fuzzsub/service/SparseVector" [("dimensions", "[I", (.ref vd2)), ("values", "[D", (.ref vq2))]), (vq2, own_ar Z .double ((own_sel y124_0 y143_0 y162_0 s0 s1 s2 x5).map fun p => Value.double p.2)), (vd2, own_ar Z .int ((own_sel y124_0 y143_0 y162_0 s0 s1 s2 x5).map fun p => Value.int p.1)), (va1, own_ob Z "com/example/fuzzsub/fuzzsub/service/SparseVector" [("dimensions", "[I", (.ref vd1)), ("values", "[D", (.ref vq1))]), (vq1, own_ar Z .double ((own_sel y74_0 y92_0 y110_0 s0 s1 s2 x4).map fun p => Value.double p.2)), (vd1, own_ar Z .int ((own_sel y74_0 y92_0 y110_0 s0 s1 s2 x4).map fun p => Value.int p.1))])) (W := 4) (argsL := [(.int x5), (.int (1))]) (rest := [(.double (FP.i2d (own_val x4 (1)))), (.double z233_19)]) rfl rfl rfl own_pd1 rfl (Nat.le_of_eq rfl) (by decide) (by decide) (by decide) (by decide) (fun v T M hQ X => ?_)
        obtain ⟨rfl, rfl⟩ := hQ
        refine k_dmulE C X at_257 rfl (own_vv _ _ _ _) ?_
        refine k_daddE C X at_258 rfl (((own_BB.z.ite (by decide) e_z233_19).add (by decide) _ _ _).nn) ?_
        refine k_dstore C X at_259 rfl (l' := #[.val (.int x0), .val (.int x1), .val (.int x2), .val (.int x3), .val (.int x4), .val (.int x5), .val (.int s0), .val (.int s2), .val (.int s1), .val (.int y47_0), .val (.int y61_0), .val (.int y74_0), .val (.int y92_0), .val (.int y110_0), .val (.int y124_0), .val (.int y143_0), .val (.int y162_0), .val (.ref va1), .val (.ref va2), .val (.double (FP.dadd z233_19 (FP.dmul (FP.i2d (own_val x4 (1))) (FP.i2d (own_val x5 (1)))))), .second]) rfl ?_
        exact J235_261 _ _ (by rw [if_neg h235, if_neg h240]) (X.more (by decide) (by decide))
  intro T z261_19 e_z261_19 X
  refine k_iload C X at_261 rfl rfl ?_
  suffices J263_289 : ∀ (T' : State) (z289_19 : UInt64) (e_z289_19 : z289_19 = (if y110_0 = 0 then z261_19 else (if y162_0 = 0 then z261_19 else (FP.dadd z261_19 (FP.dmul (FP.i2d (own_val x4 (2))) (FP.i2d (own_val x5 (2)))))))) (X' : own_S p l e room_1 s m #[(.int x0), (.int x1), (.int x2), (.int x3), (.int x4), (.int x5)] below meth c Z T' ([(va2, own_ob Z "com/example/fuzzsub/fuzzsub/service/SparseVector" [("dimensions", "[I", (.ref vd2)), ("values", "[D", (.ref vq2))]), (vq2, own_ar Z .double ((own_sel y124_0 y143_0 y162_0 s0 s1 s2 x5).map fun p => Value.double p.2)), (vd2, own_ar Z .int ((own_sel y124_0 y143_0 y162_0 s0 s1 s2 x5).map fun p => Value.int p.1)), (va1, own_ob Z "com/example/fuzzsub/fuzzsub/service/SparseVector" [("dimensions", "[I", (.ref vd1)), ("values", "[D", (.ref vq1))]), (vq1, own_ar Z .double ((own_sel y74_0 y92_0 y110_0 s0 s1 s2 x4).map fun p => Value.double p.2)), (vd1, own_ar Z .int ((own_sel y74_0 y92_0 y110_0 s0 s1 s2 x4).map fun p => Value.int p.1))]) 6 16), own_Go p.tables e below (own_E Z s room_1 (fun v M => v = some (.int 1))) (T'.setTop (mkF m 289 #[.val (.int x0), .val (.int x1), .val (.int x2), .val (.int x3), .val (.int x4), .val (.int x5), .val (.int s0), .val (.int s2), .val (.int s1), .val (.int y47_0), .val (.int y61_0), .val (.int y74_0), .val (.int y92_0), .val (.int y110_0), .val (.int y124_0), .val (.int y143_0), .val (.int y162_0), .val (.ref va1), .val (.ref va2), .val (.double z289_19), .second] [])) by
    refine k_if_eq C X at_263 rfl (tpc := 289) rfl (fun h263 => ?_) (fun h263 => ?_)
    · skip
      exact J263_289 _ _ (by rw [if_pos h263]) (X.more (by decide) (by decide))
    · skip
      refine k_iload C X at_266 rfl rfl ?_
      refine k_if_eq C X at_268 rfl (tpc := 289) rfl (fun h268 => ?_) (fun h268 => ?_)
      · skip
        exact J263_289 _ _ (by rw [if_neg h263, if_pos h268]) (X.more (by decide) (by decide))
      · skip
        refine k_dload C X at_271 rfl rfl ?_
        refine k_iload C X at_273 rfl rfl ?_
        refine k_iconst C X at_275 rfl (v := 2) rfl ?_
        refine k_static C X at_276 rfl (hw _ (List.mem_of_getElem? (i := 13) rfl)) (hw _ (List.mem_of_getElem? (i := 14) rfl)) (hw _ (List.mem_of_getElem? (i := 9) rfl)) (hw _ (List.mem_of_getElem? (i := 15) rfl)) (by decide) (own_cval l Z a0 hw x4 (2) ([(va2, own_ob Z "com/example/fuzzsub/fuzzsub/service/SparseVector" [("dimensions", "[I", (.ref vd2)), ("values", "[D", (.ref vq2))]), (vq2, own_ar Z .double ((own_sel y124_0 y143_0 y162_0 s0 s1 s2 x5).map fun p => Value.double p.2)), (vd2, own_ar Z .int ((own_sel y124_0 y143_0 y162_0 s0 s1 s2 x5).map fun p => Value.int p.1)), (va1, own_ob Z "com/example/fuzzsub/fuzzsub/service/SparseVector" [("dimensions", "[I", (.ref vd1)), ("values", "[D", (.ref vq1))]), (vq1, own_ar Z .double ((own_sel y74_0 y92_0 y110_0 s0 s1 s2 x4).map fun p => Value.double p.2)), (vd1, own_ar Z .int ((own_sel y74_0 y92_0 y110_0 s0 s1 s2 x4).map fun p => Value.int p.1))])) (W := 2) (argsL := [(.int x4), (.int (2))]) (rest := [(.double z261_19)]) rfl rfl rfl own_pd1 rfl (Nat.le_of_eq rfl) (by decide) (by decide) (by decide) (by decide) (fun v T M hQ X => ?_)
        obtain ⟨rfl, rfl⟩ := hQ
        refine k_iload C X at_279 rfl rfl ?_
        refine k_iconst C X at_281 rfl (v := 2) rfl ?_
        refine k_static C X at_282 rfl (hw _ (List.mem_of_getElem? (i := 13) rfl)) (hw _ (List.mem_of_getElem? (i := 14) rfl)) (hw _ (List.mem_of_getElem? (i := 9) rfl)) (hw _ (List.mem_of_getElem? (i := 15) rfl)) (by decide) (own_cval l Z a0 hw x5 (2) ([(va2, own_ob Z "com/example/fuzzsub/fuzzsub/service/SparseVector" [("dimensions", "[I", (.ref vd2)), ("values", "[D", (.ref vq2))]), (vq2, own_ar Z .double ((own_sel y124_0 y143_0 y162_0 s0 s1 s2 x5).map fun p => Value.double p.2)), (vd2, own_ar Z .int ((own_sel y124_0 y143_0 y162_0 s0 s1 s2 x5).map fun p => Value.int p.1)), (va1, own_ob Z "com/example/fuzzsub/fuzzsub/service/SparseVector" [("dimensions", "[I", (.ref vd1)), ("values", "[D", (.ref vq1))]), (vq1, own_ar Z .double ((own_sel y74_0 y92_0 y110_0 s0 s1 s2 x4).map fun p => Value.double p.2)), (vd1, own_ar Z .int ((own_sel y74_0 y92_0 y110_0 s0 s1 s2 x4).map fun p => Value.int p.1))])) (W := 4) (argsL := [(.int x5), (.int (2))]) (rest := [(.double (FP.i2d (own_val x4 (2)))), (.double z261_19)]) rfl rfl rfl own_pd1 rfl (Nat.le_of_eq rfl) (by decide) (by decide) (by decide) (by decide) (fun v T M hQ X => ?_)
        obtain ⟨rfl, rfl⟩ := hQ
        refine k_dmulE C X at_285 rfl (own_vv _ _ _ _) ?_
        refine k_daddE C X at_286 rfl ((((own_BB.z.ite (by decide) e_z233_19).ite (by decide) e_z261_19).add (by decide) _ _ _).nn) ?_
        refine k_dstore C X at_287 rfl (l' := #[.val (.int x0), .val (.int x1), .val (.int x2), .val (.int x3), .val (.int x4), .val (.int x5), .val (.int s0), .val (.int s2), .val (.int s1), .val (.int y47_0), .val (.int y61_0), .val (.int y74_0), .val (.int y92_0), .val (.int y110_0), .val (.int y124_0), .val (.int y143_0), .val (.int y162_0), .val (.ref va1), .val (.ref va2), .val (.double (FP.dadd z261_19 (FP.dmul (FP.i2d (own_val x4 (2))) (FP.i2d (own_val x5 (2)))))), .second]) rfl ?_
        exact J263_289 _ _ (by rw [if_neg h263, if_neg h268]) (X.more (by decide) (by decide))
  intro T z289_19 e_z289_19 X
  refine k_aload C X at_289 rfl rfl rfl ?_
  refine k_aload C X at_291 rfl rfl rfl ?_
  replace X := own_swap3 X
  refine k_virtual C X at_293 rfl (hw _ (List.mem_of_getElem? (i := 29) rfl)) (hw _ (List.mem_of_getElem? (i := 30) rfl)) (hw _ (List.mem_of_getElem? (i := 18) rfl)) (hw _ (List.mem_of_getElem? (i := 33) rfl)) (hw _ (List.mem_of_getElem? (i := 32) rfl)) (hw _ (List.mem_of_getElem? (i := 31) rfl)) (by decide) (own_nf C.2.2.2.1 (hw _ (List.mem_of_getElem? (i := 32) rfl))) (own_eL (ix := 0) rfl) (own_cdot l Z a0 hw va1 vd1 vq1 va2 vd2 vq2 (own_sel y74_0 y92_0 y110_0 s0 s1 s2 x4) (own_sel y124_0 y143_0 y162_0 s0 s1 s2 x5) (own_sel_len _ _ _ _ _ _ _) (own_sel_len _ _ _ _ _ _ _) (own_sel_sm _ _ _ _ _ _ _) (own_sel_sm _ _ _ _ _ _ _) ([])) (W := 0) (argsL := [(.ref va2)]) (rest := []) rfl rfl rfl own_pd4 rfl (Nat.le_of_eq rfl) (by decide) (by decide) (by decide) (by decide) (fun v T M hQ X => ?_)
  obtain ⟨rfl, rfl⟩ := hQ
  refine k_dload C X at_296 rfl rfl ?_
  refine k_dcmpl C X at_298 rfl ?_
  have hfin := own_dotfin e_s0 e_s2 e_s1 e_y47_0 e_y61_0 e_y74_0 e_y92_0 e_y110_0 e_y124_0 e_y143_0 e_y162_0 e_z233_19 e_z261_19 e_z289_19
  refine k_ifdl_ne C X at_299 rfl (tpc := 319) rfl (fun hc => (hc hfin.1 : False).elim) (fun _ => ?_)
  refine k_aload C X at_302 rfl rfl rfl ?_
  refine k_aload C X at_304 rfl rfl rfl ?_
  replace X := own_swap3 X
  refine k_virtual C X at_306 rfl (hw _ (List.mem_of_getElem? (i := 29) rfl)) (hw _ (List.mem_of_getElem? (i := 30) rfl)) (hw _ (List.mem_of_getElem? (i := 18) rfl)) (hw _ (List.mem_of_getElem? (i := 33) rfl)) (hw _ (List.mem_of_getElem? (i := 32) rfl)) (hw _ (List.mem_of_getElem? (i := 31) rfl)) (by decide) (own_nf C.2.2.2.1 (hw _ (List.mem_of_getElem? (i := 32) rfl))) (own_eL (ix := 0) rfl) (own_cdot l Z a0 hw va2 vd2 vq2 va1 vd1 vq1 (own_sel y124_0 y143_0 y162_0 s0 s1 s2 x5) (own_sel y74_0 y92_0 y110_0 s0 s1 s2 x4) (own_sel_len _ _ _ _ _ _ _) (own_sel_len _ _ _ _ _ _ _) (own_sel_sm _ _ _ _ _ _ _) (own_sel_sm _ _ _ _ _ _ _) ([])) (W := 0) (argsL := [(.ref va1)]) (rest := []) rfl rfl rfl own_pd4 rfl (Nat.le_of_eq rfl) (by decide) (by decide) (by decide) (by decide) (fun v T M hQ X => ?_)
  obtain ⟨rfl, rfl⟩ := hQ
  refine k_dload C X at_309 rfl rfl ?_
  refine k_dcmpl C X at_311 rfl ?_
  refine k_ifdl_ne C X at_312 rfl (tpc := 319) rfl (fun hc => (hc hfin.2 : False).elim) (fun _ => ?_)
  refine k_iconst C X at_315 rfl (v := 1) rfl ?_
  refine k_goto C X at_316 (tpc := 320) rfl ?_
  exact k_ireturn C X at_320 (by simp) rfl rfl (by decide) (by decide)
set_option maxRecDepth 65536 in
set_option maxHeartbeats 40000000 in
theorem comes_1 {Post : Tables → Env → Array Value → State → Outcome → State → Prop} (hpost : ∀ tb e args s v u, (limb_1_1.after args s (.returned v) u = true ∧ limb_1_2.after args s (.returned v) u = true ∧ True) → FrameEnd s (.returned v) u (Jvm.fieldLocs frame_1_writes args s ++ Jvm.arrayLocs frame_1_arrays args s ++ Jvm.staticLocs frame_1_statics s) 24 128 → Post tb e args s (.returned v) u) :
    ArmFor flags0 classFile x code maxLocals ret World_1 tables_1 room_1 Calls_1 rest_1 Pre_1 Post := by
  intro l hfl _ _ p e ha hc hk s m args below hf hA hF happ hP
  obtain ⟨hcalls, hrest, hpre⟩ := hP
  obtain ⟨-, -, -, hnamed, -, -, -, hat⟩ := (Spec.applies_iff hf).mp happ
  obtain ⟨hg, hn⟩ := and_e (Cond.before_iff.mp (show (Jvm.Cond.and given_1 narrow_1).before args s = true from hpre))
  obtain ⟨hcount, hg⟩ := and_e hg
  obtain ⟨g0, hg⟩ := and_e hg
  obtain ⟨g1, hg⟩ := and_e hg
  obtain ⟨g2, hg⟩ := and_e hg
  obtain ⟨g3, hg⟩ := and_e hg
  obtain ⟨g4, hg⟩ := and_e hg
  have g5 := hg
  obtain ⟨w0, w1, w2, w3, w4, w5, rfl⟩ : ∃ w0 w1 w2 w3 w4 w5 : Value, args = #[w0, w1, w2, w3, w4, w5] := by
    have hs : args.size = 6 := by simpa [Cond.value, given_1] using hcount
    obtain ⟨L⟩ := args
    match L, hs with
    | [w0, w1, w2, w3, w4, w5], _ => exact ⟨w0, w1, w2, w3, w4, w5, rfl⟩
  have hw := fun d (hd : d ∈ tables_1) => atoms_spec (ws := Jvm.Cond.code x code maxLocals ret :: tables_1) hat d (List.mem_cons_of_mem _ hd)
  have hfit : Fit s := fun {y c} hc i hi => by
    obtain ⟨ha, rfl⟩ := Array.getElem?_eq_some_iff.mp hc
    have q := List.all_eq_true.mp ((Array.all_eq_true_iff_forall_mem.mp hF) _ (Array.getElem_mem ha)) i (List.mem_range.mpr hi)
    simpa [Array.getElem?_eq_getElem hi] using q
  obtain ⟨i0, e0⟩ := is_v g0
  obtain rfl : w0 = (.int i0) := Option.some.inj e0
  obtain ⟨i1, e1⟩ := is_v g1
  obtain rfl : w1 = (.int i1) := Option.some.inj e1
  obtain ⟨i2, e2⟩ := is_v g2
  obtain rfl : w2 = (.int i2) := Option.some.inj e2
  obtain ⟨i3, e3⟩ := is_v g3
  obtain rfl : w3 = (.int i3) := Option.some.inj e3
  obtain ⟨i4, e4⟩ := is_v g4
  obtain rfl : w4 = (.int i4) := Option.some.inj e4
  obtain ⟨i5, e5⟩ := is_v g5
  obtain rfl : w5 = (.int i5) := Option.some.inj e5
  have hH : own_H s.heap s.heap [] := ⟨⟨Nat.le_refl _, fun _ _ q => q⟩, fun _ q => (nomatch q), List.nodup_nil⟩
  obtain ⟨n, o, h1, h2, h3, v, M, L, rfl, rfl, -, N, hq⟩ := (own_law l s _ hw i0 i1 i2 i3 i4 i5) tables_1 p e ha hc hk s m _ below hf ((Spec.applies_iff_loose hf).mp happ).1 ⟨rfl, State.Warmed39.refl s, hH⟩ trivial
  refine ⟨n, _, h1, h2, h3, hpost _ _ _ _ _ _ ⟨Cond.after_iff.mpr rfl, Cond.after_iff.mpr (eq_i res_at (Term.int_eval (1)) rfl), trivial⟩ ⟨hq.1, hq.2.1, (hq.2.2.sift fun y hy => Or.inr (N y hy)).mono (by decide) (by decide)⟩⟩
theorem main_1_1 : Claimed_1_1 := comes_1 fun _ _ _ _ _ _ h hF => ⟨h.1, hF⟩
theorem main_1_2 : Claimed_1_2 := comes_1 fun _ _ _ _ _ _ h hF => ⟨h.2.1, hF⟩
end Jvm.Pilot.@@N@@
namespace Jvm.Pilot.@@N@@
open Jvm Jvm.ClassFile Sem Op Lib Jvm.Free Jvm.Stand Jvm.Pilot.@@N@@.Jvm.D
/-! MADE BY PROGRAM (witnessworld.py) out of the Statement's table words and the real class files: 12 classes; the members and pool entries that the words name. The judged class is class 1, her method 1. -/
namespace start1
open Jvm.ClassFile
def u (s : String) : CpInfo := .utf8 (stringToUtf16 s)
/-- a pool by its gaps: so many unusable entries, then the entry; so many at the end -/
def gap : Nat → List CpInfo → List CpInfo
  | 0, r => r
  | n + 1, r => .unusable :: gap n r
def poolList (es : List (Nat × CpInfo)) (last : Nat) : List CpInfo := es.foldr (fun e r => gap e.1 (e.2 :: r)) (gap last [])
def pool (es : List (Nat × CpInfo)) (last : Nat) : Array CpInfo := ⟨poolList es last⟩
def fileOf (pool : Array CpInfo) (this : Nat) (attrs : Array Attribute := #[]) (ms : Array MethodInfo := #[]) (fl : Nat := 33) (sup : Nat := 0) (ifs : Array Nat := #[]) (fds : Array FieldInfo := #[]) : ClassFile where
  minorVersion := 0
  majorVersion := 65
  constantPool := pool
  accessFlags := fl
  thisClass := this
  superClass := sup
  interfaces := ifs
  fields := fds
  methods := ms
  attributes := attrs
def plain (name : String) (sup : Option ClassId) : Class where
  name := name
  kind := .ordinary
  loader := none
  accessFlags := 33
  super := sup
  interfaces := #[]
  cf := none
  fields := #[]
  methods := #[]
  instanceTypes := #[]
  staticTypes := #[]
  resolved := #[]
  callSites := []
  init := .initialized
  statics := none
  mirror := none

def pool0 : Array CpInfo := pool [(5, u "<init>"), (0, u "()V"), (1, .class_ 10), (1, u "java/lang/Object")] 113

def k0c0 : Code := { maxStack := 0, maxLocals := 1, code := object_method_1_code, exceptionTable := #[], attributes := #[] }
def k0m0 : Method := { name := "<init>", desc := "()V", sig := { parameters := [], returnType := none }, accessFlags := 1, code := some k0c0 }
/-- java/lang/Object -/
def k0 : Class := { plain "java/lang/Object" none with
  accessFlags := 33
  interfaces := #[]
  cf := some (fileOf pool0 8 #[] #[{ accessFlags := 1, nameIndex := 5, descriptorIndex := 6, attributes := #[] }] 33 0 #[] #[])
  fields := #[]
  methods := #[k0m0]
  instanceTypes := #[]
  staticTypes := #[]
  resolved := Array.replicate 124 none
  statics := none }

def pool1 : Array CpInfo := pool [(2, .class_ 4), (1, u "java/lang/Object"), (0, u "<init>"), (0, u "()V"), (0, .methodref 8 9), (0, .class_ 10), (0, .nameAndType 11 12), (0, u "java/lang/Math"), (0, u "min"), (0, u "(II)I"), (0, .methodref 8 14), (0, .nameAndType 15 12), (0, u "max"), (0, .methodref 17 18), (0, .class_ 19), (0, .nameAndType 20 21), (0, u "com/example/fuzzsub/fuzzsub/service/SparseVectorDotPinLaw"), (0, u "make"), (0, u "(ZZZIIII)Lcom/example/fuzzsub/fuzzsub/service/SparseVector;"), (0, .methodref 17 23), (0, .nameAndType 24 25), (0, u "val"), (0, u "(II)D"), (0, .methodref 27 28), (0, .class_ 29), (0, .nameAndType 30 31), (0, u "com/example/fuzzsub/fuzzsub/service/SparseVector"), (0, u "dot"), (0, u "(Lcom/example/fuzzsub/fuzzsub/service/SparseVector;)D"), (0, .methodref 27 33), (0, .nameAndType 5 34), (0, u "([I[D)V"), (2, u "law"), (0, u "(IIIIII)Z")] 7

def k1m0 : Method := { name := "<init>", desc := "()V", sig := { parameters := [], returnType := none }, accessFlags := 1, code := none }
def k1c1 : Code := { maxStack := 7, maxLocals := 21, code := code, exceptionTable := #[], attributes := #[] }
def k1m1 : Method := { name := "law", desc := "(IIIIII)Z", sig := { parameters := [.int, .int, .int, .int, .int, .int], returnType := some .boolean }, accessFlags := 9, code := some k1c1 }
def k1c2 : Code := { maxStack := 3, maxLocals := 3, code := method_3_code, exceptionTable := #[], attributes := #[] }
def k1m2 : Method := { name := "val", desc := "(II)D", sig := { parameters := [.int, .int], returnType := some .double }, accessFlags := 10, code := some k1c2 }
def k1c3 : Code := { maxStack := 4, maxLocals := 11, code := method_4_code, exceptionTable := #[], attributes := #[] }
def k1m3 : Method := { name := "make", desc := "(ZZZIIII)Lcom/example/fuzzsub/fuzzsub/service/SparseVector;", sig := { parameters := [.boolean, .boolean, .boolean, .int, .int, .int, .int], returnType := some (.object "com/example/fuzzsub/fuzzsub/service/SparseVector") }, accessFlags := 10, code := some k1c3 }
/-- com/example/fuzzsub/fuzzsub/service/SparseVectorDotPinLaw -/
def k1 : Class := { plain "com/example/fuzzsub/fuzzsub/service/SparseVectorDotPinLaw" (some 0) with
  accessFlags := 49
  interfaces := #[]
  cf := some (fileOf pool1 17 #[] #[{ accessFlags := 1, nameIndex := 5, descriptorIndex := 6, attributes := #[] }, { accessFlags := 9, nameIndex := 37, descriptorIndex := 38, attributes := #[] }, { accessFlags := 10, nameIndex := 24, descriptorIndex := 25, attributes := #[] }, { accessFlags := 10, nameIndex := 20, descriptorIndex := 21, attributes := #[] }] 49 2 #[] #[])
  fields := #[]
  methods := #[k1m0, k1m1, k1m2, k1m3]
  instanceTypes := #[]
  staticTypes := #[]
  resolved := Array.replicate 46 none
  statics := none }

def pool2 : Array CpInfo := pool [(1, .class_ 2), (0, u "java/lang/Math"), (1, .class_ 6), (1, u "java/lang/Object"), (0, u "<init>"), (0, u "()V"), (89, .class_ 100), (1, u "java/lang/Math$RandomNumberGeneratorHolder"), (71, u "negativeZeroFloatBits"), (0, u "J"), (2, u "negativeZeroDoubleBits"), (21, u "max"), (2, u "min"), (43, u "$assertionsDisabled"), (0, u "Z"), (88, u "(II)I"), (2, u "twoToTheDoubleScaleDown"), (0, u "D"), (4, u "twoToTheDoubleScaleUp"), (9, u "E"), (3, u "PI"), (2, u "TAU"), (2, u "DEGREES_TO_RADIANS"), (0, u "RADIANS_TO_DEGREES")] 94

def k2m0 : Method := { name := "<init>", desc := "()V", sig := { parameters := [], returnType := none }, accessFlags := 2, code := none }
def k2c1 : Code := { maxStack := 2, maxLocals := 2, code := jdk_29_method_65_code, exceptionTable := #[], attributes := #[] }
def k2m1 : Method := { name := "max", desc := "(II)I", sig := { parameters := [.int, .int], returnType := some .int }, accessFlags := 9, code := some k2c1 }
def k2c2 : Code := { maxStack := 2, maxLocals := 2, code := jdk_29_method_69_code, exceptionTable := #[], attributes := #[] }
def k2m2 : Method := { name := "min", desc := "(II)I", sig := { parameters := [.int, .int], returnType := some .int }, accessFlags := 9, code := some k2c2 }
/-- java/lang/Math -/
def k2 : Class := { plain "java/lang/Math" (some 0) with
  accessFlags := 49
  interfaces := #[]
  cf := some (fileOf pool2 1 #[.nestMembers #[98]] #[{ accessFlags := 2, nameIndex := 7, descriptorIndex := 8, attributes := #[] }, { accessFlags := 9, nameIndex := 198, descriptorIndex := 335, attributes := #[] }, { accessFlags := 9, nameIndex := 201, descriptorIndex := 335, attributes := #[] }] 49 4 #[] #[{ accessFlags := 25, nameIndex := 354, descriptorIndex := 339, attributes := #[] }, { accessFlags := 25, nameIndex := 358, descriptorIndex := 339, attributes := #[] }, { accessFlags := 25, nameIndex := 361, descriptorIndex := 339, attributes := #[] }, { accessFlags := 26, nameIndex := 364, descriptorIndex := 339, attributes := #[] }, { accessFlags := 26, nameIndex := 365, descriptorIndex := 339, attributes := #[] }, { accessFlags := 26, nameIndex := 172, descriptorIndex := 173, attributes := #[] }, { accessFlags := 26, nameIndex := 176, descriptorIndex := 173, attributes := #[] }, { accessFlags := 8, nameIndex := 344, descriptorIndex := 339, attributes := #[] }, { accessFlags := 8, nameIndex := 338, descriptorIndex := 339, attributes := #[] }, { accessFlags := 4120, nameIndex := 245, descriptorIndex := 246, attributes := #[] }])
  fields := #[{ name := "E", type := .double, accessFlags := 25, slot := 0, constantValue := 0 }, { name := "PI", type := .double, accessFlags := 25, slot := 1, constantValue := 0 }, { name := "TAU", type := .double, accessFlags := 25, slot := 2, constantValue := 0 }, { name := "DEGREES_TO_RADIANS", type := .double, accessFlags := 26, slot := 3, constantValue := 0 }, { name := "RADIANS_TO_DEGREES", type := .double, accessFlags := 26, slot := 4, constantValue := 0 }, { name := "negativeZeroFloatBits", type := .long, accessFlags := 26, slot := 5, constantValue := 0 }, { name := "negativeZeroDoubleBits", type := .long, accessFlags := 26, slot := 6, constantValue := 0 }, { name := "twoToTheDoubleScaleUp", type := .double, accessFlags := 8, slot := 7, constantValue := 0 }, { name := "twoToTheDoubleScaleDown", type := .double, accessFlags := 8, slot := 8, constantValue := 0 }, { name := "$assertionsDisabled", type := .boolean, accessFlags := 4120, slot := 9, constantValue := 0 }]
  methods := #[k2m0, k2m1, k2m2]
  instanceTypes := #[]
  staticTypes := #[.double, .double, .double, .double, .double, .long, .long, .double, .double, .boolean]
  resolved := Array.replicate 460 none
  statics := none }

def pool3 : Array CpInfo := pool [(1, .methodref 2 3), (0, .class_ 4), (0, .nameAndType 5 6), (0, u "java/lang/Object"), (0, u "<init>"), (0, u "()V"), (0, .fieldref 8 9), (0, .class_ 10), (0, .nameAndType 11 12), (0, u "com/example/fuzzsub/fuzzsub/service/SparseVector"), (0, u "dimensions"), (0, u "[I"), (0, .fieldref 8 14), (0, .nameAndType 15 16), (0, u "values"), (0, u "[D"), (20, u "([I[D)V"), (13, u "ZERO"), (0, u "Lcom/example/fuzzsub/fuzzsub/service/SparseVector;"), (17, u "dot"), (0, u "(Lcom/example/fuzzsub/fuzzsub/service/SparseVector;)D")] 9

def k3c0 : Code := { maxStack := 2, maxLocals := 3, code := prog_137_method_1_code, exceptionTable := #[], attributes := #[] }
def k3m0 : Method := { name := "<init>", desc := "([I[D)V", sig := { parameters := [(.array .int), (.array .double)], returnType := none }, accessFlags := 0, code := some k3c0 }
def k3c1 : Code := { maxStack := 6, maxLocals := 6, code := prog_137_method_8_code, exceptionTable := #[], attributes := #[] }
def k3m1 : Method := { name := "dot", desc := "(Lcom/example/fuzzsub/fuzzsub/service/SparseVector;)D", sig := { parameters := [(.object "com/example/fuzzsub/fuzzsub/service/SparseVector")], returnType := some .double }, accessFlags := 0, code := some k3c1 }
/-- com/example/fuzzsub/fuzzsub/service/SparseVector -/
def k3 : Class := { plain "com/example/fuzzsub/fuzzsub/service/SparseVector" (some 0) with
  accessFlags := 48
  interfaces := #[]
  cf := some (fileOf pool3 8 #[] #[{ accessFlags := 0, nameIndex := 5, descriptorIndex := 37, attributes := #[] }, { accessFlags := 0, nameIndex := 70, descriptorIndex := 71, attributes := #[] }] 48 2 #[] #[{ accessFlags := 24, nameIndex := 51, descriptorIndex := 52, attributes := #[] }, { accessFlags := 18, nameIndex := 11, descriptorIndex := 12, attributes := #[] }, { accessFlags := 18, nameIndex := 15, descriptorIndex := 16, attributes := #[] }])
  fields := #[{ name := "ZERO", type := (.object "com/example/fuzzsub/fuzzsub/service/SparseVector"), accessFlags := 24, slot := 0, constantValue := 0 }, { name := "dimensions", type := (.array .int), accessFlags := 18, slot := 0, constantValue := 0 }, { name := "values", type := (.array .double), accessFlags := 18, slot := 1, constantValue := 0 }]
  methods := #[k3m0, k3m1]
  instanceTypes := #[(.array .int), (.array .double)]
  staticTypes := #[(.object "com/example/fuzzsub/fuzzsub/service/SparseVector")]
  resolved := Array.replicate 81 none
  statics := none }

def pool4 : Array CpInfo := pool [(1, u "java/lang/Cloneable"), (0, .class_ 1), (0, u "java/lang/Object"), (0, .class_ 3)] 3

/-- java/lang/Cloneable -/
def k4 : Class := { plain "java/lang/Cloneable" (some 0) with
  accessFlags := 1537
  interfaces := #[]
  cf := some (fileOf pool4 2 #[] #[] 1537 4 #[] #[])
  fields := #[]
  methods := #[]
  instanceTypes := #[]
  staticTypes := #[]
  resolved := Array.replicate 8 none
  statics := none }

def pool5 : Array CpInfo := pool [(1, u "java/io/Serializable"), (0, .class_ 1), (0, u "java/lang/Object"), (0, .class_ 3)] 3

/-- java/io/Serializable -/
def k5 : Class := { plain "java/io/Serializable" (some 0) with
  accessFlags := 1537
  interfaces := #[]
  cf := some (fileOf pool5 2 #[] #[] 1537 4 #[] #[])
  fields := #[]
  methods := #[]
  instanceTypes := #[]
  staticTypes := #[]
  resolved := Array.replicate 8 none
  statics := none }

/-- the primitive byte -/
def k6 : Class := { plain "byte" none with kind := .primitive 'B', accessFlags := 0x411 }
/-- [B -/
def k7 : Class := { plain "[B" (some 0) with kind := .array 6 .byte, interfaces := #[4, 5], accessFlags := 1041 }

/-- the primitive double -/
def k8 : Class := { plain "double" none with kind := .primitive 'D', accessFlags := 0x411 }
/-- [D -/
def k9 : Class := { plain "[D" (some 0) with kind := .array 8 .double, interfaces := #[4, 5], accessFlags := 1041 }

/-- the primitive int -/
def k10 : Class := { plain "int" none with kind := .primitive 'I', accessFlags := 0x411 }
/-- [I -/
def k11 : Class := { plain "[I" (some 0) with kind := .array 10 .int, interfaces := #[4, 5], accessFlags := 1041 }

def heap : Heap := #[]
def classes : Array Class := #[k0, k1, k2, k3, k4, k5, k6, k7, k8, k9, k10, k11]
def interned : List (Array UInt16 × Addr) := []
def slotsUsed : Nat := 0
def theMethod : MethodId := ⟨1, 1⟩
def args0 : Array Value := #[.int 5, .int 2, .int 3, .int 4, .int 1, .int 6]
def aboutOver (below : List Frame) : State where
  vm := { classes := classes, interned := interned.toArray }
  heap := heap
  slotsUsed := slotsUsed
  threads := #[{ frames := .invoking theMethod args0 :: below }]
def below0 : List Frame := [.native { method := ⟨0, 0⟩, args := #[] }]
def about1 : State := aboutOver below0
def p0 : Program := .bare "" "" ""
def e0 : Env := launch0.env 0 0 0
theorem w_frames : about1.frames = Frame.invoking theMethod args0 :: below0 := rfl
set_option maxRecDepth 65536 in
theorem w_args : argsFit about1.vm theMethod args0 = true := by decide +kernel
set_option maxRecDepth 65536 in
theorem w_heap : heapFits about1 = true := by decide +kernel
set_option maxRecDepth 65536 in
theorem w_runnable : about1.curStatus? = some .runnable := by decide +kernel
set_option maxRecDepth 65536 in
theorem w_alone : about1.alone = true := by decide +kernel
set_option maxRecDepth 65536 in
theorem w_named : about1.methodNamed? x = some theMethod := by decide +kernel
set_option maxRecDepth 65536 in
theorem w_hears : about1.hears theMethod below0 = true := by decide +kernel
set_option maxRecDepth 65536 in
theorem w_ripe : about1.ripe theMethod args0 below0 = true := by decide +kernel
theorem w_running : about1.status = .running := rfl
set_option maxRecDepth 65536 in
theorem w_room : about1.hasRoom e0.platform room_1 = true :=
  launch0.hasRoom_least _ room_1 (by decide +kernel) (by decide +kernel) (by decide +kernel) (by decide +kernel) (by decide +kernel) (by decide +kernel)
theorem allAtoms_all (ts : List Jvm.Cond) (a : Array Jvm.Value) (st : Jvm.State) : (allAtoms ts).before a st = ts.all (fun c => c.before a st) := by
  induction ts with
  | nil => rfl
  | cons c t ih =>
    show (Jvm.Cond.and c (allAtoms t)).before a st = _
    rw [Jvm.Cond.before_and, ih, List.all_cons]
def words1 : List Jvm.Cond := Jvm.Cond.code x code maxLocals ret :: tables_1
/-- a 'code' word, met by the world's own term for the bytes: nothing is compared byte by byte -/
theorem code_word {y : MethodName} {bytes : ByteArray} {mx : Nat} {rt : Option FieldType} {a : Array Value} {s : State} {m : MethodId} {meth : Method} {c : Code} (h1 : s.methodNamed? y = some m) (h2 : s.vm.method? m = some meth) (h3 : meth.code = some c) (h4 : c.code = bytes)
    (h5 : (c.maxLocals == mx && c.exceptionTable.isEmpty && decide (c.maxStack ≤ mostOperands) && decide (meth.sig.returnType = rt) && !meth.locks && decide (parseMethodDescriptor y.desc = some meth.sig)) = true) : (Jvm.Cond.code y bytes mx rt).before a s = true := by
  simp only [Bool.and_eq_true, beq_iff_eq, Bool.not_eq_true', decide_eq_true_eq] at h5
  obtain ⟨⟨⟨⟨⟨g1, g2⟩, g3⟩, g4⟩, g5⟩, g6⟩ := h5
  simp [Cond.before, Cond.holds, Cond.value, h1, h2, h3, h4, g1, g2, g3, g4, g5, g6]
def isCode : Jvm.Cond → Bool
  | .code _ _ _ _ => true
  | _ => false
theorem all_split {L : List Jvm.Cond} {P : Jvm.Cond → Bool} (h1 : L.all (fun c => isCode c || P c) = true) (h2 : ∀ c ∈ L.filter isCode, P c = true) : L.all P = true := by
  refine List.all_eq_true.mpr fun c hc => ?_
  have h := List.all_eq_true.mp h1 c hc
  rcases Bool.eq_false_or_eq_true (isCode c) with hi | hi
  · exact h2 c (List.mem_filter.mpr ⟨hc, hi⟩)
  · simpa [hi] using h
set_option maxRecDepth 65536 in
theorem w_c0 : (Jvm.Cond.code x code maxLocals ret).before args0 about1 = true := code_word (m := ⟨1, 1⟩) (meth := k1m1) (c := k1c1) (by decide +kernel) rfl rfl rfl (by decide +kernel)
set_option maxRecDepth 65536 in
theorem w_c1 : (Jvm.Cond.code ({ cls := "java/lang/Math", name := "min", desc := "(II)I" } : Jvm.MethodName) jdk_29_method_69_code (2 : Nat) (Option.some Jvm.ClassFile.FieldType.int)).before args0 about1 = true := code_word (m := ⟨2, 2⟩) (meth := k2m2) (c := k2c2) (by decide +kernel) rfl rfl rfl (by decide +kernel)
set_option maxRecDepth 65536 in
theorem w_c2 : (Jvm.Cond.code ({ cls := "java/lang/Math", name := "max", desc := "(II)I" } : Jvm.MethodName) jdk_29_method_65_code (2 : Nat) (Option.some Jvm.ClassFile.FieldType.int)).before args0 about1 = true := code_word (m := ⟨2, 1⟩) (meth := k2m1) (c := k2c1) (by decide +kernel) rfl rfl rfl (by decide +kernel)
set_option maxRecDepth 65536 in
theorem w_c3 : (Jvm.Cond.code ({ cls := "com/example/fuzzsub/fuzzsub/service/SparseVectorDotPinLaw", name := "make", desc := "(ZZZIIII)Lcom/example/fuzzsub/fuzzsub/service/SparseVector;" } : Jvm.MethodName) method_4_code (11 : Nat) (Option.some (Jvm.ClassFile.FieldType.object "com/example/fuzzsub/fuzzsub/service/SparseVector"))).before args0 about1 = true := code_word (m := ⟨1, 3⟩) (meth := k1m3) (c := k1c3) (by decide +kernel) rfl rfl rfl (by decide +kernel)
set_option maxRecDepth 65536 in
theorem w_c4 : (Jvm.Cond.code ({ cls := "com/example/fuzzsub/fuzzsub/service/SparseVectorDotPinLaw", name := "val", desc := "(II)D" } : Jvm.MethodName) method_3_code (3 : Nat) (Option.some Jvm.ClassFile.FieldType.double)).before args0 about1 = true := code_word (m := ⟨1, 2⟩) (meth := k1m2) (c := k1c2) (by decide +kernel) rfl rfl rfl (by decide +kernel)
set_option maxRecDepth 65536 in
theorem w_c5 : (Jvm.Cond.code ({ cls := "com/example/fuzzsub/fuzzsub/service/SparseVector", name := "<init>", desc := "([I[D)V" } : Jvm.MethodName) prog_137_method_1_code (3 : Nat) (Option.none : Option Jvm.ClassFile.FieldType)).before args0 about1 = true := code_word (m := ⟨3, 0⟩) (meth := k3m0) (c := k3c0) (by decide +kernel) rfl rfl rfl (by decide +kernel)
set_option maxRecDepth 65536 in
theorem w_c6 : (Jvm.Cond.code ({ cls := "java/lang/Object", name := "<init>", desc := "()V" } : Jvm.MethodName) object_method_1_code (1 : Nat) (Option.none : Option Jvm.ClassFile.FieldType)).before args0 about1 = true := code_word (m := ⟨0, 0⟩) (meth := k0m0) (c := k0c0) (by decide +kernel) rfl rfl rfl (by decide +kernel)
set_option maxRecDepth 65536 in
theorem w_c7 : (Jvm.Cond.code ({ cls := "com/example/fuzzsub/fuzzsub/service/SparseVector", name := "dot", desc := "(Lcom/example/fuzzsub/fuzzsub/service/SparseVector;)D" } : Jvm.MethodName) prog_137_method_8_code (6 : Nat) (Option.some Jvm.ClassFile.FieldType.double)).before args0 about1 = true := code_word (m := ⟨3, 1⟩) (meth := k3m1) (c := k3c1) (by decide +kernel) rfl rfl rfl (by decide +kernel)
def codes1 : List Jvm.Cond := [Jvm.Cond.code x code maxLocals ret, Jvm.Cond.code ({ cls := "java/lang/Math", name := "min", desc := "(II)I" } : Jvm.MethodName) jdk_29_method_69_code (2 : Nat) (Option.some Jvm.ClassFile.FieldType.int), Jvm.Cond.code ({ cls := "java/lang/Math", name := "max", desc := "(II)I" } : Jvm.MethodName) jdk_29_method_65_code (2 : Nat) (Option.some Jvm.ClassFile.FieldType.int), Jvm.Cond.code ({ cls := "com/example/fuzzsub/fuzzsub/service/SparseVectorDotPinLaw", name := "make", desc := "(ZZZIIII)Lcom/example/fuzzsub/fuzzsub/service/SparseVector;" } : Jvm.MethodName) method_4_code (11 : Nat) (Option.some (Jvm.ClassFile.FieldType.object "com/example/fuzzsub/fuzzsub/service/SparseVector")), Jvm.Cond.code ({ cls := "com/example/fuzzsub/fuzzsub/service/SparseVectorDotPinLaw", name := "val", desc := "(II)D" } : Jvm.MethodName) method_3_code (3 : Nat) (Option.some Jvm.ClassFile.FieldType.double), Jvm.Cond.code ({ cls := "com/example/fuzzsub/fuzzsub/service/SparseVector", name := "<init>", desc := "([I[D)V" } : Jvm.MethodName) prog_137_method_1_code (3 : Nat) (Option.none : Option Jvm.ClassFile.FieldType), Jvm.Cond.code ({ cls := "java/lang/Object", name := "<init>", desc := "()V" } : Jvm.MethodName) object_method_1_code (1 : Nat) (Option.none : Option Jvm.ClassFile.FieldType), Jvm.Cond.code ({ cls := "com/example/fuzzsub/fuzzsub/service/SparseVector", name := "dot", desc := "(Lcom/example/fuzzsub/fuzzsub/service/SparseVector;)D" } : Jvm.MethodName) prog_137_method_8_code (6 : Nat) (Option.some Jvm.ClassFile.FieldType.double)]
set_option maxRecDepth 65536 in
theorem codes_eq : words1.filter isCode = codes1 := rfl
theorem w_codes : ∀ c ∈ words1.filter isCode, c.before args0 about1 = true := by
  rw [codes_eq]
  intro c hc
  simp only [codes1, List.mem_cons, List.not_mem_nil, or_false] at hc
  rcases hc with rfl | rfl | rfl | rfl | rfl | rfl | rfl | rfl
  · exact w_c0
  · exact w_c1
  · exact w_c2
  · exact w_c3
  · exact w_c4
  · exact w_c5
  · exact w_c6
  · exact w_c7
set_option maxRecDepth 65536 in
theorem w_t1 : (words1.take 24).all (fun c => isCode c || c.before args0 about1) = true := by decide +kernel
set_option maxRecDepth 65536 in
theorem w_t2 : (words1.drop 24).all (fun c => isCode c || c.before args0 about1) = true := by decide +kernel
theorem w_tables : (allAtoms (Jvm.Cond.code x code maxLocals ret :: tables_1)).before args0 about1 = true := by
  rw [allAtoms_all]
  show words1.all (fun c => c.before args0 about1) = true
  refine all_split ?_ w_codes
  rw [← List.take_append_drop 24 words1, List.all_append, w_t1, w_t2]
  rfl
set_option maxRecDepth 65536 in
theorem w_case : (Jvm.Cond.and given_1 narrow_1).before args0 about1 = true := by decide +kernel
theorem w_applies : (headSpec (Jvm.Cond.code x code maxLocals ret :: tables_1) room_1).applies x e0.platform about1 = true :=
  (Spec.applies_iff w_frames).mpr ⟨w_running, w_runnable, w_alone, w_named, w_hears, w_ripe, w_room, w_tables⟩
theorem atStart : AtStart classFile x code maxLocals ret World_1 tables_1 room_1 Calls_1 rest_1 Pre_1 launch0 p0 e0 about1 theMethod args0 below0 :=
  ⟨lists_1, trivial, launch0.admits_env _ _ _, launch0.least_env, fairChoices_fair.cas, fairChoices_fair.clock, w_frames, w_args, w_heap, w_applies, trivial, trivial, w_case⟩
end start1
theorem witness_1 : WitnessClaimed_1 := ⟨start1.p0, start1.e0, start1.about1, start1.theMethod, start1.args0, start1.below0, start1.atStart⟩
end Jvm.Pilot.@@N@@
