import JvmDerived
import JvmDerived.Pilot.@@N@@Statement
import JvmDerived.Pilot.@@N@@Code
set_option linter.unusedVariables false
set_option linter.unusedSimpArgs false
namespace Jvm.Pilot.@@N@@
open Jvm Jvm.ClassFile Sem Op Lib Jvm.Free Jvm.Stand Jvm.LawKit Jvm.RoadKit Bundle Jvm.Pilot.@@N@@.Jvm.D
section OwnKit
def own_Go (tb : Tables) (e : Env) (below : List Frame) (P : State → Outcome → Prop) (S : State) : Prop := ∃ s₂ o, Steps tb e below S s₂ ∧ s₂.status = .running ∧ Ended s₂ below o ∧ P s₂ o
theorem own_Go.st {tb : Tables} {e : Env} {below : List Frame} {P : State → Outcome → Prop} {S S' : State} (g : own_Go tb e below P S') (h : ∀ t, Steps tb e below S' t → Steps tb e below S t) : own_Go tb e below P S := by
  obtain ⟨s₂, o, h1, h2⟩ := g; exact ⟨s₂, o, h _ h1, h2⟩
/-- the heap: all that stood at the start stands; the listed new cells, all different, are as their predicates say -/
def own_H (h0 h : Heap) (L : List (Addr × (Cell → Prop))) : Prop := Ext h0 h ∧ (∀ q ∈ L, h0.size ≤ q.1 ∧ ∃ c, h[q.1]? = some c ∧ q.2 c) ∧ (L.map (·.1)).Nodup
def own_ex (Z : State) (C : String) (c : Cell) : Prop := ∃ k : Class, Z.vm.findClass C = some c.cls ∧ Z.vm.classes[c.cls]? = some k ∧ c.vm.isStatics = false ∧ (k.kind = .ordinary → c.slots.size = k.instanceTypes.size)
def own_fd (Z : State) (C n d : String) (v : Value) (c : Cell) : Prop := ∃ (cf : ClassId) (k : Class) (i : Nat) (f : Field), Z.fieldFound? C n d = some (cf, k, i, f) ∧ f.isStatic = false ∧ c.vm ≠ .unknown ∧ c.vm.isStatics = false ∧ Z.vm.assignable c.cls cf = true ∧ c.slots[f.slot]? = some v
def own_ob (Z : State) (C : String) (fs : List (String × String × Value)) (c : Cell) : Prop := own_ex Z C c ∧ ∀ q ∈ fs, own_fd Z C q.1 q.2.1 q.2.2 c
def own_ar (Z : State) (ty : FieldType) (vs : List Value) (c : Cell) : Prop := Z.isArrayOf c ty ∧ c.vm ≠ .unknown ∧ c.slots.toList = vs ∧ own_ex Z ("[" ++ ty.toString) c
def own_lay (Z : State) (a0 : Array Value) (C : String) : List (String × String × FieldType) → Prop
  | [] => True
  | q :: r => (Laid Z a0 C C q.1 q.2.1 ∧ parseFieldDescriptor q.2.1 = some q.2.2) ∧ own_lay Z a0 C r
theorem own_lay.mem {Z : State} {a0 : Array Value} {C : String} : ∀ {N : List (String × String × FieldType)}, own_lay Z a0 C N → ∀ q ∈ N, Laid Z a0 C C q.1 q.2.1 ∧ parseFieldDescriptor q.2.1 = some q.2.2
  | [], _, _, h => nomatch h
  | _ :: _, ⟨h1, h2⟩, q, h => (List.mem_cons.mp h).elim (fun e => e ▸ h1) (own_lay.mem h2 q)
def own_S (p : Program) (l : Launch) (e : Env) (R : Room) (s : State) (m : MethodId) (args : Array Value) (below : List Frame) (meth : Method) (c : Code) (Z T : State) (L : List (Addr × (Cell → Prop))) (k n : Nat) : Prop :=
  ∃ locs, Stand p l e R s m args below meth c T locs k n ∧ Fr Z.heap.size locs ∧ own_H Z.heap T.heap L
def own_C (p : Program) (s : State) (m : MethodId) (meth : Method) (c : Code) (Z : State) (own nm : String) (code : ByteArray) (ml : Nat) (rt : Option FieldType) : Prop :=
  p.tables.exec = Jvm.exec ∧ c.code = code ∧ c.maxLocals = ml ∧ Z.Warmed39 s.vm ∧ s.vm.findClass own = some m.cls ∧ meth.name = nm ∧ meth.sig.returnType = rt ∧ meth.locks = false
def own_E (Z s : State) (R : Room) (Q : Option Value → List (Addr × (Cell → Prop)) → Prop) (t : State) (o : Outcome) : Prop :=
  ∃ v L locs, o = .returned v ∧ Q v L ∧ own_H Z.heap t.heap L ∧ Fr Z.heap.size locs ∧ FrameEnd s o t locs R.cells R.slots
def own_Con (l : Launch) (Z : State) (y : MethodName) (bytes : ByteArray) (maxL : Nat) (ret : Option FieldType) (rm : Room) (as' : Array Value) (L : List (Addr × (Cell → Prop))) (Q : Option Value → List (Addr × (Cell → Prop)) → Prop) : Prop :=
  ∀ ws, MetFree l y (head1 (Jvm.Cond.code y bytes maxL ret :: ws) rm) (fun a U => a = as' ∧ Z.Warmed39 U.vm ∧ own_H Z.heap U.heap L) (fun _ _ _ _ _ => True) (fun _ U o U' => own_E Z U rm Q U' o)
/-! the heap's list -/
section Heaps
variable {h0 h h' : Heap} {L : List (Addr × (Cell → Prop))} {a : Addr} {Pq Pq' : Cell → Prop} {i : Nat}
theorem own_H.get (H : own_H h0 h L) (hi : L[i]? = some (a, Pq)) : h0.size ≤ a ∧ ∃ c, h[a]? = some c ∧ Pq c := H.2.1 _ (List.mem_of_getElem? hi)
theorem own_H.lt (H : own_H h0 h L) : ∀ q ∈ L, q.1 < h.size := fun q hq => by
  obtain ⟨-, c, h1, -⟩ := H.2.1 q hq; exact (Array.getElem?_eq_some_iff.mp h1).1
theorem own_H.push (H : own_H h0 h L) (E : Ext h h') {c : Cell} (hc : h'[h.size]? = some c) (hP : Pq c) : own_H h0 h' ((h.size, Pq) :: L) := by
  refine ⟨⟨Nat.le_trans H.1.1 E.1, fun a c q => E.2 a c (H.1.2 a c q)⟩, fun q hq => ?_, ?_⟩
  · rcases List.mem_cons.mp hq with rfl | hq
    · exact ⟨H.1.1, c, hc, hP⟩
    · obtain ⟨h1, c', h2, h3⟩ := H.2.1 q hq; exact ⟨h1, c', E.2 _ _ h2, h3⟩
  · rw [List.map_cons, List.nodup_cons]
    refine ⟨fun hm => ?_, H.2.2⟩
    obtain ⟨q, hq, e⟩ := List.mem_map.mp hm
    exact absurd (H.lt q hq) (by rw [show q.1 = h.size from e]; exact Nat.lt_irrefl _)
theorem own_setmem {α : Type} : ∀ {L : List α} {i : Nat} {x q : α}, q ∈ L.set i x → q = x ∨ ∃ j, j ≠ i ∧ L[j]? = some q
  | [], _, _, _, h => nomatch h
  | y :: L, 0, x, q, h => by
    rcases List.mem_cons.mp h with rfl | h
    · exact Or.inl rfl
    · obtain ⟨j, hj⟩ := List.mem_iff_getElem?.mp h
      exact Or.inr ⟨j + 1, by omega, hj⟩
  | y :: L, i + 1, x, q, h => by
    rcases List.mem_cons.mp h with rfl | h
    · exact Or.inr ⟨0, by omega, rfl⟩
    · rcases own_setmem h with e | ⟨j, hj, e⟩
      · exact Or.inl e
      · exact Or.inr ⟨j + 1, by omega, e⟩
theorem own_nodup_ne {α : Type} {L : List α} (h : L.Nodup) {i j : Nat} {x y : α} (hi : L[i]? = some x) (hj : L[j]? = some y) (hn : i ≠ j) : x ≠ y := fun e => by
  subst e
  obtain ⟨hi1, hi2⟩ := List.getElem?_eq_some_iff.mp hi
  obtain ⟨hj1, hj2⟩ := List.getElem?_eq_some_iff.mp hj
  have hp := List.pairwise_iff_getElem.mp h
  rcases Nat.lt_or_gt_of_ne hn with q | q
  · exact hp i j hi1 hj1 q (hi2.trans hj2.symm)
  · exact hp j i hj1 hi1 q (hj2.trans hi2.symm)
theorem own_setself {α : Type} {L : List α} {i : Nat} {x : α} (h : L[i]? = some x) : L.set i x = L := by
  obtain ⟨h1, h2⟩ := List.getElem?_eq_some_iff.mp h
  rw [← h2]; exact List.set_getElem_self h1
theorem own_erase {α : Type} : ∀ (L : List α) (i : Nat) (x : α), L[i]? = some x → L.Perm (x :: L.eraseIdx i)
  | [], i, x, h => by simp at h
  | y :: L, 0, x, h => by simp at h; subst h; exact List.Perm.refl _
  | y :: L, i + 1, x, h => by
    have q := own_erase L i x (by simpa using h)
    exact (q.cons y).trans (List.Perm.swap x y _)
theorem own_H.set (H : own_H h0 h L) (hi : L[i]? = some (a, Pq)) {sl : Nat} {v : Value} (W : Wr h h' a sl v) (hP : ∀ c : Cell, Pq c → sl < c.slots.size → Pq' (c.setSlot sl v)) : own_H h0 h' (L.set i (a, Pq')) := by
  have hE : Ext h0 h' := by
    refine ⟨by rw [W.size]; exact H.1.1, fun b cb hb => ?_⟩
    obtain ⟨cb', h1, -, -, -, h2, -⟩ := wr_at W (H.1.2 b cb hb)
    have : b ≠ a := by
      have q1 := (Array.getElem?_eq_some_iff.mp hb).1
      have q2 := (H.get hi).1
      intro e; rw [e] at q1; exact absurd q1 (Nat.not_lt.mpr q2)
    rw [h2 this] at h1; exact h1
  refine ⟨hE, fun q hq => ?_, ?_⟩
  · rcases own_setmem hq with rfl | ⟨j, hj, e⟩
    · obtain ⟨h1, c, h2, h3⟩ := H.get hi
      obtain ⟨cb', g1, -, -, -, -, -, g2⟩ := wr_at W h2
      obtain ⟨g3, -, -⟩ := g2 rfl
      subst g3
      refine ⟨h1, _, g1, hP c h3 ?_⟩
      obtain ⟨cc, w1, -, w3, -⟩ := W
      rw [h2] at w1; cases w1; exact w3
    · obtain ⟨h1, c, h2, h3⟩ := H.2.1 q (List.mem_of_getElem? e)
      obtain ⟨cb', g1, -, -, -, g2, -⟩ := wr_at W h2
      have hne : q.1 ≠ a := own_nodup_ne (L := L.map (·.1)) H.2.2 (i := j) (j := i) (by rw [List.getElem?_map, e]; rfl) (by rw [List.getElem?_map, hi]; rfl) hj
      rw [g2 hne] at g1
      exact ⟨h1, c, g1, h3⟩
  · have : (L.set i (a, Pq')).map (·.1) = L.map (·.1) := by
      rw [List.map_set]
      have : (L.map (·.1))[i]? = some a := by rw [List.getElem?_map, hi]; rfl
      exact own_setself this
    rw [this]; exact H.2.2
theorem own_H.sub {M : List (Addr × (Cell → Prop))} (H : own_H h0 h L) (hs : M.Sublist L) : own_H h0 h M :=
  ⟨H.1, fun q hq => H.2.1 q (hs.subset hq), H.2.2.sublist (hs.map _)⟩
theorem own_H.perm {M : List (Addr × (Cell → Prop))} (H : own_H h0 h L) (hs : L.Perm M) : own_H h0 h M :=
  ⟨H.1, fun q hq => H.2.1 q (hs.mem_iff.mpr hq), (hs.map _).nodup_iff.mp H.2.2⟩
theorem own_H.bring (H : own_H h0 h L) (hi : L[i]? = some (a, Pq)) : own_H h0 h ((a, Pq) :: L.eraseIdx i) := by
  exact H.perm (own_erase L i _ hi)
theorem own_H.imp (H : own_H h0 h L) (hi : L[i]? = some (a, Pq)) (hP : ∀ c, Pq c → Pq' c) : own_H h0 h (L.set i (a, Pq')) := by
  refine ⟨H.1, fun q hq => ?_, ?_⟩
  · rcases own_setmem hq with rfl | ⟨j, hj, e⟩
    · obtain ⟨h1, c, h2, h3⟩ := H.get hi; exact ⟨h1, c, h2, hP c h3⟩
    · exact H.2.1 q (List.mem_of_getElem? e)
  · have : (L.set i (a, Pq')).map (·.1) = L.map (·.1) := by
      rw [List.map_set]
      have : (L.map (·.1))[i]? = some a := by rw [List.getElem?_map, hi]; rfl
      exact own_setself this
    rw [this]; exact H.2.2
theorem own_H.ne (H : own_H h0 h L) {j : Nat} {b : Addr} {Pb : Cell → Prop} (hi : L[i]? = some (a, Pq)) (hj : L[j]? = some (b, Pb)) (hn : i ≠ j) : a ≠ b :=
  own_nodup_ne (L := L.map (·.1)) H.2.2 (i := i) (j := j) (by rw [List.getElem?_map, hi]; rfl) (by rw [List.getElem?_map, hj]; rfl) hn
theorem own_ex.exa {Z : State} {C : String} {c : Cell} (hc : h[a]? = some c) (E : own_ex Z C c) : Exa Z h a C := by obtain ⟨k, r⟩ := E; exact ⟨c, k, hc, r⟩
theorem own_ex.of {Z : State} {C : String} (E : Exa Z h a C) {c : Cell} (hc : h[a]? = some c) : own_ex Z C c := by obtain ⟨c', k, h1, r⟩ := E; cases h1.symm.trans hc; exact ⟨k, r⟩
theorem own_fd.fld {Z : State} {C n d : String} {v : Value} {c : Cell} (hc : h[a]? = some c) (E : own_fd Z C n d v c) : Fld Z h a C n d v := by obtain ⟨cf, k, i, f, r⟩ := E; exact ⟨c, cf, k, i, f, hc, r⟩
theorem own_fd.of {Z : State} {C n d : String} {v : Value} {c : Cell} (hc : h[a]? = some c) (E : Fld Z h a C n d v) : own_fd Z C n d v c := by obtain ⟨c', cf, k, i, f, h1, r⟩ := E; cases h1.symm.trans hc; exact ⟨cf, k, i, f, r⟩
theorem own_fL {Z : State} {ix j : Nat} {K f d : String} {v : Value} {fs : List (String × String × Value)} (hi : L[ix]? = some (a, own_ob Z K fs)) (hj : fs[j]? = some (f, d, v)) (H : own_H h0 h L) : Fld Z h a K f d v := by
  obtain ⟨-, cc, h1, h2⟩ := H.get hi
  exact (h2.2 _ (List.mem_of_getElem? hj)).fld h1
theorem own_fO {Z : State} {K f d : String} {v : Value} (F : Fld Z h0 a K f d v) (H : own_H h0 h L) : Fld Z h a K f d v := F.ext H.1
theorem own_eL {Z : State} {ix : Nat} {K : String} {fs : List (String × String × Value)} (hi : L[ix]? = some (a, own_ob Z K fs)) (H : own_H h0 h L) : Exa Z h a K := by
  obtain ⟨-, cc, h1, h2⟩ := H.get hi
  exact h2.1.exa h1
theorem own_eO {Z : State} {K : String} (F : Exa Z h0 a K) (H : own_H h0 h L) : Exa Z h a K := F.ext H.1
theorem own_ar.arr {Z : State} {ty : FieldType} {vs : List Value} {c : Cell} (hc : h[a]? = some c) (E : own_ar Z ty vs c) : Arr Z h a c ty := ⟨hc, E.1, E.2.1⟩
end Heaps

variable {p : Program} {l : Launch} {e : Env} {R : Room} {s : State} {m : MethodId} {args : Array Value} {below : List Frame} {meth : Method} {c : Code} {Z T : State} {L : List (Addr × (Cell → Prop))} {k n : Nat} {own nm : String} {code : ByteArray} {ml : Nat} {rt : Option FieldType} {P : State → Outcome → Prop} {pc npc tpc : Nat} {ls : Array Slot} {st : List Value} {a0 : Array Value}
theorem own_S.stand (X : own_S p l e R s m args below meth c Z T L k n) : ∃ locs, Stand p l e R s m args below meth c T locs k n := by obtain ⟨locs, X, -⟩ := X; exact ⟨locs, X⟩
theorem own_S.heap (X : own_S p l e R s m args below meth c Z T L k n) : own_H Z.heap T.heap L := by obtain ⟨_, _, _, h⟩ := X; exact h
theorem own_S.more (X : own_S p l e R s m args below meth c Z T L k n) {k' n' : Nat} (hk : k ≤ k') (hn : n ≤ n') : own_S p l e R s m args below meth c Z T L k' n' := by obtain ⟨locs, X, h⟩ := X; exact ⟨locs, X.more hk hn, h⟩
theorem own_S.re (X : own_S p l e R s m args below meth c Z T L k n) {M : List (Addr × (Cell → Prop))} (h : own_H Z.heap T.heap L → own_H Z.heap T.heap M) : own_S p l e R s m args below meth c Z T M k n := by obtain ⟨locs, X, h1, h2⟩ := X; exact ⟨locs, X, h1, h h2⟩
theorem own_S.bring (X : own_S p l e R s m args below meth c Z T L k n) {i : Nat} {a : Addr} {Pq : Cell → Prop} (hi : L[i]? = some (a, Pq)) {M : List (Addr × (Cell → Prop))} (hM : (a, Pq) :: L.eraseIdx i = M) : own_S p l e R s m args below meth c Z T M k n := by subst hM; exact X.re fun H => H.bring hi

theorem own_swap3 {a1 a2 a3 b1 b2 b3 : Addr × (Cell → Prop)} (X : own_S p l e R s m args below meth c Z T (a1 :: a2 :: a3 :: b1 :: b2 :: b3 :: L) k n) : own_S p l e R s m args below meth c Z T (b1 :: b2 :: b3 :: a1 :: a2 :: a3 :: L) k n :=
  X.re fun H => H.perm ((List.perm_append_comm (l₁ := [a1, a2, a3]) (l₂ := [b1, b2, b3])).append_right L)

def own_locs : List Value → List Slot
  | [] => []
  | v :: r => if v.category = 2 then .val v :: .second :: own_locs r else .val v :: own_locs r
theorem own_locs_fold : ∀ (l : List Value) (acc : Array Slot), (l.foldl (fun acc v => if v.category = 2 then (acc.push (.val v)).push .second else acc.push (.val v)) acc).toList = acc.toList ++ own_locs l
  | [], acc => (List.append_nil _).symm
  | v :: r, acc => by
    rw [List.foldl_cons, own_locs_fold r]
    by_cases h : v.category = 2
    · rw [if_pos h]; show _ = acc.toList ++ (if v.category = 2 then _ else _); rw [if_pos h, Array.toList_push, Array.toList_push, List.append_assoc, List.append_assoc]; rfl
    · rw [if_neg h]; show _ = acc.toList ++ (if v.category = 2 then _ else _); rw [if_neg h, Array.toList_push, List.append_assoc]; rfl
theorem own_ent (m : MethodId) {as : List Value} {n : Nat} {ls : List Slot} (h : own_locs as ++ List.replicate (n - (own_locs as).length) .unset = ls) : entryFrame m as.toArray n = mkF m 0 ls.toArray [] := by
  have e : argsToLocals as.toArray n = ls.toArray := by
    apply Array.toList_inj.mp
    have q := own_locs_fold as #[]
    rw [show (#[] : Array Slot).toList = [] from rfl, List.nil_append] at q
    show ((as.toArray.foldl (fun (acc : Array Slot) (v : Value) => if v.category = 2 then (acc.push (.val v)).push .second else acc.push (.val v)) #[]) ++ Array.replicate (n - (as.toArray.foldl (fun (acc : Array Slot) (v : Value) => if v.category = 2 then (acc.push (.val v)).push .second else acc.push (.val v)) #[]).size) Slot.unset).toList = ls
    rw [List.foldl_toArray']
    · show (_ ++ _ : Array Slot).toList = ls
      rw [Array.toList_append, q, Array.toList_replicate, ← Array.length_toList, q]; exact h
    all_goals first | rfl | simp
  show ({ method := m, pc := 0, locals := argsToLocals as.toArray n, stack := [], locked := none } : JFrame) = _
  rw [e]

theorem own_con {y : MethodName} {bytes : ByteArray} {maxL : Nat} {ret : Option FieldType} {rm : Room} {as' : Array Value} {Q : Option Value → List (Addr × (Cell → Prop)) → Prop} (hx : plainFor y = true) (hent : ∀ m, entryFrame m as' maxL = mkF m 0 ls [])
    (body : ∀ p e s m below meth c T, own_C p s m meth c Z y.cls y.name bytes maxL ret → own_S p l e rm s m as' below meth c Z T L 0 0 → own_Go p.tables e below (own_E Z s rm Q) (T.setTop (mkF m 0 ls []))) : own_Con l Z y bytes maxL ret rm as' L Q := by
  intro ws
  refine MetFree.of_bodySF hx hisR ?_
  intro p e s m args below meth c s₁ Bd hml hP hK
  obtain ⟨rfl, hZ, hH⟩ := hP
  have hnm := (name_of_methodNamed Bd.named Bd.method).1
  have X0 : Stand p l e rm s m args below meth c s₁ [] 0 0 := Stand.of_body Bd
  have q := body p e s m below meth c s₁ ⟨Bd.exec, Bd.bytes, hml, hZ, findClass_of_methodNamed Bd.named, hnm, Bd.returns, Bd.notSynchronized⟩ ⟨[], X0, Fr.nil _, by rw [Bd.state]; exact hH⟩
  rw [← hent] at q
  exact q

theorem k_iadd (C : own_C p s m meth c Z own nm code ml rt) (X : own_S p l e R s m args below meth c Z T L k n) {x y : Int32} (hd : decode code pc = .ok (.iadd, 1)) (hp : pc + 1 = npc) (g : own_Go p.tables e below P (T.setTop (mkF m npc ls (.int (x + y) :: st)))) : own_Go p.tables e below P (T.setTop (mkF m pc ls (.int y :: .int x :: st))) := by
  subst hp; obtain ⟨_, X, -, -⟩ := X
  exact g.st fun t k => Jvm.Free.XS.iadd X.here C.1 rfl (hb C.2.1 hd) rfl k
theorem k_isub (C : own_C p s m meth c Z own nm code ml rt) (X : own_S p l e R s m args below meth c Z T L k n) {x y : Int32} (hd : decode code pc = .ok (.isub, 1)) (hp : pc + 1 = npc) (g : own_Go p.tables e below P (T.setTop (mkF m npc ls (.int (x - y) :: st)))) : own_Go p.tables e below P (T.setTop (mkF m pc ls (.int y :: .int x :: st))) := by
  subst hp; obtain ⟨_, X, -, -⟩ := X
  exact g.st fun t k => Jvm.Free.XS.isub X.here C.1 rfl (hb C.2.1 hd) rfl k
theorem k_imul (C : own_C p s m meth c Z own nm code ml rt) (X : own_S p l e R s m args below meth c Z T L k n) {x y : Int32} (hd : decode code pc = .ok (.imul, 1)) (hp : pc + 1 = npc) (g : own_Go p.tables e below P (T.setTop (mkF m npc ls (.int (x * y) :: st)))) : own_Go p.tables e below P (T.setTop (mkF m pc ls (.int y :: .int x :: st))) := by
  subst hp; obtain ⟨_, X, -, -⟩ := X
  exact g.st fun t k => Jvm.Free.XS.imul X.here C.1 rfl (hb C.2.1 hd) rfl k
theorem k_iand (C : own_C p s m meth c Z own nm code ml rt) (X : own_S p l e R s m args below meth c Z T L k n) {x y : Int32} (hd : decode code pc = .ok (.iand, 1)) (hp : pc + 1 = npc) (g : own_Go p.tables e below P (T.setTop (mkF m npc ls (.int (x &&& y) :: st)))) : own_Go p.tables e below P (T.setTop (mkF m pc ls (.int y :: .int x :: st))) := by
  subst hp; obtain ⟨_, X, -, -⟩ := X
  exact g.st fun t k => Jvm.Free.XS.iand X.here C.1 rfl (hb C.2.1 hd) rfl k
theorem k_ior (C : own_C p s m meth c Z own nm code ml rt) (X : own_S p l e R s m args below meth c Z T L k n) {x y : Int32} (hd : decode code pc = .ok (.ior, 1)) (hp : pc + 1 = npc) (g : own_Go p.tables e below P (T.setTop (mkF m npc ls (.int (x ||| y) :: st)))) : own_Go p.tables e below P (T.setTop (mkF m pc ls (.int y :: .int x :: st))) := by
  subst hp; obtain ⟨_, X, -, -⟩ := X
  exact g.st fun t k => Jvm.Free.XT.ior X.here C.1 rfl (hb C.2.1 hd) rfl k
theorem k_ixor (C : own_C p s m meth c Z own nm code ml rt) (X : own_S p l e R s m args below meth c Z T L k n) {x y : Int32} (hd : decode code pc = .ok (.ixor, 1)) (hp : pc + 1 = npc) (g : own_Go p.tables e below P (T.setTop (mkF m npc ls (.int (x ^^^ y) :: st)))) : own_Go p.tables e below P (T.setTop (mkF m pc ls (.int y :: .int x :: st))) := by
  subst hp; obtain ⟨_, X, -, -⟩ := X
  exact g.st fun t k => Jvm.Free.XT.ixor X.here C.1 rfl (hb C.2.1 hd) rfl k
theorem k_ishl (C : own_C p s m meth c Z own nm code ml rt) (X : own_S p l e R s m args below meth c Z T L k n) {x y : Int32} (hd : decode code pc = .ok (.ishl, 1)) (hp : pc + 1 = npc) (g : own_Go p.tables e below P (T.setTop (mkF m npc ls (.int (x <<< (y &&& 31)) :: st)))) : own_Go p.tables e below P (T.setTop (mkF m pc ls (.int y :: .int x :: st))) := by
  subst hp; obtain ⟨_, X, -, -⟩ := X
  exact g.st fun t k => Jvm.Free.XT.ishl X.here C.1 rfl (hb C.2.1 hd) rfl k
theorem k_ishr (C : own_C p s m meth c Z own nm code ml rt) (X : own_S p l e R s m args below meth c Z T L k n) {x y : Int32} (hd : decode code pc = .ok (.ishr, 1)) (hp : pc + 1 = npc) (g : own_Go p.tables e below P (T.setTop (mkF m npc ls (.int (x >>> (y &&& 31)) :: st)))) : own_Go p.tables e below P (T.setTop (mkF m pc ls (.int y :: .int x :: st))) := by
  subst hp; obtain ⟨_, X, -, -⟩ := X
  exact g.st fun t k => Jvm.Free.XT.ishr X.here C.1 rfl (hb C.2.1 hd) rfl k
theorem k_iushr (C : own_C p s m meth c Z own nm code ml rt) (X : own_S p l e R s m args below meth c Z T L k n) {x y : Int32} (hd : decode code pc = .ok (.iushr, 1)) (hp : pc + 1 = npc) (g : own_Go p.tables e below P (T.setTop (mkF m npc ls (.int (Jvm.Free.XT.ushr x y) :: st)))) : own_Go p.tables e below P (T.setTop (mkF m pc ls (.int y :: .int x :: st))) := by
  subst hp; obtain ⟨_, X, -, -⟩ := X
  exact g.st fun t k => Jvm.Free.XT.iushr X.here C.1 rfl (hb C.2.1 hd) rfl k
theorem k_ladd (C : own_C p s m meth c Z own nm code ml rt) (X : own_S p l e R s m args below meth c Z T L k n) {x y : Int64} (hd : decode code pc = .ok (.ladd, 1)) (hp : pc + 1 = npc) (g : own_Go p.tables e below P (T.setTop (mkF m npc ls (.long (x + y) :: st)))) : own_Go p.tables e below P (T.setTop (mkF m pc ls (.long y :: .long x :: st))) := by
  subst hp; obtain ⟨_, X, -, -⟩ := X
  exact g.st fun t k => Jvm.Free.XT.ladd X.here C.1 rfl (hb C.2.1 hd) rfl k
theorem k_lsub (C : own_C p s m meth c Z own nm code ml rt) (X : own_S p l e R s m args below meth c Z T L k n) {x y : Int64} (hd : decode code pc = .ok (.lsub, 1)) (hp : pc + 1 = npc) (g : own_Go p.tables e below P (T.setTop (mkF m npc ls (.long (x - y) :: st)))) : own_Go p.tables e below P (T.setTop (mkF m pc ls (.long y :: .long x :: st))) := by
  subst hp; obtain ⟨_, X, -, -⟩ := X
  exact g.st fun t k => Jvm.Free.XT.lsub X.here C.1 rfl (hb C.2.1 hd) rfl k
theorem k_lmul (C : own_C p s m meth c Z own nm code ml rt) (X : own_S p l e R s m args below meth c Z T L k n) {x y : Int64} (hd : decode code pc = .ok (.lmul, 1)) (hp : pc + 1 = npc) (g : own_Go p.tables e below P (T.setTop (mkF m npc ls (.long (x * y) :: st)))) : own_Go p.tables e below P (T.setTop (mkF m pc ls (.long y :: .long x :: st))) := by
  subst hp; obtain ⟨_, X, -, -⟩ := X
  exact g.st fun t k => Jvm.Free.XT.lmul X.here C.1 rfl (hb C.2.1 hd) rfl k
theorem k_land (C : own_C p s m meth c Z own nm code ml rt) (X : own_S p l e R s m args below meth c Z T L k n) {x y : Int64} (hd : decode code pc = .ok (.land, 1)) (hp : pc + 1 = npc) (g : own_Go p.tables e below P (T.setTop (mkF m npc ls (.long (x &&& y) :: st)))) : own_Go p.tables e below P (T.setTop (mkF m pc ls (.long y :: .long x :: st))) := by
  subst hp; obtain ⟨_, X, -, -⟩ := X
  exact g.st fun t k => Jvm.Free.XT.land X.here C.1 rfl (hb C.2.1 hd) rfl k
theorem k_lor (C : own_C p s m meth c Z own nm code ml rt) (X : own_S p l e R s m args below meth c Z T L k n) {x y : Int64} (hd : decode code pc = .ok (.lor, 1)) (hp : pc + 1 = npc) (g : own_Go p.tables e below P (T.setTop (mkF m npc ls (.long (x ||| y) :: st)))) : own_Go p.tables e below P (T.setTop (mkF m pc ls (.long y :: .long x :: st))) := by
  subst hp; obtain ⟨_, X, -, -⟩ := X
  exact g.st fun t k => Jvm.Free.XT.lor X.here C.1 rfl (hb C.2.1 hd) rfl k
theorem k_lxor (C : own_C p s m meth c Z own nm code ml rt) (X : own_S p l e R s m args below meth c Z T L k n) {x y : Int64} (hd : decode code pc = .ok (.lxor, 1)) (hp : pc + 1 = npc) (g : own_Go p.tables e below P (T.setTop (mkF m npc ls (.long (x ^^^ y) :: st)))) : own_Go p.tables e below P (T.setTop (mkF m pc ls (.long y :: .long x :: st))) := by
  subst hp; obtain ⟨_, X, -, -⟩ := X
  exact g.st fun t k => Jvm.Free.XT.lxor X.here C.1 rfl (hb C.2.1 hd) rfl k
theorem k_lshl (C : own_C p s m meth c Z own nm code ml rt) (X : own_S p l e R s m args below meth c Z T L k n) {x : Int64} {y : Int32} (hd : decode code pc = .ok (.lshl, 1)) (hp : pc + 1 = npc) (g : own_Go p.tables e below P (T.setTop (mkF m npc ls (.long (x <<< (y.toInt64 &&& 63)) :: st)))) : own_Go p.tables e below P (T.setTop (mkF m pc ls (.int y :: .long x :: st))) := by
  subst hp; obtain ⟨_, X, -, -⟩ := X
  exact g.st fun t k => Jvm.Free.XT.lshl X.here C.1 rfl (hb C.2.1 hd) rfl k
theorem k_lshr (C : own_C p s m meth c Z own nm code ml rt) (X : own_S p l e R s m args below meth c Z T L k n) {x : Int64} {y : Int32} (hd : decode code pc = .ok (.lshr, 1)) (hp : pc + 1 = npc) (g : own_Go p.tables e below P (T.setTop (mkF m npc ls (.long (x >>> (y.toInt64 &&& 63)) :: st)))) : own_Go p.tables e below P (T.setTop (mkF m pc ls (.int y :: .long x :: st))) := by
  subst hp; obtain ⟨_, X, -, -⟩ := X
  exact g.st fun t k => Jvm.Free.XT.lshr X.here C.1 rfl (hb C.2.1 hd) rfl k
theorem k_lushr (C : own_C p s m meth c Z own nm code ml rt) (X : own_S p l e R s m args below meth c Z T L k n) {x : Int64} {y : Int32} (hd : decode code pc = .ok (.lushr, 1)) (hp : pc + 1 = npc) (g : own_Go p.tables e below P (T.setTop (mkF m npc ls (.long (Jvm.Free.XT.ushrL x y) :: st)))) : own_Go p.tables e below P (T.setTop (mkF m pc ls (.int y :: .long x :: st))) := by
  subst hp; obtain ⟨_, X, -, -⟩ := X
  exact g.st fun t k => Jvm.Free.XT.lushr X.here C.1 rfl (hb C.2.1 hd) rfl k
theorem k_idiv (C : own_C p s m meth c Z own nm code ml rt) (X : own_S p l e R s m args below meth c Z T L k n) {x y : Int32} (hd : decode code pc = .ok (.idiv, 1)) (hp : pc + 1 = npc) (hy : y ≠ 0) (g : own_Go p.tables e below P (T.setTop (mkF m npc ls (.int (x / y) :: st)))) : own_Go p.tables e below P (T.setTop (mkF m pc ls (.int y :: .int x :: st))) := by
  subst hp; obtain ⟨_, X, -, -⟩ := X
  exact g.st fun t k => Jvm.Free.XS.idiv X.here C.1 rfl (hb C.2.1 hd) rfl hy k
theorem k_irem (C : own_C p s m meth c Z own nm code ml rt) (X : own_S p l e R s m args below meth c Z T L k n) {x y : Int32} (hd : decode code pc = .ok (.irem, 1)) (hp : pc + 1 = npc) (hy : y ≠ 0) (g : own_Go p.tables e below P (T.setTop (mkF m npc ls (.int (x % y) :: st)))) : own_Go p.tables e below P (T.setTop (mkF m pc ls (.int y :: .int x :: st))) := by
  subst hp; obtain ⟨_, X, -, -⟩ := X
  exact g.st fun t k => iremM X C.1 rfl (hb C.2.1 hd) rfl hy k
theorem k_ldiv (C : own_C p s m meth c Z own nm code ml rt) (X : own_S p l e R s m args below meth c Z T L k n) {x y : Int64} (hd : decode code pc = .ok (.ldiv, 1)) (hp : pc + 1 = npc) (hy : y ≠ 0) (g : own_Go p.tables e below P (T.setTop (mkF m npc ls (.long (x / y) :: st)))) : own_Go p.tables e below P (T.setTop (mkF m pc ls (.long y :: .long x :: st))) := by
  subst hp; obtain ⟨_, X, -, -⟩ := X
  exact g.st fun t k => Jvm.Free.XT.ldiv X.here C.1 rfl (hb C.2.1 hd) rfl hy k
theorem k_lrem (C : own_C p s m meth c Z own nm code ml rt) (X : own_S p l e R s m args below meth c Z T L k n) {x y : Int64} (hd : decode code pc = .ok (.lrem, 1)) (hp : pc + 1 = npc) (hy : y ≠ 0) (g : own_Go p.tables e below P (T.setTop (mkF m npc ls (.long (x - (x / y) * y) :: st)))) : own_Go p.tables e below P (T.setTop (mkF m pc ls (.long y :: .long x :: st))) := by
  subst hp; obtain ⟨_, X, -, -⟩ := X
  exact g.st fun t k => Jvm.Free.XT.lrem X.here C.1 rfl (hb C.2.1 hd) rfl hy k
theorem k_ineg (C : own_C p s m meth c Z own nm code ml rt) (X : own_S p l e R s m args below meth c Z T L k n) {x : Int32} (hd : decode code pc = .ok (.ineg, 1)) (hp : pc + 1 = npc) (g : own_Go p.tables e below P (T.setTop (mkF m npc ls (.int (-x) :: st)))) : own_Go p.tables e below P (T.setTop (mkF m pc ls (.int x :: st))) := by
  subst hp; obtain ⟨_, X, -, -⟩ := X
  exact g.st fun t k => Jvm.Free.XS.ineg X.here C.1 rfl (hb C.2.1 hd) rfl k
theorem k_lneg (C : own_C p s m meth c Z own nm code ml rt) (X : own_S p l e R s m args below meth c Z T L k n) {x : Int64} (hd : decode code pc = .ok (.lneg, 1)) (hp : pc + 1 = npc) (g : own_Go p.tables e below P (T.setTop (mkF m npc ls (.long (-x) :: st)))) : own_Go p.tables e below P (T.setTop (mkF m pc ls (.long x :: st))) := by
  subst hp; obtain ⟨_, X, -, -⟩ := X
  exact g.st fun t k => Jvm.Free.XT.lneg X.here C.1 rfl (hb C.2.1 hd) rfl k
theorem k_i2l (C : own_C p s m meth c Z own nm code ml rt) (X : own_S p l e R s m args below meth c Z T L k n) {x : Int32} (hd : decode code pc = .ok (.i2l, 1)) (hp : pc + 1 = npc) (g : own_Go p.tables e below P (T.setTop (mkF m npc ls (.long x.toInt64 :: st)))) : own_Go p.tables e below P (T.setTop (mkF m pc ls (.int x :: st))) := by
  subst hp; obtain ⟨_, X, -, -⟩ := X
  exact g.st fun t k => Jvm.Free.XT.i2l X.here C.1 rfl (hb C.2.1 hd) rfl k
theorem k_l2i (C : own_C p s m meth c Z own nm code ml rt) (X : own_S p l e R s m args below meth c Z T L k n) {x : Int64} (hd : decode code pc = .ok (.l2i, 1)) (hp : pc + 1 = npc) (g : own_Go p.tables e below P (T.setTop (mkF m npc ls (.int x.toInt32 :: st)))) : own_Go p.tables e below P (T.setTop (mkF m pc ls (.long x :: st))) := by
  subst hp; obtain ⟨_, X, -, -⟩ := X
  exact g.st fun t k => Jvm.Free.XT.l2i X.here C.1 rfl (hb C.2.1 hd) rfl k
theorem k_i2b (C : own_C p s m meth c Z own nm code ml rt) (X : own_S p l e R s m args below meth c Z T L k n) {x : Int32} (hd : decode code pc = .ok (.i2b, 1)) (hp : pc + 1 = npc) (g : own_Go p.tables e below P (T.setTop (mkF m npc ls (.int x.toInt8.toInt32 :: st)))) : own_Go p.tables e below P (T.setTop (mkF m pc ls (.int x :: st))) := by
  subst hp; obtain ⟨_, X, -, -⟩ := X
  exact g.st fun t k => Jvm.Free.XT.i2b X.here C.1 rfl (hb C.2.1 hd) rfl k
theorem k_i2c (C : own_C p s m meth c Z own nm code ml rt) (X : own_S p l e R s m args below meth c Z T L k n) {x : Int32} (hd : decode code pc = .ok (.i2c, 1)) (hp : pc + 1 = npc) (g : own_Go p.tables e below P (T.setTop (mkF m npc ls (.int x.toUInt32.toUInt16.toUInt32.toInt32 :: st)))) : own_Go p.tables e below P (T.setTop (mkF m pc ls (.int x :: st))) := by
  subst hp; obtain ⟨_, X, -, -⟩ := X
  exact g.st fun t k => Jvm.Free.XT.i2c X.here C.1 rfl (hb C.2.1 hd) rfl k
theorem k_i2s (C : own_C p s m meth c Z own nm code ml rt) (X : own_S p l e R s m args below meth c Z T L k n) {x : Int32} (hd : decode code pc = .ok (.i2s, 1)) (hp : pc + 1 = npc) (g : own_Go p.tables e below P (T.setTop (mkF m npc ls (.int x.toInt16.toInt32 :: st)))) : own_Go p.tables e below P (T.setTop (mkF m pc ls (.int x :: st))) := by
  subst hp; obtain ⟨_, X, -, -⟩ := X
  exact g.st fun t k => Jvm.Free.XT.i2s X.here C.1 rfl (hb C.2.1 hd) rfl k
theorem k_i2d (C : own_C p s m meth c Z own nm code ml rt) (X : own_S p l e R s m args below meth c Z T L k n) {x : Int32} (hd : decode code pc = .ok (.i2d, 1)) (hp : pc + 1 = npc) (g : own_Go p.tables e below P (T.setTop (mkF m npc ls (.double (FP.i2d x) :: st)))) : own_Go p.tables e below P (T.setTop (mkF m pc ls (.int x :: st))) := by
  subst hp; obtain ⟨_, X, -, -⟩ := X
  exact g.st fun t k => Jvm.Free.XS.i2dS X.here C.1 rfl (hb C.2.1 hd) rfl rfl k
theorem k_l2d (C : own_C p s m meth c Z own nm code ml rt) (X : own_S p l e R s m args below meth c Z T L k n) {x : Int64} (hd : decode code pc = .ok (.l2d, 1)) (hp : pc + 1 = npc) (g : own_Go p.tables e below P (T.setTop (mkF m npc ls (.double (FP.l2d x) :: st)))) : own_Go p.tables e below P (T.setTop (mkF m pc ls (.long x :: st))) := by
  subst hp; obtain ⟨_, X, -, -⟩ := X
  exact g.st fun t k => Jvm.Free.XS.l2dS X.here C.1 rfl (hb C.2.1 hd) rfl rfl k
theorem k_d2i (C : own_C p s m meth c Z own nm code ml rt) (X : own_S p l e R s m args below meth c Z T L k n) {x : UInt64} (hd : decode code pc = .ok (.d2i, 1)) (hp : pc + 1 = npc) (g : own_Go p.tables e below P (T.setTop (mkF m npc ls (.int (FP.d2i x) :: st)))) : own_Go p.tables e below P (T.setTop (mkF m pc ls (.double x :: st))) := by
  subst hp; obtain ⟨_, X, -, -⟩ := X
  exact g.st fun t k => Jvm.Free.XS.d2iS X.here C.1 rfl (hb C.2.1 hd) rfl rfl k
theorem k_d2l (C : own_C p s m meth c Z own nm code ml rt) (X : own_S p l e R s m args below meth c Z T L k n) {x : UInt64} (hd : decode code pc = .ok (.d2l, 1)) (hp : pc + 1 = npc) (g : own_Go p.tables e below P (T.setTop (mkF m npc ls (.long (FP.d2l x) :: st)))) : own_Go p.tables e below P (T.setTop (mkF m pc ls (.double x :: st))) := by
  subst hp; obtain ⟨_, X, -, -⟩ := X
  exact g.st fun t k => Jvm.Free.XS.d2lS X.here C.1 rfl (hb C.2.1 hd) rfl rfl k
theorem k_dneg (C : own_C p s m meth c Z own nm code ml rt) (X : own_S p l e R s m args below meth c Z T L k n) {x : UInt64} (hd : decode code pc = .ok (.dneg, 1)) (hp : pc + 1 = npc) (g : own_Go p.tables e below P (T.setTop (mkF m npc ls (.double (FP.dneg x) :: st)))) : own_Go p.tables e below P (T.setTop (mkF m pc ls (.double x :: st))) := by
  subst hp; obtain ⟨_, X, -, -⟩ := X
  exact g.st fun t k => Jvm.Free.XS.dnegS X.here C.1 rfl (hb C.2.1 hd) rfl rfl k
theorem k_lcmp (C : own_C p s m meth c Z own nm code ml rt) (X : own_S p l e R s m args below meth c Z T L k n) {x y : Int64} (hd : decode code pc = .ok (.lcmp, 1)) (hp : pc + 1 = npc) (g : own_Go p.tables e below P (T.setTop (mkF m npc ls (.int (Jvm.Free.XT.cmpL x y) :: st)))) : own_Go p.tables e below P (T.setTop (mkF m pc ls (.long y :: .long x :: st))) := by
  subst hp; obtain ⟨_, X, -, -⟩ := X
  exact g.st fun t k => Jvm.Free.XT.lcmp X.here C.1 rfl (hb C.2.1 hd) rfl k
theorem k_dcmpl (C : own_C p s m meth c Z own nm code ml rt) (X : own_S p l e R s m args below meth c Z T L k n) {x y : UInt64} (hd : decode code pc = .ok (.dcmp .l, 1)) (hp : pc + 1 = npc) (g : own_Go p.tables e below P (T.setTop (mkF m npc ls (.int (FP.cmpInt (-1) (FP.dcmp x y)) :: st)))) : own_Go p.tables e below P (T.setTop (mkF m pc ls (.double y :: .double x :: st))) := by
  subst hp; obtain ⟨_, X, -, -⟩ := X
  exact g.st fun t k => Jvm.Free.XS.dcmpS X.here C.1 rfl (hb C.2.1 hd) rfl (cmpV_l _) k
theorem k_dcmpg (C : own_C p s m meth c Z own nm code ml rt) (X : own_S p l e R s m args below meth c Z T L k n) {x y : UInt64} (hd : decode code pc = .ok (.dcmp .g, 1)) (hp : pc + 1 = npc) (g : own_Go p.tables e below P (T.setTop (mkF m npc ls (.int (FP.cmpInt 1 (FP.dcmp x y)) :: st)))) : own_Go p.tables e below P (T.setTop (mkF m pc ls (.double y :: .double x :: st))) := by
  subst hp; obtain ⟨_, X, -, -⟩ := X
  exact g.st fun t k => Jvm.Free.XS.dcmpS X.here C.1 rfl (hb C.2.1 hd) rfl (cmpV_g _) k
theorem k_dadd (C : own_C p s m meth c Z own nm code ml rt) (X : own_S p l e R s m args below meth c Z T L k n) {x y : UInt64} (hd : decode code pc = .ok (.dadd, 1)) (hp : pc + 1 = npc) (hn : Jvm.Free.Fl.NoNaN64 (FP.dadd x y)) (g : ∀ v, v = FP.dadd x y → own_Go p.tables e below P (T.setTop (mkF m npc ls (.double v :: st)))) : own_Go p.tables e below P (T.setTop (mkF m pc ls (.double y :: .double x :: st))) := by
  subst hp; obtain ⟨_, X, -, -⟩ := X
  exact (g _ rfl).st fun t k => Jvm.Free.XS.daddS X.here C.1 rfl (hb C.2.1 hd) rfl hn rfl k
theorem k_dsub (C : own_C p s m meth c Z own nm code ml rt) (X : own_S p l e R s m args below meth c Z T L k n) {x y : UInt64} (hd : decode code pc = .ok (.dsub, 1)) (hp : pc + 1 = npc) (hn : Jvm.Free.Fl.NoNaN64 (FP.dsub x y)) (g : ∀ v, v = FP.dsub x y → own_Go p.tables e below P (T.setTop (mkF m npc ls (.double v :: st)))) : own_Go p.tables e below P (T.setTop (mkF m pc ls (.double y :: .double x :: st))) := by
  subst hp; obtain ⟨_, X, -, -⟩ := X
  exact (g _ rfl).st fun t k => Jvm.Free.XS.dsubS X.here C.1 rfl (hb C.2.1 hd) rfl hn rfl k
theorem k_dmul (C : own_C p s m meth c Z own nm code ml rt) (X : own_S p l e R s m args below meth c Z T L k n) {x y : UInt64} (hd : decode code pc = .ok (.dmul, 1)) (hp : pc + 1 = npc) (hn : Jvm.Free.Fl.NoNaN64 (FP.dmul x y)) (g : ∀ v, v = FP.dmul x y → own_Go p.tables e below P (T.setTop (mkF m npc ls (.double v :: st)))) : own_Go p.tables e below P (T.setTop (mkF m pc ls (.double y :: .double x :: st))) := by
  subst hp; obtain ⟨_, X, -, -⟩ := X
  exact (g _ rfl).st fun t k => Jvm.Free.XS.dmulS X.here C.1 rfl (hb C.2.1 hd) rfl hn rfl k
theorem k_ddiv (C : own_C p s m meth c Z own nm code ml rt) (X : own_S p l e R s m args below meth c Z T L k n) {x y : UInt64} (hd : decode code pc = .ok (.ddiv, 1)) (hp : pc + 1 = npc) (hn : Jvm.Free.Fl.NoNaN64 (FP.ddiv x y)) (g : ∀ v, v = FP.ddiv x y → own_Go p.tables e below P (T.setTop (mkF m npc ls (.double v :: st)))) : own_Go p.tables e below P (T.setTop (mkF m pc ls (.double y :: .double x :: st))) := by
  subst hp; obtain ⟨_, X, -, -⟩ := X
  exact (g _ rfl).st fun t k => Jvm.Free.XS.ddivS X.here C.1 rfl (hb C.2.1 hd) rfl hn rfl k
theorem k_daddE (C : own_C p s m meth c Z own nm code ml rt) (X : own_S p l e R s m args below meth c Z T L k n) {x y : UInt64} (hd : decode code pc = .ok (.dadd, 1)) (hp : pc + 1 = npc) (hn : Jvm.Free.Fl.NoNaN64 (FP.dadd x y)) (g : own_Go p.tables e below P (T.setTop (mkF m npc ls (.double (FP.dadd x y) :: st)))) : own_Go p.tables e below P (T.setTop (mkF m pc ls (.double y :: .double x :: st))) := by
  subst hp; obtain ⟨_, X, -, -⟩ := X
  exact g.st fun t k => Jvm.Free.XS.daddS X.here C.1 rfl (hb C.2.1 hd) rfl hn rfl k
theorem k_dsubE (C : own_C p s m meth c Z own nm code ml rt) (X : own_S p l e R s m args below meth c Z T L k n) {x y : UInt64} (hd : decode code pc = .ok (.dsub, 1)) (hp : pc + 1 = npc) (hn : Jvm.Free.Fl.NoNaN64 (FP.dsub x y)) (g : own_Go p.tables e below P (T.setTop (mkF m npc ls (.double (FP.dsub x y) :: st)))) : own_Go p.tables e below P (T.setTop (mkF m pc ls (.double y :: .double x :: st))) := by
  subst hp; obtain ⟨_, X, -, -⟩ := X
  exact g.st fun t k => Jvm.Free.XS.dsubS X.here C.1 rfl (hb C.2.1 hd) rfl hn rfl k
theorem k_dmulE (C : own_C p s m meth c Z own nm code ml rt) (X : own_S p l e R s m args below meth c Z T L k n) {x y : UInt64} (hd : decode code pc = .ok (.dmul, 1)) (hp : pc + 1 = npc) (hn : Jvm.Free.Fl.NoNaN64 (FP.dmul x y)) (g : own_Go p.tables e below P (T.setTop (mkF m npc ls (.double (FP.dmul x y) :: st)))) : own_Go p.tables e below P (T.setTop (mkF m pc ls (.double y :: .double x :: st))) := by
  subst hp; obtain ⟨_, X, -, -⟩ := X
  exact g.st fun t k => Jvm.Free.XS.dmulS X.here C.1 rfl (hb C.2.1 hd) rfl hn rfl k
theorem k_ddivE (C : own_C p s m meth c Z own nm code ml rt) (X : own_S p l e R s m args below meth c Z T L k n) {x y : UInt64} (hd : decode code pc = .ok (.ddiv, 1)) (hp : pc + 1 = npc) (hn : Jvm.Free.Fl.NoNaN64 (FP.ddiv x y)) (g : own_Go p.tables e below P (T.setTop (mkF m npc ls (.double (FP.ddiv x y) :: st)))) : own_Go p.tables e below P (T.setTop (mkF m pc ls (.double y :: .double x :: st))) := by
  subst hp; obtain ⟨_, X, -, -⟩ := X
  exact g.st fun t k => Jvm.Free.XS.ddivS X.here C.1 rfl (hb C.2.1 hd) rfl hn rfl k
theorem k_iconst (C : own_C p s m meth c Z own nm code ml rt) (X : own_S p l e R s m args below meth c Z T L k n) {i : Int} {v : Int32} (hd : decode code pc = .ok (.iconst i, 1)) (hp : pc + 1 = npc) (hv : Int32.ofInt i = v) (g : own_Go p.tables e below P (T.setTop (mkF m npc ls (.int v :: st)))) : own_Go p.tables e below P (T.setTop (mkF m pc ls (st))) := by
  subst hp; obtain ⟨_, X, -, -⟩ := X
  exact g.st fun t k => Jvm.Free.XT.iconstV X.here C.1 rfl v (hb C.2.1 hd) hv k
theorem k_bipush (C : own_C p s m meth c Z own nm code ml rt) (X : own_S p l e R s m args below meth c Z T L k n) {i : Int} {v : Int32} (hd : decode code pc = .ok (.bipush i, 2)) (hp : pc + 2 = npc) (hv : (Int8.ofInt i).toInt32 = v) (g : own_Go p.tables e below P (T.setTop (mkF m npc ls (.int v :: st)))) : own_Go p.tables e below P (T.setTop (mkF m pc ls (st))) := by
  subst hp; obtain ⟨_, X, -, -⟩ := X
  exact g.st fun t k => Jvm.Free.XT.bipushV X.here C.1 rfl v (hb C.2.1 hd) hv k
theorem k_sipush (C : own_C p s m meth c Z own nm code ml rt) (X : own_S p l e R s m args below meth c Z T L k n) {i : Int} {v : Int32} (hd : decode code pc = .ok (.sipush i, 3)) (hp : pc + 3 = npc) (hv : (Int16.ofInt i).toInt32 = v) (g : own_Go p.tables e below P (T.setTop (mkF m npc ls (.int v :: st)))) : own_Go p.tables e below P (T.setTop (mkF m pc ls (st))) := by
  subst hp; obtain ⟨_, X, -, -⟩ := X
  exact g.st fun t k => Jvm.Free.XT.sipushV X.here C.1 rfl v (hb C.2.1 hd) hv k
theorem k_lconst (C : own_C p s m meth c Z own nm code ml rt) (X : own_S p l e R s m args below meth c Z T L k n) {i : Fin 2} {v : Int64} (hd : decode code pc = .ok (.lconst i, 1)) (hp : pc + 1 = npc) (hv : Int64.ofNat i = v) (g : own_Go p.tables e below P (T.setTop (mkF m npc ls (.long v :: st)))) : own_Go p.tables e below P (T.setTop (mkF m pc ls (st))) := by
  subst hp; obtain ⟨_, X, -, -⟩ := X
  exact g.st fun t k => Jvm.Free.XT.lconstV X.here C.1 rfl v (hb C.2.1 hd) hv k
theorem k_dconst0 (C : own_C p s m meth c Z own nm code ml rt) (X : own_S p l e R s m args below meth c Z T L k n) (hd : decode code pc = .ok (.dconst 0, 1)) (hp : pc + 1 = npc) (g : own_Go p.tables e below P (T.setTop (mkF m npc ls (.double 0 :: st)))) : own_Go p.tables e below P (T.setTop (mkF m pc ls (st))) := by
  subst hp; obtain ⟨_, X, -, -⟩ := X
  exact g.st fun t k => Jvm.Free.XS.dconst0 X.here C.1 rfl (hb C.2.1 hd) rfl k
theorem k_dconst1 (C : own_C p s m meth c Z own nm code ml rt) (X : own_S p l e R s m args below meth c Z T L k n) (hd : decode code pc = .ok (.dconst 1, 1)) (hp : pc + 1 = npc) (g : own_Go p.tables e below P (T.setTop (mkF m npc ls (.double 4607182418800017408 :: st)))) : own_Go p.tables e below P (T.setTop (mkF m pc ls (st))) := by
  subst hp; obtain ⟨_, X, -, -⟩ := X
  exact g.st fun t k => Jvm.Free.XS.dconst1 X.here C.1 rfl (hb C.2.1 hd) rfl k
theorem k_aconst_null (C : own_C p s m meth c Z own nm code ml rt) (X : own_S p l e R s m args below meth c Z T L k n) (hd : decode code pc = .ok (.aconst_null, 1)) (hp : pc + 1 = npc) (g : own_Go p.tables e below P (T.setTop (mkF m npc ls (.null :: st)))) : own_Go p.tables e below P (T.setTop (mkF m pc ls (st))) := by
  subst hp; obtain ⟨_, X, -, -⟩ := X
  exact g.st fun t k => Jvm.Free.XS.aconstNull X.here C.1 rfl (hb C.2.1 hd)  k
theorem k_pop (C : own_C p s m meth c Z own nm code ml rt) (X : own_S p l e R s m args below meth c Z T L k n) {x : Value} (hd : decode code pc = .ok (.pop, 1)) (hp : pc + 1 = npc) (hc : x.category = 1) (g : own_Go p.tables e below P (T.setTop (mkF m npc ls (st)))) : own_Go p.tables e below P (T.setTop (mkF m pc ls (x :: st))) := by
  subst hp; obtain ⟨_, X, -, -⟩ := X
  exact g.st fun t k => Jvm.Free.XT.pop X.here C.1 rfl (hb C.2.1 hd) rfl hc k
theorem k_dup (C : own_C p s m meth c Z own nm code ml rt) (X : own_S p l e R s m args below meth c Z T L k n) {x : Value} (hd : decode code pc = .ok (.dup, 1)) (hp : pc + 1 = npc) (hc : x.category = 1) (g : own_Go p.tables e below P (T.setTop (mkF m npc ls (x :: x :: st)))) : own_Go p.tables e below P (T.setTop (mkF m pc ls (x :: st))) := by
  subst hp; obtain ⟨_, X, -, -⟩ := X
  exact g.st fun t k => Jvm.Free.XS.dup X.here C.1 rfl (hb C.2.1 hd) rfl hc k
theorem k_dup_x1 (C : own_C p s m meth c Z own nm code ml rt) (X : own_S p l e R s m args below meth c Z T L k n) {x y : Value} (hd : decode code pc = .ok (.dup_x1, 1)) (hp : pc + 1 = npc) (hc : x.category = 1) (hc' : y.category = 1) (g : own_Go p.tables e below P (T.setTop (mkF m npc ls (x :: y :: x :: st)))) : own_Go p.tables e below P (T.setTop (mkF m pc ls (x :: y :: st))) := by
  subst hp; obtain ⟨_, X, -, -⟩ := X
  exact g.st fun t k => Jvm.Free.XT.dupX1 X.here C.1 rfl (hb C.2.1 hd) rfl hc hc' k
theorem k_dup2 (C : own_C p s m meth c Z own nm code ml rt) (X : own_S p l e R s m args below meth c Z T L k n) {x y : Value} (hd : decode code pc = .ok (.dup2, 1)) (hp : pc + 1 = npc) (hc : x.category = 1) (hc' : y.category = 1) (g : own_Go p.tables e below P (T.setTop (mkF m npc ls (x :: y :: x :: y :: st)))) : own_Go p.tables e below P (T.setTop (mkF m pc ls (x :: y :: st))) := by
  subst hp; obtain ⟨_, X, -, -⟩ := X
  exact g.st fun t k => Jvm.Free.XT.dup2 X.here C.1 rfl (hb C.2.1 hd) rfl hc hc' k
theorem k_iload (C : own_C p s m meth c Z own nm code ml rt) (X : own_S p l e R s m args below meth c Z T L k n) {i : Nat} {v : Int32} (hd : decode code pc = .ok (.iload i, 2)) (hp : pc + 2 = npc) (hl : ls[i]? = some (.val (.int v))) (g : own_Go p.tables e below P (T.setTop (mkF m npc ls (.int v :: st)))) : own_Go p.tables e below P (T.setTop (mkF m pc ls (st))) := by
  subst hp; obtain ⟨_, X, -, -⟩ := X
  exact g.st fun t k => Jvm.Free.XS.iload X.here C.1 rfl (hb C.2.1 hd) hl k
theorem k_istore (C : own_C p s m meth c Z own nm code ml rt) (X : own_S p l e R s m args below meth c Z T L k n) {i : Nat} {v : Int32} {l' : Array Slot} (hd : decode code pc = .ok (.istore i, 2)) (hp : pc + 2 = npc) (hl : storeLocals ls i (.int v) = some l') (g : own_Go p.tables e below P (T.setTop (mkF m npc l' st))) : own_Go p.tables e below P (T.setTop (mkF m pc ls (.int v :: st))) := by
  subst hp; obtain ⟨_, X, -, -⟩ := X
  exact g.st fun t k => Jvm.Free.XS.istore X.here C.1 rfl (hb C.2.1 hd) rfl hl k
theorem k_iloadN (C : own_C p s m meth c Z own nm code ml rt) (X : own_S p l e R s m args below meth c Z T L k n) {i : Fin 4} {v : Int32} (hd : decode code pc = .ok (.iload_n i, 1)) (hp : pc + 1 = npc) (hl : ls[i.val]? = some (.val (.int v))) (g : own_Go p.tables e below P (T.setTop (mkF m npc ls (.int v :: st)))) : own_Go p.tables e below P (T.setTop (mkF m pc ls (st))) := by
  subst hp; obtain ⟨_, X, -, -⟩ := X
  exact g.st fun t k => Jvm.Free.XS.iloadN X.here C.1 rfl (hb C.2.1 hd) hl k
theorem k_istoreN (C : own_C p s m meth c Z own nm code ml rt) (X : own_S p l e R s m args below meth c Z T L k n) {i : Fin 4} {v : Int32} {l' : Array Slot} (hd : decode code pc = .ok (.istore_n i, 1)) (hp : pc + 1 = npc) (hl : storeLocals ls i.val (.int v) = some l') (g : own_Go p.tables e below P (T.setTop (mkF m npc l' st))) : own_Go p.tables e below P (T.setTop (mkF m pc ls (.int v :: st))) := by
  subst hp; obtain ⟨_, X, -, -⟩ := X
  exact g.st fun t k => Jvm.Free.XS.istoreN X.here C.1 rfl (hb C.2.1 hd) rfl hl k
theorem k_lload (C : own_C p s m meth c Z own nm code ml rt) (X : own_S p l e R s m args below meth c Z T L k n) {i : Nat} {v : Int64} (hd : decode code pc = .ok (.lload i, 2)) (hp : pc + 2 = npc) (hl : ls[i]? = some (.val (.long v))) (g : own_Go p.tables e below P (T.setTop (mkF m npc ls (.long v :: st)))) : own_Go p.tables e below P (T.setTop (mkF m pc ls (st))) := by
  subst hp; obtain ⟨_, X, -, -⟩ := X
  exact g.st fun t k => Jvm.Free.XT.lload X.here C.1 rfl (hb C.2.1 hd) hl k
theorem k_lstore (C : own_C p s m meth c Z own nm code ml rt) (X : own_S p l e R s m args below meth c Z T L k n) {i : Nat} {v : Int64} {l' : Array Slot} (hd : decode code pc = .ok (.lstore i, 2)) (hp : pc + 2 = npc) (hl : storeLocals ls i (.long v) = some l') (g : own_Go p.tables e below P (T.setTop (mkF m npc l' st))) : own_Go p.tables e below P (T.setTop (mkF m pc ls (.long v :: st))) := by
  subst hp; obtain ⟨_, X, -, -⟩ := X
  exact g.st fun t k => Jvm.Free.XT.lstore X.here C.1 rfl (hb C.2.1 hd) rfl hl k
theorem k_lloadN (C : own_C p s m meth c Z own nm code ml rt) (X : own_S p l e R s m args below meth c Z T L k n) {i : Fin 4} {v : Int64} (hd : decode code pc = .ok (.lload_n i, 1)) (hp : pc + 1 = npc) (hl : ls[i.val]? = some (.val (.long v))) (g : own_Go p.tables e below P (T.setTop (mkF m npc ls (.long v :: st)))) : own_Go p.tables e below P (T.setTop (mkF m pc ls (st))) := by
  subst hp; obtain ⟨_, X, -, -⟩ := X
  exact g.st fun t k => Jvm.Free.XT.lloadN X.here C.1 rfl (hb C.2.1 hd) hl k
theorem k_lstoreN (C : own_C p s m meth c Z own nm code ml rt) (X : own_S p l e R s m args below meth c Z T L k n) {i : Fin 4} {v : Int64} {l' : Array Slot} (hd : decode code pc = .ok (.lstore_n i, 1)) (hp : pc + 1 = npc) (hl : storeLocals ls i.val (.long v) = some l') (g : own_Go p.tables e below P (T.setTop (mkF m npc l' st))) : own_Go p.tables e below P (T.setTop (mkF m pc ls (.long v :: st))) := by
  subst hp; obtain ⟨_, X, -, -⟩ := X
  exact g.st fun t k => Jvm.Free.XT.lstoreN X.here C.1 rfl (hb C.2.1 hd) rfl hl k
theorem k_dload (C : own_C p s m meth c Z own nm code ml rt) (X : own_S p l e R s m args below meth c Z T L k n) {i : Nat} {v : UInt64} (hd : decode code pc = .ok (.dload i, 2)) (hp : pc + 2 = npc) (hl : ls[i]? = some (.val (.double v))) (g : own_Go p.tables e below P (T.setTop (mkF m npc ls (.double v :: st)))) : own_Go p.tables e below P (T.setTop (mkF m pc ls (st))) := by
  subst hp; obtain ⟨_, X, -, -⟩ := X
  exact g.st fun t k => Jvm.Free.XS.dload X.here C.1 rfl (hb C.2.1 hd) hl k
theorem k_dstore (C : own_C p s m meth c Z own nm code ml rt) (X : own_S p l e R s m args below meth c Z T L k n) {i : Nat} {v : UInt64} {l' : Array Slot} (hd : decode code pc = .ok (.dstore i, 2)) (hp : pc + 2 = npc) (hl : storeLocals ls i (.double v) = some l') (g : own_Go p.tables e below P (T.setTop (mkF m npc l' st))) : own_Go p.tables e below P (T.setTop (mkF m pc ls (.double v :: st))) := by
  subst hp; obtain ⟨_, X, -, -⟩ := X
  exact g.st fun t k => Jvm.Free.XS.dstore X.here C.1 rfl (hb C.2.1 hd) rfl hl k
theorem k_dloadN (C : own_C p s m meth c Z own nm code ml rt) (X : own_S p l e R s m args below meth c Z T L k n) {i : Fin 4} {v : UInt64} (hd : decode code pc = .ok (.dload_n i, 1)) (hp : pc + 1 = npc) (hl : ls[i.val]? = some (.val (.double v))) (g : own_Go p.tables e below P (T.setTop (mkF m npc ls (.double v :: st)))) : own_Go p.tables e below P (T.setTop (mkF m pc ls (st))) := by
  subst hp; obtain ⟨_, X, -, -⟩ := X
  exact g.st fun t k => Jvm.Free.XS.dloadN X.here C.1 rfl (hb C.2.1 hd) hl k
theorem k_dstoreN (C : own_C p s m meth c Z own nm code ml rt) (X : own_S p l e R s m args below meth c Z T L k n) {i : Fin 4} {v : UInt64} {l' : Array Slot} (hd : decode code pc = .ok (.dstore_n i, 1)) (hp : pc + 1 = npc) (hl : storeLocals ls i.val (.double v) = some l') (g : own_Go p.tables e below P (T.setTop (mkF m npc l' st))) : own_Go p.tables e below P (T.setTop (mkF m pc ls (.double v :: st))) := by
  subst hp; obtain ⟨_, X, -, -⟩ := X
  exact g.st fun t k => Jvm.Free.XS.dstoreN X.here C.1 rfl (hb C.2.1 hd) rfl hl k
theorem k_aload (C : own_C p s m meth c Z own nm code ml rt) (X : own_S p l e R s m args below meth c Z T L k n) {i : Nat} {v : Value} (hd : decode code pc = .ok (.aload i, 2)) (hp : pc + 2 = npc) (hl : ls[i]? = some (.val (v))) (hv : v.isRef = true) (g : own_Go p.tables e below P (T.setTop (mkF m npc ls (v :: st)))) : own_Go p.tables e below P (T.setTop (mkF m pc ls (st))) := by
  subst hp; obtain ⟨_, X, -, -⟩ := X
  exact g.st fun t k => Jvm.Free.XS.aload X.here C.1 rfl (hb C.2.1 hd) hl hv k
theorem k_astore (C : own_C p s m meth c Z own nm code ml rt) (X : own_S p l e R s m args below meth c Z T L k n) {i : Nat} {v : Value} {l' : Array Slot} (hd : decode code pc = .ok (.astore i, 2)) (hp : pc + 2 = npc) (hv : v.isRef = true) (hl : storeLocals ls i (v) = some l') (g : own_Go p.tables e below P (T.setTop (mkF m npc l' st))) : own_Go p.tables e below P (T.setTop (mkF m pc ls (v :: st))) := by
  subst hp; obtain ⟨_, X, -, -⟩ := X
  exact g.st fun t k => Jvm.Free.XS.astore X.here C.1 rfl (hb C.2.1 hd) rfl hv hl k
theorem k_aloadN (C : own_C p s m meth c Z own nm code ml rt) (X : own_S p l e R s m args below meth c Z T L k n) {i : Fin 4} {v : Value} (hd : decode code pc = .ok (.aload_n i, 1)) (hp : pc + 1 = npc) (hl : ls[i.val]? = some (.val (v))) (hv : v.isRef = true) (g : own_Go p.tables e below P (T.setTop (mkF m npc ls (v :: st)))) : own_Go p.tables e below P (T.setTop (mkF m pc ls (st))) := by
  subst hp; obtain ⟨_, X, -, -⟩ := X
  exact g.st fun t k => Jvm.Free.XS.aloadN X.here C.1 rfl (hb C.2.1 hd) hl hv k
theorem k_astoreN (C : own_C p s m meth c Z own nm code ml rt) (X : own_S p l e R s m args below meth c Z T L k n) {i : Fin 4} {v : Value} {l' : Array Slot} (hd : decode code pc = .ok (.astore_n i, 1)) (hp : pc + 1 = npc) (hv : v.isRef = true) (hl : storeLocals ls i.val (v) = some l') (g : own_Go p.tables e below P (T.setTop (mkF m npc l' st))) : own_Go p.tables e below P (T.setTop (mkF m pc ls (v :: st))) := by
  subst hp; obtain ⟨_, X, -, -⟩ := X
  exact g.st fun t k => Jvm.Free.XS.astoreN X.here C.1 rfl (hb C.2.1 hd) rfl hv hl k
theorem k_iinc (C : own_C p s m meth c Z own nm code ml rt) (X : own_S p l e R s m args below meth c Z T L k n) {i : Nat} {cst : Int} {x v : Int32} {l' : Array Slot} (hd : decode code pc = .ok (.iinc i cst, 3)) (hp : pc + 3 = npc) (hv : Int32.ofInt cst = v) (hl : ls[i]? = some (.val (.int x))) (hl' : storeLocals ls i (.int (x + v)) = some l') (g : own_Go p.tables e below P (T.setTop (mkF m npc l' st))) : own_Go p.tables e below P (T.setTop (mkF m pc ls st)) := by
  subst hp; obtain ⟨_, X, -, -⟩ := X
  exact g.st fun t k => Jvm.Free.XT.iincV X.here C.1 rfl v (hb C.2.1 hd) hv hl hl' k
theorem k_goto (C : own_C p s m meth c Z own nm code ml rt) (X : own_S p l e R s m args below meth c Z T L k n) {o : Int} (hd : decode code pc = .ok (.goto o, 3)) (ht : (pc : Int) + o = (tpc : Int)) (g : own_Go p.tables e below P (T.setTop (mkF m tpc ls st))) : own_Go p.tables e below P (T.setTop (mkF m pc ls st)) := by
  obtain ⟨_, X, -, -⟩ := X
  exact g.st fun t k => Jvm.Free.XS.goto X.here C.1 rfl (pc0 := pc) (pc' := tpc) rfl (hb C.2.1 hd) (by omega) (by omega) k
theorem k_if_eq (C : own_C p s m meth c Z own nm code ml rt) (X : own_S p l e R s m args below meth c Z T L k n) {x : Int32} {o : Int} (hd : decode code pc = .ok (.ifCond .eq o, 3)) (hp : pc + 3 = npc) (ht : (pc : Int) + o = (tpc : Int)) (yes : x = 0 → own_Go p.tables e below P (T.setTop (mkF m tpc ls st))) (no : ¬ x = 0 → own_Go p.tables e below P (T.setTop (mkF m npc ls st))) : own_Go p.tables e below P (T.setTop (mkF m pc ls (.int x :: st))) := by
  subst hp; obtain ⟨_, X, -, -⟩ := X
  by_cases q : x = 0
  · exact (yes q).st fun t k => Jvm.Free.XS.ifYes X.here C.1 rfl (pc0 := pc) (pc' := tpc) rfl (hb C.2.1 hd) rfl (Jvm.Free.XT.i0_eq_t q) (by omega) (by omega) k
  · exact (no q).st fun t k => Jvm.Free.XS.ifNo X.here C.1 rfl (hb C.2.1 hd) rfl (Jvm.Free.XT.i0_eq_f q) k
theorem k_if_ne (C : own_C p s m meth c Z own nm code ml rt) (X : own_S p l e R s m args below meth c Z T L k n) {x : Int32} {o : Int} (hd : decode code pc = .ok (.ifCond .ne o, 3)) (hp : pc + 3 = npc) (ht : (pc : Int) + o = (tpc : Int)) (yes : ¬ x = 0 → own_Go p.tables e below P (T.setTop (mkF m tpc ls st))) (no : x = 0 → own_Go p.tables e below P (T.setTop (mkF m npc ls st))) : own_Go p.tables e below P (T.setTop (mkF m pc ls (.int x :: st))) := by
  subst hp; obtain ⟨_, X, -, -⟩ := X
  by_cases q : ¬ x = 0
  · exact (yes q).st fun t k => Jvm.Free.XS.ifYes X.here C.1 rfl (pc0 := pc) (pc' := tpc) rfl (hb C.2.1 hd) rfl (Jvm.Free.XT.i0_ne_t q) (by omega) (by omega) k
  · have q := Decidable.not_not.mp q
    exact (no q).st fun t k => Jvm.Free.XS.ifNo X.here C.1 rfl (hb C.2.1 hd) rfl (Jvm.Free.XT.i0_ne_f q) k
theorem k_if_lt (C : own_C p s m meth c Z own nm code ml rt) (X : own_S p l e R s m args below meth c Z T L k n) {x : Int32} {o : Int} (hd : decode code pc = .ok (.ifCond .lt o, 3)) (hp : pc + 3 = npc) (ht : (pc : Int) + o = (tpc : Int)) (yes : x < 0 → own_Go p.tables e below P (T.setTop (mkF m tpc ls st))) (no : ¬ x < 0 → own_Go p.tables e below P (T.setTop (mkF m npc ls st))) : own_Go p.tables e below P (T.setTop (mkF m pc ls (.int x :: st))) := by
  subst hp; obtain ⟨_, X, -, -⟩ := X
  by_cases q : x < 0
  · exact (yes q).st fun t k => Jvm.Free.XS.ifYes X.here C.1 rfl (pc0 := pc) (pc' := tpc) rfl (hb C.2.1 hd) rfl (Jvm.Free.XT.i0_lt_t q) (by omega) (by omega) k
  · exact (no q).st fun t k => Jvm.Free.XS.ifNo X.here C.1 rfl (hb C.2.1 hd) rfl (Jvm.Free.XT.i0_lt_f q) k
theorem k_if_ge (C : own_C p s m meth c Z own nm code ml rt) (X : own_S p l e R s m args below meth c Z T L k n) {x : Int32} {o : Int} (hd : decode code pc = .ok (.ifCond .ge o, 3)) (hp : pc + 3 = npc) (ht : (pc : Int) + o = (tpc : Int)) (yes : ¬ x < 0 → own_Go p.tables e below P (T.setTop (mkF m tpc ls st))) (no : x < 0 → own_Go p.tables e below P (T.setTop (mkF m npc ls st))) : own_Go p.tables e below P (T.setTop (mkF m pc ls (.int x :: st))) := by
  subst hp; obtain ⟨_, X, -, -⟩ := X
  by_cases q : ¬ x < 0
  · exact (yes q).st fun t k => Jvm.Free.XS.ifYes X.here C.1 rfl (pc0 := pc) (pc' := tpc) rfl (hb C.2.1 hd) rfl (Jvm.Free.XT.i0_ge_t q) (by omega) (by omega) k
  · have q := Decidable.not_not.mp q
    exact (no q).st fun t k => Jvm.Free.XS.ifNo X.here C.1 rfl (hb C.2.1 hd) rfl (Jvm.Free.XT.i0_ge_f q) k
theorem k_if_gt (C : own_C p s m meth c Z own nm code ml rt) (X : own_S p l e R s m args below meth c Z T L k n) {x : Int32} {o : Int} (hd : decode code pc = .ok (.ifCond .gt o, 3)) (hp : pc + 3 = npc) (ht : (pc : Int) + o = (tpc : Int)) (yes : 0 < x → own_Go p.tables e below P (T.setTop (mkF m tpc ls st))) (no : ¬ 0 < x → own_Go p.tables e below P (T.setTop (mkF m npc ls st))) : own_Go p.tables e below P (T.setTop (mkF m pc ls (.int x :: st))) := by
  subst hp; obtain ⟨_, X, -, -⟩ := X
  by_cases q : 0 < x
  · exact (yes q).st fun t k => Jvm.Free.XS.ifYes X.here C.1 rfl (pc0 := pc) (pc' := tpc) rfl (hb C.2.1 hd) rfl (Jvm.Free.XT.i0_gt_t q) (by omega) (by omega) k
  · exact (no q).st fun t k => Jvm.Free.XS.ifNo X.here C.1 rfl (hb C.2.1 hd) rfl (Jvm.Free.XT.i0_gt_f q) k
theorem k_if_le (C : own_C p s m meth c Z own nm code ml rt) (X : own_S p l e R s m args below meth c Z T L k n) {x : Int32} {o : Int} (hd : decode code pc = .ok (.ifCond .le o, 3)) (hp : pc + 3 = npc) (ht : (pc : Int) + o = (tpc : Int)) (yes : ¬ 0 < x → own_Go p.tables e below P (T.setTop (mkF m tpc ls st))) (no : 0 < x → own_Go p.tables e below P (T.setTop (mkF m npc ls st))) : own_Go p.tables e below P (T.setTop (mkF m pc ls (.int x :: st))) := by
  subst hp; obtain ⟨_, X, -, -⟩ := X
  by_cases q : ¬ 0 < x
  · exact (yes q).st fun t k => Jvm.Free.XS.ifYes X.here C.1 rfl (pc0 := pc) (pc' := tpc) rfl (hb C.2.1 hd) rfl (Jvm.Free.XT.i0_le_t q) (by omega) (by omega) k
  · have q := Decidable.not_not.mp q
    exact (no q).st fun t k => Jvm.Free.XS.ifNo X.here C.1 rfl (hb C.2.1 hd) rfl (Jvm.Free.XT.i0_le_f q) k
theorem k_icmp_eq (C : own_C p s m meth c Z own nm code ml rt) (X : own_S p l e R s m args below meth c Z T L k n) {x y : Int32} {o : Int} (hd : decode code pc = .ok (.if_icmp .eq o, 3)) (hp : pc + 3 = npc) (ht : (pc : Int) + o = (tpc : Int)) (yes : x = y → own_Go p.tables e below P (T.setTop (mkF m tpc ls st))) (no : ¬ x = y → own_Go p.tables e below P (T.setTop (mkF m npc ls st))) : own_Go p.tables e below P (T.setTop (mkF m pc ls (.int y :: .int x :: st))) := by
  subst hp; obtain ⟨_, X, -, -⟩ := X
  by_cases q : x = y
  · exact (yes q).st fun t k => Jvm.Free.XS.icmpYes X.here C.1 rfl (pc0 := pc) (pc' := tpc) rfl (hb C.2.1 hd) rfl (Jvm.Free.XT.ii_eq_t q) (by omega) (by omega) k
  · exact (no q).st fun t k => Jvm.Free.XS.icmpNo X.here C.1 rfl (hb C.2.1 hd) rfl (Jvm.Free.XT.ii_eq_f q) k
theorem k_icmp_ne (C : own_C p s m meth c Z own nm code ml rt) (X : own_S p l e R s m args below meth c Z T L k n) {x y : Int32} {o : Int} (hd : decode code pc = .ok (.if_icmp .ne o, 3)) (hp : pc + 3 = npc) (ht : (pc : Int) + o = (tpc : Int)) (yes : ¬ x = y → own_Go p.tables e below P (T.setTop (mkF m tpc ls st))) (no : x = y → own_Go p.tables e below P (T.setTop (mkF m npc ls st))) : own_Go p.tables e below P (T.setTop (mkF m pc ls (.int y :: .int x :: st))) := by
  subst hp; obtain ⟨_, X, -, -⟩ := X
  by_cases q : ¬ x = y
  · exact (yes q).st fun t k => Jvm.Free.XS.icmpYes X.here C.1 rfl (pc0 := pc) (pc' := tpc) rfl (hb C.2.1 hd) rfl (Jvm.Free.XT.ii_ne_t q) (by omega) (by omega) k
  · have q := Decidable.not_not.mp q
    exact (no q).st fun t k => Jvm.Free.XS.icmpNo X.here C.1 rfl (hb C.2.1 hd) rfl (Jvm.Free.XT.ii_ne_f q) k
theorem k_icmp_lt (C : own_C p s m meth c Z own nm code ml rt) (X : own_S p l e R s m args below meth c Z T L k n) {x y : Int32} {o : Int} (hd : decode code pc = .ok (.if_icmp .lt o, 3)) (hp : pc + 3 = npc) (ht : (pc : Int) + o = (tpc : Int)) (yes : x < y → own_Go p.tables e below P (T.setTop (mkF m tpc ls st))) (no : ¬ x < y → own_Go p.tables e below P (T.setTop (mkF m npc ls st))) : own_Go p.tables e below P (T.setTop (mkF m pc ls (.int y :: .int x :: st))) := by
  subst hp; obtain ⟨_, X, -, -⟩ := X
  by_cases q : x < y
  · exact (yes q).st fun t k => Jvm.Free.XS.icmpYes X.here C.1 rfl (pc0 := pc) (pc' := tpc) rfl (hb C.2.1 hd) rfl (Jvm.Free.XT.ii_lt_t q) (by omega) (by omega) k
  · exact (no q).st fun t k => Jvm.Free.XS.icmpNo X.here C.1 rfl (hb C.2.1 hd) rfl (Jvm.Free.XT.ii_lt_f q) k
theorem k_icmp_ge (C : own_C p s m meth c Z own nm code ml rt) (X : own_S p l e R s m args below meth c Z T L k n) {x y : Int32} {o : Int} (hd : decode code pc = .ok (.if_icmp .ge o, 3)) (hp : pc + 3 = npc) (ht : (pc : Int) + o = (tpc : Int)) (yes : ¬ x < y → own_Go p.tables e below P (T.setTop (mkF m tpc ls st))) (no : x < y → own_Go p.tables e below P (T.setTop (mkF m npc ls st))) : own_Go p.tables e below P (T.setTop (mkF m pc ls (.int y :: .int x :: st))) := by
  subst hp; obtain ⟨_, X, -, -⟩ := X
  by_cases q : ¬ x < y
  · exact (yes q).st fun t k => Jvm.Free.XS.icmpYes X.here C.1 rfl (pc0 := pc) (pc' := tpc) rfl (hb C.2.1 hd) rfl (Jvm.Free.XT.ii_ge_t q) (by omega) (by omega) k
  · have q := Decidable.not_not.mp q
    exact (no q).st fun t k => Jvm.Free.XS.icmpNo X.here C.1 rfl (hb C.2.1 hd) rfl (Jvm.Free.XT.ii_ge_f q) k
theorem k_icmp_gt (C : own_C p s m meth c Z own nm code ml rt) (X : own_S p l e R s m args below meth c Z T L k n) {x y : Int32} {o : Int} (hd : decode code pc = .ok (.if_icmp .gt o, 3)) (hp : pc + 3 = npc) (ht : (pc : Int) + o = (tpc : Int)) (yes : y < x → own_Go p.tables e below P (T.setTop (mkF m tpc ls st))) (no : ¬ y < x → own_Go p.tables e below P (T.setTop (mkF m npc ls st))) : own_Go p.tables e below P (T.setTop (mkF m pc ls (.int y :: .int x :: st))) := by
  subst hp; obtain ⟨_, X, -, -⟩ := X
  by_cases q : y < x
  · exact (yes q).st fun t k => Jvm.Free.XS.icmpYes X.here C.1 rfl (pc0 := pc) (pc' := tpc) rfl (hb C.2.1 hd) rfl (Jvm.Free.XT.ii_gt_t q) (by omega) (by omega) k
  · exact (no q).st fun t k => Jvm.Free.XS.icmpNo X.here C.1 rfl (hb C.2.1 hd) rfl (Jvm.Free.XT.ii_gt_f q) k
theorem k_icmp_le (C : own_C p s m meth c Z own nm code ml rt) (X : own_S p l e R s m args below meth c Z T L k n) {x y : Int32} {o : Int} (hd : decode code pc = .ok (.if_icmp .le o, 3)) (hp : pc + 3 = npc) (ht : (pc : Int) + o = (tpc : Int)) (yes : ¬ y < x → own_Go p.tables e below P (T.setTop (mkF m tpc ls st))) (no : y < x → own_Go p.tables e below P (T.setTop (mkF m npc ls st))) : own_Go p.tables e below P (T.setTop (mkF m pc ls (.int y :: .int x :: st))) := by
  subst hp; obtain ⟨_, X, -, -⟩ := X
  by_cases q : ¬ y < x
  · exact (yes q).st fun t k => Jvm.Free.XS.icmpYes X.here C.1 rfl (pc0 := pc) (pc' := tpc) rfl (hb C.2.1 hd) rfl (Jvm.Free.XT.ii_le_t q) (by omega) (by omega) k
  · have q := Decidable.not_not.mp q
    exact (no q).st fun t k => Jvm.Free.XS.icmpNo X.here C.1 rfl (hb C.2.1 hd) rfl (Jvm.Free.XT.ii_le_f q) k
theorem k_ifl_eq (C : own_C p s m meth c Z own nm code ml rt) (X : own_S p l e R s m args below meth c Z T L k n) {x y : Int64} {o : Int} (hd : decode code pc = .ok (.ifCond .eq o, 3)) (hp : pc + 3 = npc) (ht : (pc : Int) + o = (tpc : Int)) (yes : x = y → own_Go p.tables e below P (T.setTop (mkF m tpc ls st))) (no : ¬ x = y → own_Go p.tables e below P (T.setTop (mkF m npc ls st))) : own_Go p.tables e below P (T.setTop (mkF m pc ls (.int (Jvm.Free.XT.cmpL x y) :: st))) := by
  subst hp; obtain ⟨_, X, -, -⟩ := X
  by_cases q : x = y
  · exact (yes q).st fun t k => Jvm.Free.XS.ifYes X.here C.1 rfl (pc0 := pc) (pc' := tpc) rfl (hb C.2.1 hd) rfl (Jvm.Free.XT.ll_eq_t q) (by omega) (by omega) k
  · exact (no q).st fun t k => Jvm.Free.XS.ifNo X.here C.1 rfl (hb C.2.1 hd) rfl (Jvm.Free.XT.ll_eq_f q) k
theorem k_ifl_ne (C : own_C p s m meth c Z own nm code ml rt) (X : own_S p l e R s m args below meth c Z T L k n) {x y : Int64} {o : Int} (hd : decode code pc = .ok (.ifCond .ne o, 3)) (hp : pc + 3 = npc) (ht : (pc : Int) + o = (tpc : Int)) (yes : ¬ x = y → own_Go p.tables e below P (T.setTop (mkF m tpc ls st))) (no : x = y → own_Go p.tables e below P (T.setTop (mkF m npc ls st))) : own_Go p.tables e below P (T.setTop (mkF m pc ls (.int (Jvm.Free.XT.cmpL x y) :: st))) := by
  subst hp; obtain ⟨_, X, -, -⟩ := X
  by_cases q : ¬ x = y
  · exact (yes q).st fun t k => Jvm.Free.XS.ifYes X.here C.1 rfl (pc0 := pc) (pc' := tpc) rfl (hb C.2.1 hd) rfl (Jvm.Free.XT.ll_ne_t q) (by omega) (by omega) k
  · have q := Decidable.not_not.mp q
    exact (no q).st fun t k => Jvm.Free.XS.ifNo X.here C.1 rfl (hb C.2.1 hd) rfl (Jvm.Free.XT.ll_ne_f q) k
theorem k_ifl_lt (C : own_C p s m meth c Z own nm code ml rt) (X : own_S p l e R s m args below meth c Z T L k n) {x y : Int64} {o : Int} (hd : decode code pc = .ok (.ifCond .lt o, 3)) (hp : pc + 3 = npc) (ht : (pc : Int) + o = (tpc : Int)) (yes : x < y → own_Go p.tables e below P (T.setTop (mkF m tpc ls st))) (no : ¬ x < y → own_Go p.tables e below P (T.setTop (mkF m npc ls st))) : own_Go p.tables e below P (T.setTop (mkF m pc ls (.int (Jvm.Free.XT.cmpL x y) :: st))) := by
  subst hp; obtain ⟨_, X, -, -⟩ := X
  by_cases q : x < y
  · exact (yes q).st fun t k => Jvm.Free.XS.ifYes X.here C.1 rfl (pc0 := pc) (pc' := tpc) rfl (hb C.2.1 hd) rfl (Jvm.Free.XT.ll_lt_t q) (by omega) (by omega) k
  · exact (no q).st fun t k => Jvm.Free.XS.ifNo X.here C.1 rfl (hb C.2.1 hd) rfl (Jvm.Free.XT.ll_lt_f q) k
theorem k_ifl_ge (C : own_C p s m meth c Z own nm code ml rt) (X : own_S p l e R s m args below meth c Z T L k n) {x y : Int64} {o : Int} (hd : decode code pc = .ok (.ifCond .ge o, 3)) (hp : pc + 3 = npc) (ht : (pc : Int) + o = (tpc : Int)) (yes : ¬ x < y → own_Go p.tables e below P (T.setTop (mkF m tpc ls st))) (no : x < y → own_Go p.tables e below P (T.setTop (mkF m npc ls st))) : own_Go p.tables e below P (T.setTop (mkF m pc ls (.int (Jvm.Free.XT.cmpL x y) :: st))) := by
  subst hp; obtain ⟨_, X, -, -⟩ := X
  by_cases q : ¬ x < y
  · exact (yes q).st fun t k => Jvm.Free.XS.ifYes X.here C.1 rfl (pc0 := pc) (pc' := tpc) rfl (hb C.2.1 hd) rfl (Jvm.Free.XT.ll_ge_t q) (by omega) (by omega) k
  · have q := Decidable.not_not.mp q
    exact (no q).st fun t k => Jvm.Free.XS.ifNo X.here C.1 rfl (hb C.2.1 hd) rfl (Jvm.Free.XT.ll_ge_f q) k
theorem k_ifl_gt (C : own_C p s m meth c Z own nm code ml rt) (X : own_S p l e R s m args below meth c Z T L k n) {x y : Int64} {o : Int} (hd : decode code pc = .ok (.ifCond .gt o, 3)) (hp : pc + 3 = npc) (ht : (pc : Int) + o = (tpc : Int)) (yes : y < x → own_Go p.tables e below P (T.setTop (mkF m tpc ls st))) (no : ¬ y < x → own_Go p.tables e below P (T.setTop (mkF m npc ls st))) : own_Go p.tables e below P (T.setTop (mkF m pc ls (.int (Jvm.Free.XT.cmpL x y) :: st))) := by
  subst hp; obtain ⟨_, X, -, -⟩ := X
  by_cases q : y < x
  · exact (yes q).st fun t k => Jvm.Free.XS.ifYes X.here C.1 rfl (pc0 := pc) (pc' := tpc) rfl (hb C.2.1 hd) rfl (Jvm.Free.XT.ll_gt_t q) (by omega) (by omega) k
  · exact (no q).st fun t k => Jvm.Free.XS.ifNo X.here C.1 rfl (hb C.2.1 hd) rfl (Jvm.Free.XT.ll_gt_f q) k
theorem k_ifl_le (C : own_C p s m meth c Z own nm code ml rt) (X : own_S p l e R s m args below meth c Z T L k n) {x y : Int64} {o : Int} (hd : decode code pc = .ok (.ifCond .le o, 3)) (hp : pc + 3 = npc) (ht : (pc : Int) + o = (tpc : Int)) (yes : ¬ y < x → own_Go p.tables e below P (T.setTop (mkF m tpc ls st))) (no : y < x → own_Go p.tables e below P (T.setTop (mkF m npc ls st))) : own_Go p.tables e below P (T.setTop (mkF m pc ls (.int (Jvm.Free.XT.cmpL x y) :: st))) := by
  subst hp; obtain ⟨_, X, -, -⟩ := X
  by_cases q : ¬ y < x
  · exact (yes q).st fun t k => Jvm.Free.XS.ifYes X.here C.1 rfl (pc0 := pc) (pc' := tpc) rfl (hb C.2.1 hd) rfl (Jvm.Free.XT.ll_le_t q) (by omega) (by omega) k
  · have q := Decidable.not_not.mp q
    exact (no q).st fun t k => Jvm.Free.XS.ifNo X.here C.1 rfl (hb C.2.1 hd) rfl (Jvm.Free.XT.ll_le_f q) k
theorem k_ifdl_eq (C : own_C p s m meth c Z own nm code ml rt) (X : own_S p l e R s m args below meth c Z T L k n) {x y : UInt64} {o : Int} (hd : decode code pc = .ok (.ifCond .eq o, 3)) (hp : pc + 3 = npc) (ht : (pc : Int) + o = (tpc : Int)) (yes : (FP.dcmp x y = some .eq) → own_Go p.tables e below P (T.setTop (mkF m tpc ls st))) (no : ¬ (FP.dcmp x y = some .eq) → own_Go p.tables e below P (T.setTop (mkF m npc ls st))) : own_Go p.tables e below P (T.setTop (mkF m pc ls (.int (FP.cmpInt (-1) (FP.dcmp x y)) :: st))) := by
  subst hp; obtain ⟨_, X, -, -⟩ := X
  rcases hq : FP.dcmp x y with _ | (_ | _ | _) <;> simp only [hq] at yes no
  all_goals first
    | exact (yes (by simp)).st fun t k => Jvm.Free.XS.ifYes X.here C.1 rfl (pc0 := pc) (pc' := tpc) rfl (hb C.2.1 hd) rfl (by decide) (by omega) (by omega) k
    | exact (no (by simp)).st fun t k => Jvm.Free.XS.ifNo X.here C.1 rfl (hb C.2.1 hd) rfl (by decide) k
theorem k_ifdl_ne (C : own_C p s m meth c Z own nm code ml rt) (X : own_S p l e R s m args below meth c Z T L k n) {x y : UInt64} {o : Int} (hd : decode code pc = .ok (.ifCond .ne o, 3)) (hp : pc + 3 = npc) (ht : (pc : Int) + o = (tpc : Int)) (yes : ¬ (FP.dcmp x y = some .eq) → own_Go p.tables e below P (T.setTop (mkF m tpc ls st))) (no : (FP.dcmp x y = some .eq) → own_Go p.tables e below P (T.setTop (mkF m npc ls st))) : own_Go p.tables e below P (T.setTop (mkF m pc ls (.int (FP.cmpInt (-1) (FP.dcmp x y)) :: st))) := by
  subst hp; obtain ⟨_, X, -, -⟩ := X
  rcases hq : FP.dcmp x y with _ | (_ | _ | _) <;> simp only [hq] at yes no
  all_goals first
    | exact (yes (by simp)).st fun t k => Jvm.Free.XS.ifYes X.here C.1 rfl (pc0 := pc) (pc' := tpc) rfl (hb C.2.1 hd) rfl (by decide) (by omega) (by omega) k
    | exact (no (by simp)).st fun t k => Jvm.Free.XS.ifNo X.here C.1 rfl (hb C.2.1 hd) rfl (by decide) k
theorem k_ifdl_lt (C : own_C p s m meth c Z own nm code ml rt) (X : own_S p l e R s m args below meth c Z T L k n) {x y : UInt64} {o : Int} (hd : decode code pc = .ok (.ifCond .lt o, 3)) (hp : pc + 3 = npc) (ht : (pc : Int) + o = (tpc : Int)) (yes : (FP.dcmp x y = some .lt ∨ FP.dcmp x y = none) → own_Go p.tables e below P (T.setTop (mkF m tpc ls st))) (no : ¬ (FP.dcmp x y = some .lt ∨ FP.dcmp x y = none) → own_Go p.tables e below P (T.setTop (mkF m npc ls st))) : own_Go p.tables e below P (T.setTop (mkF m pc ls (.int (FP.cmpInt (-1) (FP.dcmp x y)) :: st))) := by
  subst hp; obtain ⟨_, X, -, -⟩ := X
  rcases hq : FP.dcmp x y with _ | (_ | _ | _) <;> simp only [hq] at yes no
  all_goals first
    | exact (yes (by simp)).st fun t k => Jvm.Free.XS.ifYes X.here C.1 rfl (pc0 := pc) (pc' := tpc) rfl (hb C.2.1 hd) rfl (by decide) (by omega) (by omega) k
    | exact (no (by simp)).st fun t k => Jvm.Free.XS.ifNo X.here C.1 rfl (hb C.2.1 hd) rfl (by decide) k
theorem k_ifdl_ge (C : own_C p s m meth c Z own nm code ml rt) (X : own_S p l e R s m args below meth c Z T L k n) {x y : UInt64} {o : Int} (hd : decode code pc = .ok (.ifCond .ge o, 3)) (hp : pc + 3 = npc) (ht : (pc : Int) + o = (tpc : Int)) (yes : ¬ (FP.dcmp x y = some .lt ∨ FP.dcmp x y = none) → own_Go p.tables e below P (T.setTop (mkF m tpc ls st))) (no : (FP.dcmp x y = some .lt ∨ FP.dcmp x y = none) → own_Go p.tables e below P (T.setTop (mkF m npc ls st))) : own_Go p.tables e below P (T.setTop (mkF m pc ls (.int (FP.cmpInt (-1) (FP.dcmp x y)) :: st))) := by
  subst hp; obtain ⟨_, X, -, -⟩ := X
  rcases hq : FP.dcmp x y with _ | (_ | _ | _) <;> simp only [hq] at yes no
  all_goals first
    | exact (yes (by simp)).st fun t k => Jvm.Free.XS.ifYes X.here C.1 rfl (pc0 := pc) (pc' := tpc) rfl (hb C.2.1 hd) rfl (by decide) (by omega) (by omega) k
    | exact (no (by simp)).st fun t k => Jvm.Free.XS.ifNo X.here C.1 rfl (hb C.2.1 hd) rfl (by decide) k
theorem k_ifdl_gt (C : own_C p s m meth c Z own nm code ml rt) (X : own_S p l e R s m args below meth c Z T L k n) {x y : UInt64} {o : Int} (hd : decode code pc = .ok (.ifCond .gt o, 3)) (hp : pc + 3 = npc) (ht : (pc : Int) + o = (tpc : Int)) (yes : (FP.dcmp x y = some .gt) → own_Go p.tables e below P (T.setTop (mkF m tpc ls st))) (no : ¬ (FP.dcmp x y = some .gt) → own_Go p.tables e below P (T.setTop (mkF m npc ls st))) : own_Go p.tables e below P (T.setTop (mkF m pc ls (.int (FP.cmpInt (-1) (FP.dcmp x y)) :: st))) := by
  subst hp; obtain ⟨_, X, -, -⟩ := X
  rcases hq : FP.dcmp x y with _ | (_ | _ | _) <;> simp only [hq] at yes no
  all_goals first
    | exact (yes (by simp)).st fun t k => Jvm.Free.XS.ifYes X.here C.1 rfl (pc0 := pc) (pc' := tpc) rfl (hb C.2.1 hd) rfl (by decide) (by omega) (by omega) k
    | exact (no (by simp)).st fun t k => Jvm.Free.XS.ifNo X.here C.1 rfl (hb C.2.1 hd) rfl (by decide) k
theorem k_ifdl_le (C : own_C p s m meth c Z own nm code ml rt) (X : own_S p l e R s m args below meth c Z T L k n) {x y : UInt64} {o : Int} (hd : decode code pc = .ok (.ifCond .le o, 3)) (hp : pc + 3 = npc) (ht : (pc : Int) + o = (tpc : Int)) (yes : ¬ (FP.dcmp x y = some .gt) → own_Go p.tables e below P (T.setTop (mkF m tpc ls st))) (no : (FP.dcmp x y = some .gt) → own_Go p.tables e below P (T.setTop (mkF m npc ls st))) : own_Go p.tables e below P (T.setTop (mkF m pc ls (.int (FP.cmpInt (-1) (FP.dcmp x y)) :: st))) := by
  subst hp; obtain ⟨_, X, -, -⟩ := X
  rcases hq : FP.dcmp x y with _ | (_ | _ | _) <;> simp only [hq] at yes no
  all_goals first
    | exact (yes (by simp)).st fun t k => Jvm.Free.XS.ifYes X.here C.1 rfl (pc0 := pc) (pc' := tpc) rfl (hb C.2.1 hd) rfl (by decide) (by omega) (by omega) k
    | exact (no (by simp)).st fun t k => Jvm.Free.XS.ifNo X.here C.1 rfl (hb C.2.1 hd) rfl (by decide) k
theorem k_ifdg_eq (C : own_C p s m meth c Z own nm code ml rt) (X : own_S p l e R s m args below meth c Z T L k n) {x y : UInt64} {o : Int} (hd : decode code pc = .ok (.ifCond .eq o, 3)) (hp : pc + 3 = npc) (ht : (pc : Int) + o = (tpc : Int)) (yes : (FP.dcmp x y = some .eq) → own_Go p.tables e below P (T.setTop (mkF m tpc ls st))) (no : ¬ (FP.dcmp x y = some .eq) → own_Go p.tables e below P (T.setTop (mkF m npc ls st))) : own_Go p.tables e below P (T.setTop (mkF m pc ls (.int (FP.cmpInt 1 (FP.dcmp x y)) :: st))) := by
  subst hp; obtain ⟨_, X, -, -⟩ := X
  rcases hq : FP.dcmp x y with _ | (_ | _ | _) <;> simp only [hq] at yes no
  all_goals first
    | exact (yes (by simp)).st fun t k => Jvm.Free.XS.ifYes X.here C.1 rfl (pc0 := pc) (pc' := tpc) rfl (hb C.2.1 hd) rfl (by decide) (by omega) (by omega) k
    | exact (no (by simp)).st fun t k => Jvm.Free.XS.ifNo X.here C.1 rfl (hb C.2.1 hd) rfl (by decide) k
theorem k_ifdg_ne (C : own_C p s m meth c Z own nm code ml rt) (X : own_S p l e R s m args below meth c Z T L k n) {x y : UInt64} {o : Int} (hd : decode code pc = .ok (.ifCond .ne o, 3)) (hp : pc + 3 = npc) (ht : (pc : Int) + o = (tpc : Int)) (yes : ¬ (FP.dcmp x y = some .eq) → own_Go p.tables e below P (T.setTop (mkF m tpc ls st))) (no : (FP.dcmp x y = some .eq) → own_Go p.tables e below P (T.setTop (mkF m npc ls st))) : own_Go p.tables e below P (T.setTop (mkF m pc ls (.int (FP.cmpInt 1 (FP.dcmp x y)) :: st))) := by
  subst hp; obtain ⟨_, X, -, -⟩ := X
  rcases hq : FP.dcmp x y with _ | (_ | _ | _) <;> simp only [hq] at yes no
  all_goals first
    | exact (yes (by simp)).st fun t k => Jvm.Free.XS.ifYes X.here C.1 rfl (pc0 := pc) (pc' := tpc) rfl (hb C.2.1 hd) rfl (by decide) (by omega) (by omega) k
    | exact (no (by simp)).st fun t k => Jvm.Free.XS.ifNo X.here C.1 rfl (hb C.2.1 hd) rfl (by decide) k
theorem k_ifdg_lt (C : own_C p s m meth c Z own nm code ml rt) (X : own_S p l e R s m args below meth c Z T L k n) {x y : UInt64} {o : Int} (hd : decode code pc = .ok (.ifCond .lt o, 3)) (hp : pc + 3 = npc) (ht : (pc : Int) + o = (tpc : Int)) (yes : (FP.dcmp x y = some .lt) → own_Go p.tables e below P (T.setTop (mkF m tpc ls st))) (no : ¬ (FP.dcmp x y = some .lt) → own_Go p.tables e below P (T.setTop (mkF m npc ls st))) : own_Go p.tables e below P (T.setTop (mkF m pc ls (.int (FP.cmpInt 1 (FP.dcmp x y)) :: st))) := by
  subst hp; obtain ⟨_, X, -, -⟩ := X
  rcases hq : FP.dcmp x y with _ | (_ | _ | _) <;> simp only [hq] at yes no
  all_goals first
    | exact (yes (by simp)).st fun t k => Jvm.Free.XS.ifYes X.here C.1 rfl (pc0 := pc) (pc' := tpc) rfl (hb C.2.1 hd) rfl (by decide) (by omega) (by omega) k
    | exact (no (by simp)).st fun t k => Jvm.Free.XS.ifNo X.here C.1 rfl (hb C.2.1 hd) rfl (by decide) k
theorem k_ifdg_ge (C : own_C p s m meth c Z own nm code ml rt) (X : own_S p l e R s m args below meth c Z T L k n) {x y : UInt64} {o : Int} (hd : decode code pc = .ok (.ifCond .ge o, 3)) (hp : pc + 3 = npc) (ht : (pc : Int) + o = (tpc : Int)) (yes : ¬ (FP.dcmp x y = some .lt) → own_Go p.tables e below P (T.setTop (mkF m tpc ls st))) (no : (FP.dcmp x y = some .lt) → own_Go p.tables e below P (T.setTop (mkF m npc ls st))) : own_Go p.tables e below P (T.setTop (mkF m pc ls (.int (FP.cmpInt 1 (FP.dcmp x y)) :: st))) := by
  subst hp; obtain ⟨_, X, -, -⟩ := X
  rcases hq : FP.dcmp x y with _ | (_ | _ | _) <;> simp only [hq] at yes no
  all_goals first
    | exact (yes (by simp)).st fun t k => Jvm.Free.XS.ifYes X.here C.1 rfl (pc0 := pc) (pc' := tpc) rfl (hb C.2.1 hd) rfl (by decide) (by omega) (by omega) k
    | exact (no (by simp)).st fun t k => Jvm.Free.XS.ifNo X.here C.1 rfl (hb C.2.1 hd) rfl (by decide) k
theorem k_ifdg_gt (C : own_C p s m meth c Z own nm code ml rt) (X : own_S p l e R s m args below meth c Z T L k n) {x y : UInt64} {o : Int} (hd : decode code pc = .ok (.ifCond .gt o, 3)) (hp : pc + 3 = npc) (ht : (pc : Int) + o = (tpc : Int)) (yes : (FP.dcmp x y = some .gt ∨ FP.dcmp x y = none) → own_Go p.tables e below P (T.setTop (mkF m tpc ls st))) (no : ¬ (FP.dcmp x y = some .gt ∨ FP.dcmp x y = none) → own_Go p.tables e below P (T.setTop (mkF m npc ls st))) : own_Go p.tables e below P (T.setTop (mkF m pc ls (.int (FP.cmpInt 1 (FP.dcmp x y)) :: st))) := by
  subst hp; obtain ⟨_, X, -, -⟩ := X
  rcases hq : FP.dcmp x y with _ | (_ | _ | _) <;> simp only [hq] at yes no
  all_goals first
    | exact (yes (by simp)).st fun t k => Jvm.Free.XS.ifYes X.here C.1 rfl (pc0 := pc) (pc' := tpc) rfl (hb C.2.1 hd) rfl (by decide) (by omega) (by omega) k
    | exact (no (by simp)).st fun t k => Jvm.Free.XS.ifNo X.here C.1 rfl (hb C.2.1 hd) rfl (by decide) k
theorem k_ifdg_le (C : own_C p s m meth c Z own nm code ml rt) (X : own_S p l e R s m args below meth c Z T L k n) {x y : UInt64} {o : Int} (hd : decode code pc = .ok (.ifCond .le o, 3)) (hp : pc + 3 = npc) (ht : (pc : Int) + o = (tpc : Int)) (yes : ¬ (FP.dcmp x y = some .gt ∨ FP.dcmp x y = none) → own_Go p.tables e below P (T.setTop (mkF m tpc ls st))) (no : (FP.dcmp x y = some .gt ∨ FP.dcmp x y = none) → own_Go p.tables e below P (T.setTop (mkF m npc ls st))) : own_Go p.tables e below P (T.setTop (mkF m pc ls (.int (FP.cmpInt 1 (FP.dcmp x y)) :: st))) := by
  subst hp; obtain ⟨_, X, -, -⟩ := X
  rcases hq : FP.dcmp x y with _ | (_ | _ | _) <;> simp only [hq] at yes no
  all_goals first
    | exact (yes (by simp)).st fun t k => Jvm.Free.XS.ifYes X.here C.1 rfl (pc0 := pc) (pc' := tpc) rfl (hb C.2.1 hd) rfl (by decide) (by omega) (by omega) k
    | exact (no (by simp)).st fun t k => Jvm.Free.XS.ifNo X.here C.1 rfl (hb C.2.1 hd) rfl (by decide) k
theorem k_ifnull_y (C : own_C p s m meth c Z own nm code ml rt) (X : own_S p l e R s m args below meth c Z T L k n)  {o : Int} (hd : decode code pc = .ok (.ifnull o, 3)) (ht : (pc : Int) + o = (tpc : Int)) (g : own_Go p.tables e below P (T.setTop (mkF m tpc ls st))) : own_Go p.tables e below P (T.setTop (mkF m pc ls (.null :: st))) := by
  obtain ⟨_, X, -, -⟩ := X
  exact g.st fun t k => Jvm.Free.XS.ifnullYes X.here C.1 rfl (pc0 := pc) (pc' := tpc) rfl (hb C.2.1 hd) rfl (by omega) (by omega) k
theorem k_ifnull_n (C : own_C p s m meth c Z own nm code ml rt) (X : own_S p l e R s m args below meth c Z T L k n) {b : Addr} {o : Int} (hd : decode code pc = .ok (.ifnull o, 3)) (hp : pc + 3 = npc) (g : own_Go p.tables e below P (T.setTop (mkF m npc ls st))) : own_Go p.tables e below P (T.setTop (mkF m pc ls (.ref b :: st))) := by
  subst hp; obtain ⟨_, X, -, -⟩ := X
  exact g.st fun t k => Jvm.Free.XS.ifnullNo X.here C.1 rfl (hb C.2.1 hd) rfl k
theorem k_ifnonnull_y (C : own_C p s m meth c Z own nm code ml rt) (X : own_S p l e R s m args below meth c Z T L k n) {b : Addr} {o : Int} (hd : decode code pc = .ok (.ifnonnull o, 3)) (ht : (pc : Int) + o = (tpc : Int)) (g : own_Go p.tables e below P (T.setTop (mkF m tpc ls st))) : own_Go p.tables e below P (T.setTop (mkF m pc ls (.ref b :: st))) := by
  obtain ⟨_, X, -, -⟩ := X
  exact g.st fun t k => Jvm.Free.XT.ifnonnullYes X.here C.1 rfl (pc0 := pc) (pc' := tpc) rfl (hb C.2.1 hd) rfl (by omega) (by omega) k
theorem k_ifnonnull_n (C : own_C p s m meth c Z own nm code ml rt) (X : own_S p l e R s m args below meth c Z T L k n)  {o : Int} (hd : decode code pc = .ok (.ifnonnull o, 3)) (hp : pc + 3 = npc) (g : own_Go p.tables e below P (T.setTop (mkF m npc ls st))) : own_Go p.tables e below P (T.setTop (mkF m pc ls (.null :: st))) := by
  subst hp; obtain ⟨_, X, -, -⟩ := X
  exact g.st fun t k => Jvm.Free.XT.ifnonnullNo X.here C.1 rfl (hb C.2.1 hd) rfl k
theorem k_acmp_eq (C : own_C p s m meth c Z own nm code ml rt) (X : own_S p l e R s m args below meth c Z T L k n) {x y : Value} {o : Int} (hd : decode code pc = .ok (.if_acmp .eq o, 3)) (hp : pc + 3 = npc) (ht : (pc : Int) + o = (tpc : Int)) (hx : x.isRef = true) (hy : y.isRef = true) (yes : x = y → own_Go p.tables e below P (T.setTop (mkF m tpc ls st))) (no : ¬ x = y → own_Go p.tables e below P (T.setTop (mkF m npc ls st))) : own_Go p.tables e below P (T.setTop (mkF m pc ls (y :: x :: st))) := by
  subst hp; obtain ⟨_, X, -, -⟩ := X
  by_cases q : x = y
  · exact (yes q).st fun t k => Jvm.Free.XT.acmpYes X.here C.1 rfl (pc0 := pc) (pc' := tpc) rfl (hb C.2.1 hd) rfl hx hy (Jvm.Free.XT.aa_eq_t q) (by omega) (by omega) k
  · exact (no q).st fun t k => Jvm.Free.XT.acmpNo X.here C.1 rfl (hb C.2.1 hd) rfl hx hy (Jvm.Free.XT.aa_eq_f q) k
theorem k_acmp_ne (C : own_C p s m meth c Z own nm code ml rt) (X : own_S p l e R s m args below meth c Z T L k n) {x y : Value} {o : Int} (hd : decode code pc = .ok (.if_acmp .ne o, 3)) (hp : pc + 3 = npc) (ht : (pc : Int) + o = (tpc : Int)) (hx : x.isRef = true) (hy : y.isRef = true) (yes : ¬ x = y → own_Go p.tables e below P (T.setTop (mkF m tpc ls st))) (no : x = y → own_Go p.tables e below P (T.setTop (mkF m npc ls st))) : own_Go p.tables e below P (T.setTop (mkF m pc ls (y :: x :: st))) := by
  subst hp; obtain ⟨_, X, -, -⟩ := X
  by_cases q : ¬ x = y
  · exact (yes q).st fun t k => Jvm.Free.XT.acmpYes X.here C.1 rfl (pc0 := pc) (pc' := tpc) rfl (hb C.2.1 hd) rfl hx hy (Jvm.Free.XT.aa_ne_t q) (by omega) (by omega) k
  · have q := Decidable.not_not.mp q
    exact (no q).st fun t k => Jvm.Free.XT.acmpNo X.here C.1 rfl (hb C.2.1 hd) rfl hx hy (Jvm.Free.XT.aa_ne_f q) k
theorem k_ldc (C : own_C p s m meth c Z own nm code ml rt) (X : own_S p l e R s m args below meth c Z T L k n) {i : Nat} {v : Int32} (hd : decode code pc = .ok (.ldc i, 2)) (hp : pc + 2 = npc) (hw : (Jvm.Cond.constant own i v).before a0 Z = true) (g : own_Go p.tables e below P (T.setTop (mkF m npc ls (.int v :: st)))) : own_Go p.tables e below P (T.setTop (mkF m pc ls st)) := by
  subst hp; obtain ⟨_, X, -, -⟩ := X
  exact g.st fun t k => X.ldcI C.1 C.2.2.2.2.1 (mv C.2.2.2.1 hw) rfl (hb C.2.1 hd) k
theorem k_ldc2l (C : own_C p s m meth c Z own nm code ml rt) (X : own_S p l e R s m args below meth c Z T L k n) {i : Nat} {v : Int64} (hd : decode code pc = .ok (.ldc2_w i, 3)) (hp : pc + 3 = npc) (hw : (Jvm.Cond.constantLong own i v).before a0 Z = true) (g : own_Go p.tables e below P (T.setTop (mkF m npc ls (.long v :: st)))) : own_Go p.tables e below P (T.setTop (mkF m pc ls st)) := by
  subst hp; obtain ⟨_, X, -, -⟩ := X
  exact g.st fun t k => X.ldc2J C.1 C.2.2.2.2.1 (mv C.2.2.2.1 hw) rfl (hb C.2.1 hd) k
theorem k_ldc2d (C : own_C p s m meth c Z own nm code ml rt) (X : own_S p l e R s m args below meth c Z T L k n) {i : Nat} {v : UInt64} (hd : decode code pc = .ok (.ldc2_w i, 3)) (hp : pc + 3 = npc) (hw : (Jvm.Cond.constantDouble own i v).before a0 Z = true) (g : own_Go p.tables e below P (T.setTop (mkF m npc ls (.double v :: st)))) : own_Go p.tables e below P (T.setTop (mkF m pc ls st)) := by
  subst hp; obtain ⟨_, X, -, -⟩ := X
  exact g.st fun t k => X.ldc2DoubleC C.1 C.2.2.2.2.1 (mv C.2.2.2.1 hw) (g := mkF m pc ls st) rfl (hb C.2.1 hd) _ k
theorem k_new (C : own_C p s m meth c Z own nm code ml rt) (X : own_S p l e R s m args below meth c Z T L k n) {i sl : Nat} {K : String} {N : List (String × String × FieldType)} {fs : List (String × String × Value)} (hd : decode code pc = .ok (.new i, 3)) (hp : pc + 3 = npc) (w1 : (Jvm.Cond.classLink own i K).before a0 Z = true) (w2 : (Jvm.Cond.instantiable K sl).before a0 Z = true) (w3 : (Jvm.Cond.initialized K).before a0 Z = true) (hN : own_lay Z a0 K N) (hfs : N.map (fun q => (q.1, q.2.1, defaultValue q.2.2)) = fs) (hk : k + 1 ≤ R.cells) (hn : n + sl ≤ R.slots)
    (g : ∀ T' a, own_S p l e R s m args below meth c Z T' ((a, own_ob Z K fs) :: L) (k + 1) (n + sl) → own_Go p.tables e below P (T'.setTop (mkF m npc ls (.ref a :: st)))) : own_Go p.tables e below P (T.setTop (mkF m pc ls st)) := by
  subst hp hfs; obtain ⟨locs, X, hF, hH⟩ := X
  obtain ⟨T', h', X', e', E', A', D', -, st'⟩ := newO X C.1 C.2.2.2.1 C.2.2.2.2.1 w1 w2 w3 rfl (g := mkF m pc ls st) rfl (hb C.2.1 hd) hk hn
  subst e'
  refine (g T' _ ⟨locs, X', hF, ?_⟩).st st'
  obtain ⟨c', q1, q2⟩ : ∃ c', T'.heap[T.heap.size]? = some c' ∧ own_ex Z K c' := by obtain ⟨c', kk, h1, r⟩ := A'; exact ⟨c', h1, kk, r⟩
  refine hH.push E' q1 ⟨q2, fun q hq => ?_⟩
  obtain ⟨r, hr, rfl⟩ := List.mem_map.mp hq
  obtain ⟨r1, r2⟩ := hN.mem r hr
  exact own_fd.of q1 (D' r1 r2)

theorem k_getfield (C : own_C p s m meth c Z own nm code ml rt) (X : own_S p l e R s m args below meth c Z T L k n) {i : Nat} {K f d host : String} {a : Addr} {v : Value} (hd : decode code pc = .ok (.getfield i, 3)) (hp : pc + 3 = npc) (hw : (Jvm.Cond.fieldLink own i K f d).before a0 Z = true ∨ (Jvm.Cond.fieldLinkNest own i K f d host).before a0 Z = true) (hF' : own_H Z.heap T.heap L → Fld Z T.heap a K f d v)
    (g : ∀ T', own_S p l e R s m args below meth c Z T' L k n → own_Go p.tables e below P (T'.setTop (mkF m npc ls (v :: st)))) : own_Go p.tables e below P (T.setTop (mkF m pc ls (.ref a :: st))) := by
  subst hp; obtain ⟨locs, X, hF, hH⟩ := X
  obtain ⟨T', X', e', st'⟩ := getF X C.1 C.2.2.2.1 C.2.2.2.2.1 hw Via.refl rfl (hF' hH) (g := mkF m pc ls (.ref a :: st)) rfl rfl (hb C.2.1 hd)
  exact (g T' ⟨locs, X', hF, by rw [e']; exact hH⟩).st st'

theorem k_putfield (C : own_C p s m meth c Z own nm code ml rt) (X : own_S p l e R s m args below meth c Z T L k n) {i ix j sl : Nat} {K f d host : String} {a : Addr} {v old : Value} {fs fs' : List (String × String × Value)} {N : List (String × String × FieldType)} {ty : FieldType} {L' : List (Addr × (Cell → Prop))} (hd : decode code pc = .ok (.putfield i, 3)) (hp : pc + 3 = npc) (hw : (Jvm.Cond.fieldLink own i K f d).before a0 Z = true ∨ (Jvm.Cond.fieldLinkNest own i K f d host).before a0 Z = true) (w2 : (Jvm.Cond.instantiable K sl).before a0 Z = true) (hlay : (Jvm.Cond.lays K K f d).before a0 Z = true ∨ ((Jvm.Cond.laysFinal K K f d).before a0 Z = true ∧ own = K ∧ nm = "<init>"))
    (hN : own_lay Z a0 K N) (hND : (N.map (·.1)).Nodup) (hi : L[ix]? = some (a, own_ob Z K fs)) (hfN : fs.map (fun q => (q.1, q.2.1)) = N.map (fun q => (q.1, q.2.1))) (hj : fs[j]? = some (f, d, old)) (hfs : fs.set j (f, d, v) = fs') (hty : parseFieldDescriptor d = some ty) (hnar : narrow ty v = v) (hfit : fits ty v = true) (hL : L.set ix (a, own_ob Z K fs') = L')
    (g : ∀ T', own_S p l e R s m args below meth c Z T' L' k n → own_Go p.tables e below P (T'.setTop (mkF m npc ls st))) : own_Go p.tables e below P (T.setTop (mkF m pc ls (v :: .ref a :: st))) := by
  subst hp hfs hL; obtain ⟨locs, X, hF, hH⟩ := X
  obtain ⟨ha, cc, h1, h2⟩ := hH.get hi
  have F := (h2.2 _ (List.mem_of_getElem? hj)).fld h1
  obtain ⟨T', h', X', e', W', st'⟩ := putF X C.1 C.2.2.2.1 C.2.2.2.2.1 hw Via.refl rfl F (h2.1.exa h1) (hlay.imp id fun q => ⟨q.1, q.2.1, C.2.2.2.2.2.1.trans q.2.2⟩) w2 hty hnar hfit (g := mkF m pc ls (v :: .ref a :: st)) rfl rfl (hb C.2.1 hd)
  subst e'
  refine (g T' ⟨_, X', Fr.snoc X' hF ha, ?_⟩).st st'
  have hname : ∀ q ∈ fs, ∃ t, Laid Z a0 K K q.1 q.2.1 ∧ parseFieldDescriptor q.2.1 = some t := fun q hq => by
    have : (q.1, q.2.1) ∈ N.map (fun q => (q.1, q.2.1)) := by rw [← hfN]; exact List.mem_map.mpr ⟨q, hq, rfl⟩
    obtain ⟨r, hr, e⟩ := List.mem_map.mp this
    obtain ⟨r1, r2⟩ := hN.mem r hr
    have e1 : r.1 = q.1 := congrArg Prod.fst e
    have e2 : r.2.1 = q.2.1 := congrArg Prod.snd e
    exact ⟨_, by rw [← e1, ← e2]; exact r1, by rw [← e2]; exact r2⟩
  have hnd : (fs.map (·.1)).Nodup := by
    have : fs.map (·.1) = N.map (·.1) := by
      have := congrArg (List.map Prod.fst) hfN
      simpa [List.map_map, Function.comp_def] using this
    rw [this]; exact hND
  obtain ⟨t1, hl1, hp1⟩ := hname _ (List.mem_of_getElem? hj)
  refine hH.set hi W' fun c hc hsl => ⟨?_, fun q hq => ?_⟩
  · obtain ⟨k1, r1, r2, r3, r4⟩ := hc.1
    exact ⟨k1, r1, r2, r3, fun q => by rw [← r4 q]; simp [Cell.setSlot]⟩
  · rcases own_setmem hq with rfl | ⟨j', hj', e⟩
    · obtain ⟨cf, k1, i1, f1, r1, r2, r3, r4, r5, r6⟩ := hc.2 _ (List.mem_of_getElem? hj)
      refine ⟨cf, k1, i1, f1, r1, r2, r3, r4, r5, ?_⟩
      have es : Jvm.RoadKit.slotOf Z K f d = f1.slot := by simp [Jvm.RoadKit.slotOf, r1]
      rw [es] at hsl ⊢
      simp [Cell.setSlot, hsl]
    · obtain ⟨cf, k1, i1, f1, r1, r2, r3, r4, r5, r6⟩ := hc.2 q (List.mem_of_getElem? e)
      refine ⟨cf, k1, i1, f1, r1, r2, r3, r4, r5, ?_⟩
      obtain ⟨t2, hl2, hp2⟩ := hname q (List.mem_of_getElem? e)
      have hne : q.1 ≠ f := own_nodup_ne (L := fs.map (·.1)) hnd (i := j') (j := j) (by rw [List.getElem?_map, e]; rfl) (by rw [List.getElem?_map, hj]; rfl) hj'
      have hs := slot_ne hl2 hl1 hne hp2 hp1
      have es : Jvm.RoadKit.slotOf Z K q.1 q.2.1 = f1.slot := by simp [Jvm.RoadKit.slotOf, r1]
      rw [es] at hs
      rw [← r6]
      simp only [Cell.setSlot]
      exact Array.getElem?_setIfInBounds_ne (fun z => hs z.symm)

theorem k_getstatic (C : own_C p s m meth c Z own nm code ml rt) (X : own_S p l e R s m args below meth c Z T L k n) {i : Nat} {K f d : String} {v : Value} (hd : decode code pc = .ok (.getstatic i, 3)) (hp : pc + 3 = npc) (hw : (Jvm.Cond.fieldLink own i K f d).before a0 Z = true) (F : Sta Z Z.heap K f d v)
    (g : ∀ T', own_S p l e R s m args below meth c Z T' L k n → own_Go p.tables e below P (T'.setTop (mkF m npc ls (v :: st)))) : own_Go p.tables e below P (T.setTop (mkF m pc ls st)) := by
  subst hp; obtain ⟨locs, X, hF, hH⟩ := X
  obtain ⟨T', X', e', st'⟩ := getS X C.1 C.2.2.2.1 (host := "") C.2.2.2.2.1 hw Via.refl rfl (F.ext hH.1) (g := mkF m pc ls st) rfl (hb C.2.1 hd)
  exact (g T' ⟨locs, X', hF, by rw [e']; exact hH⟩).st st'

theorem k_newarray (C : own_C p s m meth c Z own nm code ml rt) (X : own_S p l e R s m args below meth c Z T L k n) {aty : ArrayType} {ty : FieldType} {z : Int32} {cap : Nat} {vs : List Value} (hd : decode code pc = .ok (.newarray aty, 2)) (hp : pc + 2 = npc) (hty : newarray.typeOf aty = ty) (w1 : (Jvm.Cond.arrayClass ty).before a0 Z = true) (hz : ¬ z < 0) (hcap : z.toNatClampNeg ≤ cap) (hb' : cap * 8 ≤ 536870912) (hk : k + 1 ≤ R.cells) (hn : n + cap ≤ R.slots) (hvs : List.replicate z.toNatClampNeg (defaultValue ty) = vs)
    (g : ∀ T' a, own_S p l e R s m args below meth c Z T' ((a, own_ar Z ty vs) :: L) (k + 1) (n + cap) → own_Go p.tables e below P (T'.setTop (mkF m npc ls (.ref a :: st)))) : own_Go p.tables e below P (T.setTop (mkF m pc ls (.int z :: st))) := by
  subst hp hvs hty; obtain ⟨locs, X, hF, hH⟩ := X
  obtain ⟨T', h', cA, X', e', E', A', B', st'⟩ := newPE X C.1 C.2.2.2.1 w1 rfl (g := mkF m pc ls (.int z :: st)) rfl (hb C.2.1 hd) rfl hz hcap hb' hk hn (ad := "[" ++ (newarray.typeOf aty).toString) rfl
  subst e'
  refine (g T' _ ⟨locs, X', hF, ?_⟩).st st'
  exact hH.push E' A'.1 ⟨A'.2.1, A'.2.2, by simp [newA], own_ex.of B' A'.1⟩

theorem k_arraylength (C : own_C p s m meth c Z own nm code ml rt) (X : own_S p l e R s m args below meth c Z T L k n) {ix : Nat} {a : Addr} {ty : FieldType} {vs : List Value} {z : Int32} (hd : decode code pc = .ok (.arraylength, 1)) (hp : pc + 1 = npc) (hi : L[ix]? = some (a, own_ar Z ty vs)) (hz : vs.length.toInt32 = z) (g : own_Go p.tables e below P (T.setTop (mkF m npc ls (.int z :: st)))) : own_Go p.tables e below P (T.setTop (mkF m pc ls (.ref a :: st))) := by
  subst hp hz; obtain ⟨locs, X, hF, hH⟩ := X
  obtain ⟨-, cc, h1, h2⟩ := hH.get hi
  have e : cc.slots.size = vs.length := by rw [← h2.2.2.1]; simp
  rw [← e] at g
  exact g.st fun t k => X.arraylength C.1 h1 (State.isArrayOf_alike C.2.2.2.1.alike h2.1) (g := mkF m pc ls (.ref a :: st)) rfl rfl (hb C.2.1 hd) _ k
theorem own_in {j : Int32} {i : Nat} {c : Cell} {vs : List Value} {v : Value} (hn : ¬ j < 0) (hj : j.toNatClampNeg = i) (e : c.slots.toList = vs) (hv : vs[i]? = some v) : ¬ (j < 0 ∨ c.slots.size ≤ j.toNatClampNeg) ∧ c.slots[j.toNatClampNeg]? = some v := by
  subst hj e
  rw [Array.getElem?_toList] at hv
  have := (Array.getElem?_eq_some_iff.mp hv).1
  exact ⟨fun q => q.elim hn (by omega), hv⟩
theorem own_len32 (L : Nat) (h : L < 2147483648) : (L.toInt32).toNatClampNeg = L ∧ ¬ L.toInt32 < 0 := by
  have q : L.toInt32.toInt = L := len_toInt (by omega)
  simp only [Int32.lt_iff_toInt_lt, Int32.toNatClampNeg, q, Int32.reduceToInt]; omega

theorem k_iaload (C : own_C p s m meth c Z own nm code ml rt) (X : own_S p l e R s m args below meth c Z T L k n) {ix i : Nat} {a : Addr} {j : Int32} {vs : List Value} {v : Value} (hd : decode code pc = .ok (.iaload, 1)) (hp : pc + 1 = npc) (hi : L[ix]? = some (a, own_ar Z .int vs)) (hn : ¬ j < 0) (hj : j.toNatClampNeg = i) (hv : vs[i]? = some v) (g : own_Go p.tables e below P (T.setTop (mkF m npc ls (v :: st)))) : own_Go p.tables e below P (T.setTop (mkF m pc ls (.int j :: .ref a :: st))) := by
  subst hp; obtain ⟨locs, X, hF, hH⟩ := X
  obtain ⟨-, cc, h1, h2⟩ := hH.get hi
  obtain ⟨q1, q2⟩ := own_in hn hj h2.2.2.1 hv
  exact g.st fun t k => X.iaload C.1 h1 (State.isArrayOf_alike C.2.2.2.1.alike h2.1) h2.2.1 q1 q2 (g := mkF m pc ls (.int j :: .ref a :: st)) rfl rfl (hb C.2.1 hd) _ k

theorem k_daload (C : own_C p s m meth c Z own nm code ml rt) (X : own_S p l e R s m args below meth c Z T L k n) {ix i : Nat} {a : Addr} {j : Int32} {vs : List Value} {v : Value} (hd : decode code pc = .ok (.daload, 1)) (hp : pc + 1 = npc) (hi : L[ix]? = some (a, own_ar Z .double vs)) (hn : ¬ j < 0) (hj : j.toNatClampNeg = i) (hv : vs[i]? = some v) (g : own_Go p.tables e below P (T.setTop (mkF m npc ls (v :: st)))) : own_Go p.tables e below P (T.setTop (mkF m pc ls (.int j :: .ref a :: st))) := by
  subst hp; obtain ⟨locs, X, hF, hH⟩ := X
  obtain ⟨-, cc, h1, h2⟩ := hH.get hi
  obtain ⟨q1, q2⟩ := own_in hn hj h2.2.2.1 hv
  exact g.st fun t k => X.daload C.1 h1 (State.isArrayOf_alike C.2.2.2.1.alike h2.1) h2.2.1 q1 q2 (g := mkF m pc ls (.int j :: .ref a :: st)) rfl rfl (hb C.2.1 hd) _ k

theorem k_laload (C : own_C p s m meth c Z own nm code ml rt) (X : own_S p l e R s m args below meth c Z T L k n) {ix i : Nat} {a : Addr} {j : Int32} {vs : List Value} {v : Value} (hd : decode code pc = .ok (.laload, 1)) (hp : pc + 1 = npc) (hi : L[ix]? = some (a, own_ar Z .long vs)) (hn : ¬ j < 0) (hj : j.toNatClampNeg = i) (hv : vs[i]? = some v) (g : own_Go p.tables e below P (T.setTop (mkF m npc ls (v :: st)))) : own_Go p.tables e below P (T.setTop (mkF m pc ls (.int j :: .ref a :: st))) := by
  subst hp; obtain ⟨locs, X, hF, hH⟩ := X
  obtain ⟨-, cc, h1, h2⟩ := hH.get hi
  obtain ⟨q1, q2⟩ := own_in hn hj h2.2.2.1 hv
  exact g.st fun t k => X.laload C.1 h1 (State.isArrayOf_alike C.2.2.2.1.alike h2.1) h2.2.1 q1 q2 (g := mkF m pc ls (.int j :: .ref a :: st)) rfl rfl (hb C.2.1 hd) _ k

theorem k_caload (C : own_C p s m meth c Z own nm code ml rt) (X : own_S p l e R s m args below meth c Z T L k n) {ix i : Nat} {a : Addr} {j : Int32} {vs : List Value} {v : Value} (hd : decode code pc = .ok (.caload, 1)) (hp : pc + 1 = npc) (hi : L[ix]? = some (a, own_ar Z .char vs)) (hn : ¬ j < 0) (hj : j.toNatClampNeg = i) (hv : vs[i]? = some v) (g : own_Go p.tables e below P (T.setTop (mkF m npc ls (v :: st)))) : own_Go p.tables e below P (T.setTop (mkF m pc ls (.int j :: .ref a :: st))) := by
  subst hp; obtain ⟨locs, X, hF, hH⟩ := X
  obtain ⟨-, cc, h1, h2⟩ := hH.get hi
  obtain ⟨q1, q2⟩ := own_in hn hj h2.2.2.1 hv
  exact g.st fun t k => X.caload C.1 h1 (State.isArrayOf_alike C.2.2.2.1.alike h2.1) h2.2.1 q1 q2 (g := mkF m pc ls (.int j :: .ref a :: st)) rfl rfl (hb C.2.1 hd) _ k

theorem k_iastore (C : own_C p s m meth c Z own nm code ml rt) (X : own_S p l e R s m args below meth c Z T L k n) {ix i : Nat} {a : Addr} {j : Int32} {x : Int32} {vs vs' : List Value} {L' : List (Addr × (Cell → Prop))} (hd : decode code pc = .ok (.iastore, 1)) (hp : pc + 1 = npc) (hi : L[ix]? = some (a, own_ar Z .int vs)) (hn : ¬ j < 0) (hj : j.toNatClampNeg = i) (hl : i < vs.length) (hvs : vs.set i (.int x) = vs') (hL : L.set ix (a, own_ar Z .int vs') = L')
    (g : ∀ T', own_S p l e R s m args below meth c Z T' L' k n → own_Go p.tables e below P (T'.setTop (mkF m npc ls st))) : own_Go p.tables e below P (T.setTop (mkF m pc ls (.int x :: .int j :: .ref a :: st))) := by
  subst hp hvs hL; obtain ⟨locs, X, hF, hH⟩ := X
  obtain ⟨ha, cc, h1, h2⟩ := hH.get hi
  obtain ⟨q1, -⟩ := own_in hn hj h2.2.2.1 (List.getElem?_eq_getElem hl)
  obtain ⟨T', h', X', e', W', st'⟩ := stI X C.1 C.2.2.2.1 rfl (h2.arr h1) (j := j) (x := x) q1 (g := mkF m pc ls (.int x :: .int j :: .ref a :: st)) rfl rfl (hb C.2.1 hd)
  subst e'
  refine (g T' ⟨_, X', Fr.snoc X' hF ha, ?_⟩).st st'
  refine hH.set hi W' fun c hc hsl => ⟨hc.1, hc.2.1, ?_, ?_⟩
  · rw [← hc.2.2.1, hj]; simp [Cell.setSlot]
  · obtain ⟨k1, r1, r2, r3, r4⟩ := hc.2.2.2
    exact ⟨k1, r1, r2, r3, fun q => by rw [← r4 q]; simp [Cell.setSlot]⟩

theorem k_dastore (C : own_C p s m meth c Z own nm code ml rt) (X : own_S p l e R s m args below meth c Z T L k n) {ix i : Nat} {a : Addr} {j : Int32} {x : UInt64} {vs vs' : List Value} {L' : List (Addr × (Cell → Prop))} (hd : decode code pc = .ok (.dastore, 1)) (hp : pc + 1 = npc) (hi : L[ix]? = some (a, own_ar Z .double vs)) (hn : ¬ j < 0) (hj : j.toNatClampNeg = i) (hl : i < vs.length) (hvs : vs.set i (.double x) = vs') (hL : L.set ix (a, own_ar Z .double vs') = L')
    (g : ∀ T', own_S p l e R s m args below meth c Z T' L' k n → own_Go p.tables e below P (T'.setTop (mkF m npc ls st))) : own_Go p.tables e below P (T.setTop (mkF m pc ls (.double x :: .int j :: .ref a :: st))) := by
  subst hp hvs hL; obtain ⟨locs, X, hF, hH⟩ := X
  obtain ⟨ha, cc, h1, h2⟩ := hH.get hi
  obtain ⟨q1, -⟩ := own_in hn hj h2.2.2.1 (List.getElem?_eq_getElem hl)
  obtain ⟨T', h', X', e', W', st'⟩ := stD X C.1 C.2.2.2.1 rfl (h2.arr h1) (j := j) (x := x) q1 (g := mkF m pc ls (.double x :: .int j :: .ref a :: st)) rfl rfl (hb C.2.1 hd)
  subst e'
  refine (g T' ⟨_, X', Fr.snoc X' hF ha, ?_⟩).st st'
  refine hH.set hi W' fun c hc hsl => ⟨hc.1, hc.2.1, ?_, ?_⟩
  · rw [← hc.2.2.1, hj]; simp [Cell.setSlot]
  · obtain ⟨k1, r1, r2, r3, r4⟩ := hc.2.2.2
    exact ⟨k1, r1, r2, r3, fun q => by rw [← r4 q]; simp [Cell.setSlot]⟩

theorem k_lastore (C : own_C p s m meth c Z own nm code ml rt) (X : own_S p l e R s m args below meth c Z T L k n) {ix i : Nat} {a : Addr} {j : Int32} {x : Int64} {vs vs' : List Value} {L' : List (Addr × (Cell → Prop))} (hd : decode code pc = .ok (.lastore, 1)) (hp : pc + 1 = npc) (hi : L[ix]? = some (a, own_ar Z .long vs)) (hn : ¬ j < 0) (hj : j.toNatClampNeg = i) (hl : i < vs.length) (hvs : vs.set i (.long x) = vs') (hL : L.set ix (a, own_ar Z .long vs') = L')
    (g : ∀ T', own_S p l e R s m args below meth c Z T' L' k n → own_Go p.tables e below P (T'.setTop (mkF m npc ls st))) : own_Go p.tables e below P (T.setTop (mkF m pc ls (.long x :: .int j :: .ref a :: st))) := by
  subst hp hvs hL; obtain ⟨locs, X, hF, hH⟩ := X
  obtain ⟨ha, cc, h1, h2⟩ := hH.get hi
  obtain ⟨q1, -⟩ := own_in hn hj h2.2.2.1 (List.getElem?_eq_getElem hl)
  obtain ⟨T', h', X', e', W', st'⟩ := stJ X C.1 C.2.2.2.1 rfl (h2.arr h1) (j := j) (x := x) q1 (g := mkF m pc ls (.long x :: .int j :: .ref a :: st)) rfl rfl (hb C.2.1 hd)
  subst e'
  refine (g T' ⟨_, X', Fr.snoc X' hF ha, ?_⟩).st st'
  refine hH.set hi W' fun c hc hsl => ⟨hc.1, hc.2.1, ?_, ?_⟩
  · rw [← hc.2.2.1, hj]; simp [Cell.setSlot]
  · obtain ⟨k1, r1, r2, r3, r4⟩ := hc.2.2.2
    exact ⟨k1, r1, r2, r3, fun q => by rw [← r4 q]; simp [Cell.setSlot]⟩

theorem own_fitsD (xs : List UInt64) : ∀ v ∈ xs.map Value.double, fits .double v = true := fun v hv => by obtain ⟨x, -, rfl⟩ := List.mem_map.mp hv; rfl
theorem k_clone (C : own_C p s m meth c Z own nm code ml rt) (X : own_S p l e R s m args below meth c Z T L k n) {i ix cap W : Nat} {a : Addr} {ty : FieldType} {ad : String} {vs : List Value} (hd : decode code pc = .ok (.invokevirtual i, 3)) (hp : pc + 3 = npc) (w1 : (Jvm.Cond.methodLink own i ⟨ad, "clone", "()Ljava/lang/Object;"⟩).before a0 Z = true) (w2 : (Jvm.Cond.sameMethod ad "java/lang/Object" "clone" "()Ljava/lang/Object;").before a0 Z = true) (w3 : (Jvm.Cond.native ⟨"java/lang/Object", "clone", "()Ljava/lang/Object;"⟩).before a0 Z = true) (w4 : (Jvm.Cond.instanceMethod ⟨"java/lang/Object", "clone", "()Ljava/lang/Object;"⟩).before a0 Z = true) (w5 : (Jvm.Cond.selects ad ⟨ad, "clone", "()Ljava/lang/Object;"⟩ ⟨"java/lang/Object", "clone", "()Ljava/lang/Object;"⟩).before a0 Z = true) (w6 : (Jvm.Cond.castable ad "java/lang/Cloneable").before a0 Z = true)
    (hi : L[ix]? = some (a, own_ar Z ty vs)) (had : "[" ++ ty.toString = ad) (hfit : ∀ v ∈ vs, fits ty v = true) (hsz : ls.size = ml) (hW : (st.map fun v => v.category).sum ≤ W) (hf : 1 ≤ R.frames) (hlo : W + 14 ≤ R.locals) (hcap : vs.length ≤ cap) (hk : k + 1 ≤ R.cells) (hn : n + cap ≤ R.slots)
    (g : ∀ T' b, own_S p l e R s m args below meth c Z T' ((b, own_ar Z ty vs) :: L) (k + 1) (n + cap) → own_Go p.tables e below P (T'.setTop (mkF m npc ls (.ref b :: st)))) : own_Go p.tables e below P (T.setTop (mkF m pc ls (.ref a :: st))) := by
  subst hp had; obtain ⟨locs, X, hF, hH⟩ := X
  obtain ⟨-, cc, h1, h2⟩ := hH.get hi
  have A := h2.arr h1
  have FC : FitC Z cc := fitC_of A fun j hj v hv => hfit v (by rw [← h2.2.2.1]; exact Array.mem_toList_iff.mpr (Array.mem_of_getElem? hv))
  have hl : cc.slots.size = vs.length := by rw [← h2.2.2.1]; simp
  obtain ⟨T', h', X', e', E', A', B', st'⟩ := cloneA X C.1 C.2.2.2.1 C.2.2.2.2.1 w1 w2 w3 w4 w5 w6 rfl A (h2.2.2.2.exa h1) FC (g := mkF m pc ls (.ref a :: st)) rfl (hsz.trans C.2.2.1.symm) rfl (hb C.2.1 hd) hf (W := W) (cap := cap) (by show 2 * 0 + _ ≤ _; omega) hlo (by omega) hk hn
  subst e'
  refine (g T' _ ⟨locs, X', hF, ?_⟩).st st'
  exact hH.push E' A'.1 ⟨A'.2.1, A'.2.2, h2.2.2.1, own_ex.of B' A'.1⟩
theorem k_checkcast (C : own_C p s m meth c Z own nm code ml rt) (X : own_S p l e R s m args below meth c Z T L k n) {i : Nat} {a : Addr} {K : String} (hd : decode code pc = .ok (.checkcast i, 3)) (hp : pc + 3 = npc) (hw : (Jvm.Cond.classLink own i K).before a0 Z = true) (hI : own_H Z.heap T.heap L → Ins Z T.heap a K true)
    (g : ∀ T', own_S p l e R s m args below meth c Z T' L k n → own_Go p.tables e below P (T'.setTop (mkF m npc ls (.ref a :: st)))) : own_Go p.tables e below P (T.setTop (mkF m pc ls (.ref a :: st))) := by
  subst hp; obtain ⟨locs, X, hF, hH⟩ := X
  obtain ⟨T', X', e', st'⟩ := castY X C.1 C.2.2.2.1 C.2.2.2.2.1 hw rfl (hI hH) (g := mkF m pc ls (.ref a :: st)) rfl rfl (hb C.2.1 hd)
  exact (g T' ⟨locs, X', hF, by rw [e']; exact hH⟩).st st'
theorem own_iA {ix : Nat} {a : Addr} {ty : FieldType} {K : String} {vs : List Value} (hi : L[ix]? = some (a, own_ar Z ty vs)) (hK : "[" ++ ty.toString = K) (H : own_H Z.heap T.heap L) : Ins Z T.heap a K true := by
  subst hK
  obtain ⟨-, cc, h1, h2⟩ := H.get hi
  exact Ins.self (h2.2.2.2.exa h1)

theorem own_Con.back {y : MethodName} {bytes : ByteArray} {maxL : Nat} {ret : Option FieldType} {rm : Room} {as' : Array Value} {Q : Option Value → List (Addr × (Cell → Prop)) → Prop} (K : own_Con l Z y bytes maxL ret rm as' L Q) (hZ : Z.Warmed39 s.vm) (hH : own_H Z.heap T.heap L) (wc : (Jvm.Cond.code y bytes maxL ret).before a0 Z = true) (wz : (Jvm.Cond.initialized y.cls).before a0 Z = true) {W : Nat} (hf : rm.frames + 1 ≤ R.frames) (hl : W + (maxL + 11) + rm.locals ≤ R.locals) :
    Back l R p e below s args y 3 W (fun A a => a = as' ∧ A.U.heap = T.heap ∧ A.cells + rm.cells ≤ R.cells ∧ A.slots + rm.slots ≤ R.slots)
      (fun A _ v B => ∃ L0, (∃ M, Q v M ∧ own_H Z.heap B.U.heap M ∧ Fr Z.heap.size L0) ∧ B.locs = A.locs ++ L0 ∧ B.cells = A.cells + rm.cells ∧ B.slots = A.slots + rm.slots) :=
  backOf (h := T.heap) (Q := fun v h L0 => ∃ M, Q v M ∧ own_H Z.heap h M ∧ Fr Z.heap.size L0) ((K []).mono (fun a U q => ⟨q.1, q.2.1, by rw [q.2.2]; exact hH⟩) (fun _ _ _ _ _ q => q) fun a U o U' _ ⟨v, M, locs, q1, q2, q3, q4, q5⟩ => ⟨v, locs, q1, ⟨M, q2, q3, q4⟩, q5⟩) hZ wc wz hf hl
theorem own_Con.weak {y : MethodName} {bytes : ByteArray} {maxL : Nat} {ret : Option FieldType} {rm : Room} {as' : Array Value} {Q Q' : Option Value → List (Addr × (Cell → Prop)) → Prop} (K : own_Con l Z y bytes maxL ret rm as' L Q) (h : ∀ v M, Q v M → Q' v M) : own_Con l Z y bytes maxL ret rm as' L Q' := fun ws =>
  (K ws).mono (fun _ _ q => q) (fun _ _ _ _ _ q => q) fun a U o U' _ ⟨v, M, locs, q1, q2, q3⟩ => ⟨v, M, locs, q1, h v M q2, q3⟩

theorem k_static (C : own_C p s m meth c Z own nm code ml rt) (X : own_S p l e R s m args below meth c Z T L k n) {y : MethodName} {i : Nat} {bytes : ByteArray} {maxL : Nat} {ret : Option FieldType} {rm : Room} {as' : Array Value} {Q : Option Value → List (Addr × (Cell → Prop)) → Prop} {W : Nat} {rest argsL : List Value} {ps : List FieldType} {rr : Option FieldType} (hd : decode code pc = .ok (.invokestatic i, 3)) (hp : pc + 3 = npc) (w1 : (Jvm.Cond.methodLink own i y).before a0 Z = true) (w2 : (Jvm.Cond.static y).before a0 Z = true) (w3 : (Jvm.Cond.initialized y.cls).before a0 Z = true) (w4 : (Jvm.Cond.code y bytes maxL ret).before a0 Z = true) (hy : y.cls ≠ "java/lang/invoke/MethodHandle" ∧ y.cls ≠ "java/lang/invoke/VarHandle") (K : own_Con l Z y bytes maxL ret rm as' L Q) (hst : argsL.reverse ++ rest = st) (has : argsL.toArray = as') (hsz : ls.size = ml) (hpd : parseMethodDescriptor y.desc = some ⟨ps, rr⟩) (hle : argsL.length = ps.length) (hW : (rest.map fun v => v.category).sum ≤ W) (hf : rm.frames + 1 ≤ R.frames) (hlo : W + (maxL + 11) + rm.locals ≤ R.locals) (hk : k + rm.cells ≤ R.cells) (hn : n + rm.slots ≤ R.slots)
    (g : ∀ v T' M, Q v M → own_S p l e R s m args below meth c Z T' M (k + rm.cells) (n + rm.slots) → own_Go p.tables e below P (T'.setTop (mkF m npc ls (v.toList ++ rest)))) : own_Go p.tables e below P (T.setTop (mkF m pc ls st)) := by
  subst hp hst has; obtain ⟨locs, X, hF, hH⟩ := X
  obtain ⟨v, vm1, ⟨T1, Lq, kq, nq⟩, -, X1, ⟨L0, ⟨M, hQ, hH1, hF1⟩, hl1, hc1, hs1⟩, st1⟩ := Jvm.LawKit.callS X C.1 (y := y) C.2.2.2.2.1 (mvT C.2.2.2.1 w1) (mvT C.2.2.2.1 w2) (mvT C.2.2.2.1 w3) (mvT C.2.2.2.1 w4) hy (K.back (T := T) (W := W) C.2.2.2.1 hH w4 w3 hf hlo) (g := mkF m pc ls (argsL.reverse ++ rest)) rfl (hsz.trans C.2.2.1.symm) (argsL := argsL) (rest := rest) (lenOf hpd hle) rfl (by show 2 * 0 + _ ≤ _; omega) (hb C.2.1 hd) (fun _ _ => ⟨rfl, rfl, hk, hn⟩)
  dsimp only [Pt.U, Pt.locs, Pt.cells, Pt.slots] at X1 hl1 hc1 hs1 st1 hH1
  subst hl1 hc1 hs1
  exact (g v T1 M hQ ⟨_, X1, hF.app hF1, hH1⟩).st st1
theorem k_init (C : own_C p s m meth c Z own nm code ml rt) (X : own_S p l e R s m args below meth c Z T L k n) {y : MethodName} {i : Nat} {bytes : ByteArray} {maxL : Nat} {rm : Room} {as' : Array Value} {Q : Option Value → List (Addr × (Cell → Prop)) → Prop} {W : Nat} {rest argsL : List Value} {ps : List FieldType} {rr : Option FieldType} {a : Addr} (hd : decode code pc = .ok (.invokespecial i, 3)) (hp : pc + 3 = npc) (hnm : y.name = "<init>") (w1 : (Jvm.Cond.methodLink own i y).before a0 Z = true) (w2 : (Jvm.Cond.instanceMethod y).before a0 Z = true) (w3 : (Jvm.Cond.initialized y.cls).before a0 Z = true) (w4 : (Jvm.Cond.code y bytes maxL none).before a0 Z = true) (hy : y.cls ≠ "java/lang/invoke/MethodHandle" ∧ y.cls ≠ "java/lang/invoke/VarHandle") (K : own_Con l Z y bytes maxL none rm as' L Q) (hst : argsL.reverse ++ .ref a :: rest = st) (has : (.ref a :: argsL).toArray = as') (hsz : ls.size = ml) (hpd : parseMethodDescriptor y.desc = some ⟨ps, rr⟩) (hle : argsL.length = ps.length) (hW : (rest.map fun v => v.category).sum ≤ W) (hf : rm.frames + 1 ≤ R.frames) (hlo : W + (maxL + 11) + rm.locals ≤ R.locals) (hk : k + rm.cells ≤ R.cells) (hn : n + rm.slots ≤ R.slots)
    (g : ∀ v T' M, Q v M → own_S p l e R s m args below meth c Z T' M (k + rm.cells) (n + rm.slots) → own_Go p.tables e below P (T'.setTop (mkF m npc ls (v.toList ++ rest)))) : own_Go p.tables e below P (T.setTop (mkF m pc ls st)) := by
  subst hp hst has; obtain ⟨locs, X, hF, hH⟩ := X
  obtain ⟨v, vm1, ⟨T1, Lq, kq, nq⟩, -, X1, ⟨L0, ⟨M, hQ, hH1, hF1⟩, hl1, hc1, hs1⟩, st1⟩ := X.specialBack C.1 (y := y) hnm C.2.2.2.2.1 (mvT C.2.2.2.1 w1) (mvT C.2.2.2.1 w2) (mvT C.2.2.2.1 w4) hy (K.back (T := T) (W := W) C.2.2.2.1 hH w4 w3 hf hlo) (g := mkF m pc ls (argsL.reverse ++ .ref a :: rest)) rfl (hsz.trans C.2.2.1.symm) (Steps.refl _) (a := a) (argsL := argsL) (rest := rest) (lenOf hpd hle) rfl (by show 2 * 0 + _ ≤ _; omega) (hb C.2.1 hd) (fun _ _ => ⟨rfl, rfl, hk, hn⟩)
  dsimp only [Pt.U, Pt.locs, Pt.cells, Pt.slots] at X1 hl1 hc1 hs1 st1 hH1
  subst hl1 hc1 hs1
  exact (g v T1 M hQ ⟨_, X1, hF.app hF1, hH1⟩).st fun t q => st1.trans q
theorem k_virtual (C : own_C p s m meth c Z own nm code ml rt) (X : own_S p l e R s m args below meth c Z T L k n) {y : MethodName} {i : Nat} {bytes : ByteArray} {maxL : Nat} {ret : Option FieldType} {rm : Room} {as' : Array Value} {Q : Option Value → List (Addr × (Cell → Prop)) → Prop} {W : Nat} {rest argsL : List Value} {ps : List FieldType} {rr : Option FieldType} {K' : String} {a : Addr} (hd : decode code pc = .ok (.invokevirtual i, 3)) (hp : pc + 3 = npc) (w1 : (Jvm.Cond.methodLink own i y).before a0 Z = true) (w2 : (Jvm.Cond.declares y).before a0 Z = true) (w3 : (Jvm.Cond.initialized y.cls).before a0 Z = true) (w4 : (Jvm.Cond.code y bytes maxL ret).before a0 Z = true) (w5 : (Jvm.Cond.selects K' y y).before a0 Z = true) (w6 : (Jvm.Cond.instanceMethod y).before a0 Z = true) (hy : y.cls ≠ "java/lang/invoke/MethodHandle" ∧ y.cls ≠ "java/lang/invoke/VarHandle") (nf : NotFace s y) (hE : own_H Z.heap T.heap L → Exa Z T.heap a K') (K : own_Con l Z y bytes maxL ret rm as' L Q) (hst : argsL.reverse ++ .ref a :: rest = st) (has : (.ref a :: argsL).toArray = as') (hsz : ls.size = ml) (hpd : parseMethodDescriptor y.desc = some ⟨ps, rr⟩) (hle : argsL.length = ps.length) (hW : (rest.map fun v => v.category).sum ≤ W) (hf : rm.frames + 1 ≤ R.frames) (hlo : W + (maxL + 11) + rm.locals ≤ R.locals) (hk : k + rm.cells ≤ R.cells) (hn : n + rm.slots ≤ R.slots)
    (g : ∀ v T' M, Q v M → own_S p l e R s m args below meth c Z T' M (k + rm.cells) (n + rm.slots) → own_Go p.tables e below P (T'.setTop (mkF m npc ls (v.toList ++ rest)))) : own_Go p.tables e below P (T.setTop (mkF m pc ls st)) := by
  subst hp hst has; obtain ⟨locs, X, hF, hH⟩ := X
  obtain ⟨cB, kB, qa, -, qc⟩ := isOf (T := T) C.2.2.2.1 rfl (hE hH)
  obtain ⟨v, vm1, ⟨T1, Lq, kq, nq⟩, -, X1, ⟨L0, ⟨M, hQ, hH1, hF1⟩, hl1, hc1, hs1⟩, st1⟩ := X.virtualBack C.1 (y := y) (z := y) C.2.2.2.2.1 (mvT C.2.2.2.1 w1) (mvT C.2.2.2.1 w2) nf (mvT C.2.2.2.1 w5) (mvT C.2.2.2.1 w6) hy (K.back (T := T) (W := W) C.2.2.2.1 hH w4 w3 hf hlo) qa qc (g := mkF m pc ls (argsL.reverse ++ .ref a :: rest)) rfl (hsz.trans C.2.2.1.symm) (Steps.refl _) (argsL := argsL) (rest := rest) (lenOf hpd hle) rfl (by show 2 * 0 + _ ≤ _; omega) (hb C.2.1 hd) (fun _ _ => ⟨rfl, rfl, hk, hn⟩)
  dsimp only [Pt.U, Pt.locs, Pt.cells, Pt.slots] at X1 hl1 hc1 hs1 st1 hH1
  subst hl1 hc1 hs1
  exact (g v T1 M hQ ⟨_, X1, hF.app hF1, hH1⟩).st fun t q => st1.trans q
theorem k_initO (C : own_C p s m meth c Z own nm code ml rt) (X : own_S p l e R s m args below meth c Z T L k n) {i : Nat} {a : Addr} {W : Nat} (hd : decode code pc = .ok (.invokespecial i, 3)) (hp : pc + 3 = npc) (w1 : (Jvm.Cond.methodLink own i Lib.objectInit).before a0 Z = true) (w2 : (Jvm.Cond.instanceMethod Lib.objectInit).before a0 Z = true) (w3 : (Jvm.Cond.code Lib.objectInit ⟨#[0xb1]⟩ 1 none).before a0 Z = true) (hsz : ls.size = ml) (hW : (st.map fun v => v.category).sum ≤ W) (hf : 1 ≤ R.frames) (hlo : W + 12 ≤ R.locals)
    (g : ∀ T', own_S p l e R s m args below meth c Z T' L k n → own_Go p.tables e below P (T'.setTop (mkF m npc ls st))) : own_Go p.tables e below P (T.setTop (mkF m pc ls (.ref a :: st))) := by
  subst hp; obtain ⟨locs, X, hF, hH⟩ := X
  obtain ⟨T', X', e', st'⟩ := initO X C.1 C.2.2.2.1 C.2.2.2.2.1 w1 w2 w3 rfl (g := mkF m pc ls (.ref a :: st)) rfl (hsz.trans C.2.2.1.symm) rfl (hb C.2.1 hd) hf (W := W) (by show 2 * 0 + _ ≤ _; omega) hlo
  exact (g T' ⟨locs, X', hF, by rw [e']; exact hH⟩).st st'

theorem k_abs (C : own_C p s m meth c Z own nm code ml rt) (X : own_S p l e R s m args below meth c Z T L k n) {i : Nat} {bytes : ByteArray} {maxL W : Nat} {x : UInt64} (hd : decode code pc = .ok (.invokestatic i, 3)) (hp : pc + 3 = npc) (w1 : (Jvm.Cond.methodLink own i Jvm.Free.NT.mathAbs64N).before a0 Z = true) (w2 : (Jvm.Cond.static Jvm.Free.NT.mathAbs64N).before a0 Z = true) (w3 : (Jvm.Cond.initialized "java/lang/Math").before a0 Z = true) (w4 : (Jvm.Cond.code Jvm.Free.NT.mathAbs64N bytes maxL (some .double)).before a0 Z = true) (hx : Jvm.Free.Fl.NoNaN64 x) (hsz : ls.size = ml) (hW : (st.map fun v => v.category).sum ≤ W) (hf : 1 ≤ R.frames) (hlo : W + (maxL + 11) ≤ R.locals)
    (g : ∀ T', own_S p l e R s m args below meth c Z T' L k n → own_Go p.tables e below P (T'.setTop (mkF m npc ls (.double (x &&& 0x7fffffffffffffff) :: st)))) : own_Go p.tables e below P (T.setTop (mkF m pc ls (.double x :: st))) := by
  subst hp; obtain ⟨locs, X, hF, hH⟩ := X
  obtain ⟨v, vm1, ⟨T1, Lq, kq, nq⟩, -, X1, ⟨hB, hv⟩, st1⟩ := Jvm.LawKit.callS X C.1 (y := Jvm.Free.NT.mathAbs64N) C.2.2.2.2.1 (mvT C.2.2.2.1 w1) (mvT C.2.2.2.1 w2) (mvT C.2.2.2.1 w3) (mvT C.2.2.2.1 w4) (by decide) (Jvm.Free.NT.Abs64.pays (W := W) (len := 3) (mvT C.2.2.2.1 w4) (mvT C.2.2.2.1 w2) hf hlo) (g := mkF m pc ls (.double x :: st)) rfl (hsz.trans C.2.2.1.symm) (argsL := [.double x]) (rest := st) (lenOf Jvm.Free.NT.mathAbs64_desc rfl) rfl (by show 2 * 0 + _ ≤ _; omega) (hb C.2.1 hd) (fun _ _ => ⟨x, rfl, hx⟩)
  cases hB
  rw [hv x ⟨rfl, hx⟩] at st1
  exact (g _ ⟨locs, X1, hF, hH⟩).st st1

theorem k_return (C : own_C p s m meth c Z own nm code ml none) (X : own_S p l e R s m args below meth c Z T L k n) {Q : Option Value → List (Addr × (Cell → Prop)) → Prop} (hd : decode code pc = .ok (.return_, 1)) (hQ : Q none L) (hk : k ≤ R.cells) (hn : n ≤ R.slots) : own_Go p.tables e below (own_E Z s R Q) (T.setTop (mkF m pc ls [])) := by
  obtain ⟨locs, X, hF, hH⟩ := X
  obtain ⟨fs, hr, hrun, hended, hW, hsame⟩ := X.leave (v := none) (fun _ => rfl) C.2.2.2.2.2.2.2
  exact ⟨_, _, X.returnOut C.1 C.2.2.2.2.2.2.1 (hb C.2.1 hd) hr, hrun, hended, none, L, locs, rfl, hQ, hH, hF, ⟨_, rfl⟩, hW, hsame.mono hk hn⟩

theorem k_ireturn {t : FieldType} (C : own_C p s m meth c Z own nm code ml (some t)) (X : own_S p l e R s m args below meth c Z T L k n) {x : Int32} {Q : Option Value → List (Addr × (Cell → Prop)) → Prop} (hd : decode code pc = .ok (.ireturn, 1)) (ht : t = .int ∨ t = .boolean ∨ t = .byte ∨ t = .char ∨ t = .short) (hnr : narrow t (.int x) = .int x) (hQ : Q (some (.int x)) L) (hk : k ≤ R.cells) (hn : n ≤ R.slots) : own_Go p.tables e below (own_E Z s R Q) (T.setTop (mkF m pc ls (.int x :: st))) := by
  obtain ⟨locs, X, hF, hH⟩ := X
  obtain ⟨fs, hr, hrun, hended, hW, hsame⟩ := X.leave (v := some (.int x)) (fun h => by rw [C.2.2.2.2.2.2.1] at h; cases h) C.2.2.2.2.2.2.2
  exact ⟨_, _, retOut X C.1 C.2.2.2.2.2.2.1 hnr (Or.inl ⟨rfl, ht, x, rfl⟩) (hb C.2.1 hd) hr, hrun, hended, _, L, locs, rfl, hQ, hH, hF, ⟨_, rfl⟩, hW, hsame.mono hk hn⟩

theorem k_lreturn (C : own_C p s m meth c Z own nm code ml (some .long)) (X : own_S p l e R s m args below meth c Z T L k n) {x : Int64} {Q : Option Value → List (Addr × (Cell → Prop)) → Prop} (hd : decode code pc = .ok (.lreturn, 1)) (hQ : Q (some (.long x)) L) (hk : k ≤ R.cells) (hn : n ≤ R.slots) : own_Go p.tables e below (own_E Z s R Q) (T.setTop (mkF m pc ls (.long x :: st))) := by
  obtain ⟨locs, X, hF, hH⟩ := X
  obtain ⟨fs, hr, hrun, hended, hW, hsame⟩ := X.leave (v := some (.long x)) (fun h => by rw [C.2.2.2.2.2.2.1] at h; cases h) C.2.2.2.2.2.2.2
  exact ⟨_, _, retOut X C.1 C.2.2.2.2.2.2.1 rfl (Or.inr (Or.inl ⟨rfl, rfl, x, rfl⟩)) (hb C.2.1 hd) hr, hrun, hended, _, L, locs, rfl, hQ, hH, hF, ⟨_, rfl⟩, hW, hsame.mono hk hn⟩

theorem k_dreturn (C : own_C p s m meth c Z own nm code ml (some .double)) (X : own_S p l e R s m args below meth c Z T L k n) {x : UInt64} {Q : Option Value → List (Addr × (Cell → Prop)) → Prop} (hd : decode code pc = .ok (.dreturn, 1)) (hQ : Q (some (.double x)) L) (hk : k ≤ R.cells) (hn : n ≤ R.slots) : own_Go p.tables e below (own_E Z s R Q) (T.setTop (mkF m pc ls (.double x :: st))) := by
  obtain ⟨locs, X, hF, hH⟩ := X
  obtain ⟨fs, hr, hrun, hended, hW, hsame⟩ := X.leave (v := some (.double x)) (fun h => by rw [C.2.2.2.2.2.2.1] at h; cases h) C.2.2.2.2.2.2.2
  exact ⟨_, _, retOut X C.1 C.2.2.2.2.2.2.1 rfl (Or.inr (Or.inr (Or.inl ⟨rfl, rfl, x, rfl⟩))) (hb C.2.1 hd) hr, hrun, hended, _, L, locs, rfl, hQ, hH, hF, ⟨_, rfl⟩, hW, hsame.mono hk hn⟩

theorem k_areturn {t : FieldType} (C : own_C p s m meth c Z own nm code ml (some t)) (X : own_S p l e R s m args below meth c Z T L k n) {x : Value} {Q : Option Value → List (Addr × (Cell → Prop)) → Prop} (hd : decode code pc = .ok (.areturn, 1)) (ht : t.isReference = true) (hx : x.isRef = true) (hnr : narrow t x = x) (hQ : Q (some (x)) L) (hk : k ≤ R.cells) (hn : n ≤ R.slots) : own_Go p.tables e below (own_E Z s R Q) (T.setTop (mkF m pc ls (x :: st))) := by
  obtain ⟨locs, X, hF, hH⟩ := X
  obtain ⟨fs, hr, hrun, hended, hW, hsame⟩ := X.leave (v := some (x)) (fun h => by rw [C.2.2.2.2.2.2.1] at h; cases h) C.2.2.2.2.2.2.2
  exact ⟨_, _, retOut X C.1 C.2.2.2.2.2.2.1 hnr (Or.inr (Or.inr (Or.inr (Or.inr ⟨rfl, ht, hx⟩)))) (hb C.2.1 hd) hr, hrun, hended, _, L, locs, rfl, hQ, hH, hF, ⟨_, rfl⟩, hW, hsame.mono hk hn⟩

theorem own_nf {y : MethodName} {K' : String} (hZ : Z.Warmed39 s.vm) (w : (Jvm.Cond.selects K' y y).before a0 Z = true) : NotFace s y := notFace_of_selects (args := #[]) (mvT hZ w)
theorem own_i32 (x : Int32) : -2147483648 ≤ x.toInt ∧ x.toInt ≤ 2147483647 := by have h1 := Int32.toInt_lt x; have h2 := Int32.le_toInt x; omega
theorem own_fin {i : Int} {a : UInt64} (h : Jvm.FP.Core.DInt i a) : Jvm.Free.Fl.Fin64 a := by
  refine Jvm.Free.Fl.fin64_core.mpr ?_
  unfold Jvm.FP.Core.DInt at h
  rcases hv : Jvm.FP.Core.val64 a with _ | _ | ⟨s, c, q⟩
  · rw [hv] at h; exact h.elim
  · rw [hv] at h; exact h.elim
  · exact ⟨s, c, q, hv⟩
theorem own_nn {i : Int} {a : UInt64} (h : Jvm.FP.Core.DInt i a) : Jvm.Free.Fl.NoNaN64 a := (own_fin h).noNaN
theorem own_l (x : Int32) : x.toInt64.toInt = x.toInt := Int32.toInt_toInt64 x
theorem own_eq {i j : Int} {a b : UInt64} (ha : Jvm.FP.Core.DInt i a) (hb : Jvm.FP.Core.DInt j b) (h : i = j) : FP.dcmp a b = some .eq := by
  have q := Jvm.FP.Core.dcmp_int ha hb
  rw [show FP.dcmp a b = Jvm.FP.Core.dcmp a b from rfl, q, h, Jvm.FP.Core.compare_eq_iff _ _ |>.mpr rfl]
theorem own_lit (n : Int32) {d : UInt64} (h : FP.i2d n = d) : Jvm.FP.Core.DInt n.toInt d := h ▸ Jvm.FP.Core.i2d_int n
theorem own_litI (n : Int32) {d : UInt64} {i : Int} (h : FP.i2d n = d) (hi : n.toInt = i) : Jvm.FP.Core.DInt i d := hi ▸ h ▸ Jvm.FP.Core.i2d_int n
theorem own_self {x : UInt64} (h : Jvm.Free.Fl.NoNaN64 x) : FP.dcmp x x = some .eq := by
  have q := dcmpV_self h .l
  rcases hq : FP.dcmp x x with _ | (_ | _ | _) <;> rw [hq] at q <;> first | rfl | exact absurd q (by decide)
theorem own_mask (x : Int32) : ¬ (x &&& 2147483647) < 0 := fun h => absurd ((Jvm.Free.XT.and_neg32 _ _).mp h).2 (by decide)
theorem own_mod (m : Int32) (hm : 0 < m.toInt) {x : Int32} (hx : ¬ x < 0) : ¬ (x % m) < 0 ∧ (x % m).toNatClampNeg < m.toNatClampNeg ∧ 0 ≤ (x % m).toInt ∧ (x % m).toInt < m.toInt := by
  have h0 : 0 ≤ x.toInt := by rw [Int32.lt_iff_toInt_lt] at hx; simpa using hx
  have e : (x % m).toInt = x.toInt % m.toInt := by rw [Int32.toInt_mod, Int.tmod_eq_emod_of_nonneg h0]
  have a1 := Int.emod_nonneg x.toInt (Int.ne_of_gt hm)
  have a2 := Int.emod_lt_of_pos x.toInt hm
  rw [Int32.lt_iff_toInt_lt]
  simp only [Int32.toNatClampNeg, e, Int32.reduceToInt]
  omega
theorem own_dd (a b : Int32) : Jvm.Free.Fl.NoNaN64 (FP.dadd (FP.i2d a) (FP.i2d b)) := own_nn (Jvm.FP.Core.dadd_int (Jvm.FP.Core.i2d_int a) (Jvm.FP.Core.i2d_int b) (by have q := own_i32 a; have q2 := own_i32 b; omega))
theorem own_bool {x : Int32} (h : x = 0 ∨ x = 1) : narrow .boolean (.int x) = .int x := by rcases h with rfl | rfl <;> rfl
end OwnKit
section OwnAdd
variable {p : Program} {l : Launch} {e : Env} {R : Room} {s : State} {m : MethodId} {args : Array Value} {below : List Frame} {meth : Method} {c : Code} {Z T : State} {L : List (Addr × (Cell → Prop))} {k n : Nat} {own nm : String} {code : ByteArray} {ml : Nat} {rt : Option FieldType} {P : State → Outcome → Prop} {pc npc tpc : Nat} {ls : Array Slot} {st : List Value} {a0 : Array Value}
theorem own_H.ext {h0 h h' : Heap} (H : own_H h0 h L) (E : Ext h h') : own_H h0 h' L :=
  ⟨⟨Nat.le_trans H.1.1 E.1, fun a c q => E.2 a c (H.1.2 a c q)⟩, fun q hq => by obtain ⟨h1, c', h2, h3⟩ := H.2.1 q hq; exact ⟨h1, c', E.2 _ _ h2, h3⟩, H.2.2⟩
theorem own_H.add {h0 h : Heap} {a : Addr} {Pq : Cell → Prop} {c : Cell} (H : own_H h0 h L) (ha : h0.size ≤ a) (hc : h[a]? = some c) (hP : Pq c) (hn : ∀ q ∈ L, q.1 ≠ a) : own_H h0 h ((a, Pq) :: L) := by
  refine ⟨H.1, fun q hq => ?_, ?_⟩
  · rcases List.mem_cons.mp hq with rfl | hq
    · exact ⟨ha, c, hc, hP⟩
    · exact H.2.1 q hq
  · rw [List.map_cons, List.nodup_cons]
    refine ⟨fun hm => ?_, H.2.2⟩
    obtain ⟨q, hq, e⟩ := List.mem_map.mp hm
    exact hn q hq e
end OwnAdd
section OwnGrid
variable {p : Program} {l : Launch} {e : Env} {R : Room} {s : State} {m : MethodId} {args : Array Value} {below : List Frame} {meth : Method} {c : Code} {Z T : State} {L : List (Addr × (Cell → Prop))} {k n : Nat} {own nm : String} {code : ByteArray} {ml : Nat} {rt : Option FieldType} {P : State → Outcome → Prop} {pc npc tpc : Nat} {ls : Array Slot} {st : List Value} {a0 : Array Value}
theorem k_aaload (C : own_C p s m meth c Z own nm code ml rt) (X : own_S p l e R s m args below meth c Z T L k n) {ix i : Nat} {a : Addr} {j : Int32} {ty : FieldType} {vs : List Value} {v : Value} (hd : decode code pc = .ok (.aaload, 1)) (hp : pc + 1 = npc) (hi : L[ix]? = some (a, own_ar Z ty vs)) (hty : ty.isReference = true) (hn : ¬ j < 0) (hj : j.toNatClampNeg = i) (hv : vs[i]? = some v) (g : own_Go p.tables e below P (T.setTop (mkF m npc ls (v :: st)))) : own_Go p.tables e below P (T.setTop (mkF m pc ls (.int j :: .ref a :: st))) := by
  subst hp; obtain ⟨locs, X, hF, hH⟩ := X
  obtain ⟨-, cc, h1, h2⟩ := hH.get hi
  obtain ⟨q1, q2⟩ := own_in hn hj h2.2.2.1 hv
  exact g.st fun t k => X.aaload C.1 h1 (State.isArrayOf_alike C.2.2.2.1.alike h2.1) hty h2.2.1 q1 q2 (g := mkF m pc ls (.int j :: .ref a :: st)) rfl rfl (hb C.2.1 hd) _ k
theorem k_multi2 (C : own_C p s m meth c Z own nm code ml rt) (X : own_S p l e R s m args below meth c Z T L k n) {i : Nat} {C2 ad : String} (hd : decode code pc = .ok (.multianewarray i 2, 4)) (hp : pc + 4 = npc) (hC : (FieldType.array .double).toString = C2) (had : "[" ++ C2 = ad) (w1 : (Jvm.Cond.classLink own i ad).before a0 Z = true) (w2 : (Jvm.Cond.arrayOver (.array .double)).before a0 Z = true) (w3 : (Jvm.Cond.arrayClass .double).before a0 Z = true) (hk : k + 3 ≤ R.cells) (hn : n + 6 ≤ R.slots)
    (g : ∀ T' b r0 r1, own_S p l e R s m args below meth c Z T' ((b, own_ar Z (.array .double) [.ref r0, .ref r1]) :: (r0, own_ar Z .double [.double 0, .double 0]) :: (r1, own_ar Z .double [.double 0, .double 0]) :: L) (k + 3) (n + 6) → own_Go p.tables e below P (T'.setTop (mkF m npc ls (.ref b :: st)))) : own_Go p.tables e below P (T.setTop (mkF m pc ls (.int 2 :: .int 2 :: st))) := by
  subst hp; obtain ⟨locs, X, hF, hH⟩ := X
  obtain ⟨T', h', cA, comp, X', e', E', A', O', B', I', st'⟩ := gridM X C.1 C.2.2.2.1 C.2.2.2.2.1 hC had w1 w2 w3 rfl (g := mkF m pc ls (.int 2 :: .int 2 :: st)) rfl (hb C.2.1 hd) (n := 2) (k := 2) rfl (by decide) (by decide) (xs := [T.heap.size + 1, T.heap.size + 2]) (N := 2) (by decide) (by simp [List.range, List.range.loop]) (cap := 2) (by decide) (by decide) (by decide) rfl rfl hk hn
  subst e' hC had
  obtain ⟨i0, j0⟩ := I' 0 (T.heap.size + 1) rfl
  obtain ⟨i1, j1⟩ := I' 1 (T.heap.size + 2) rfl
  obtain ⟨cc, a1, a2, a3, a4, a5, a6⟩ := A'
  have hz : T'.heap[T.heap.size]? = some cc := a1.1
  have hsz : cc.slots.toList = [.ref (T.heap.size + 1), .ref (T.heap.size + 2)] := by
    have s2 : cc.slots.size = 2 := a3.trans (by decide)
    have q0 := a5 0 (by omega)
    have q1 := a5 1 (by omega)
    refine List.ext_getElem? fun j => ?_
    rw [Array.getElem?_toList]
    match j with
    | 0 => exact q0
    | 1 => exact q1
    | j + 2 => rw [Array.getElem?_eq_none (by omega)]; rfl
  have hlt := hH.lt
  have H1 : own_H Z.heap T'.heap L := hH.ext E'
  have hs0 : Z.heap.size ≤ T.heap.size := hH.1.1
  have H2 := H1.add (a := T.heap.size + 2) (Pq := own_ar Z .double [.double 0, .double 0]) (by omega) i1.1 ⟨i1.2.1, i1.2.2, rfl, own_ex.of j1 i1.1⟩ (fun q hq => Nat.ne_of_lt (Nat.lt_of_lt_of_le (hlt q hq) (Nat.le_add_right _ 2)))
  have H3 := H2.add (a := T.heap.size + 1) (Pq := own_ar Z .double [.double 0, .double 0]) (by omega) i0.1 ⟨i0.2.1, i0.2.2, rfl, own_ex.of j0 i0.1⟩ (fun q hq => by
    rcases List.mem_cons.mp hq with rfl | hq
    · exact Nat.ne_of_gt (Nat.lt_succ_self _)
    · exact Nat.ne_of_lt (Nat.lt_of_lt_of_le (hlt q hq) (Nat.le_add_right _ 1)))
  have H4 := H3.add (a := T.heap.size) (Pq := own_ar Z (.array .double) [.ref (T.heap.size + 1), .ref (T.heap.size + 2)]) hs0 hz ⟨a1.2.1, a1.2.2, hsz, own_ex.of B' hz⟩ (fun q hq => by
    rcases List.mem_cons.mp hq with rfl | hq
    · exact Nat.ne_of_gt (Nat.lt_succ_self _)
    rcases List.mem_cons.mp hq with rfl | hq
    · exact Nat.ne_of_gt (Nat.lt_of_lt_of_le (Nat.lt_succ_self _) (Nat.le_succ _))
    · exact Nat.ne_of_lt (hlt q hq))
  exact (g T' _ _ _ ⟨locs, X', hF, H4⟩).st st'
end OwnGrid
section OwnFP
open Jvm.FP.Core
/-- a double as a whole number of the format's least numbers -/
def own_z (a : UInt64) : Int := zval b64 (val64 a)
/-- a is finite, and i over 2 to the k -/
def own_Q (k : Nat) (i : Int) (a : UInt64) : Prop := DFin a ∧ own_z a * ((2 ^ k : Nat) : Int) = i * (one64 : Int)
theorem own_p2 (k : Nat) : (0 : Int) < ((2 ^ k : Nat) : Int) := Int.natCast_pos.mpr (Nat.two_pow_pos k)
theorem own_o2 : (0 : Int) < (one64 : Int) := Int.natCast_pos.mpr one64_pos
variable {k m : Nat} {i j r : Int} {a b : UInt64} {V : Datum}
theorem own_Q.of (h : DInt i a) : own_Q 0 i a := by
  refine ⟨Jvm.Free.Fl.fin64_core.mp (own_fin h), ?_⟩
  have q := whole_zval good_b64 (val64_fits a) h
  rw [pow_qmin64] at q
  unfold own_z
  rw [q, Nat.pow_zero]
  exact Int.mul_one _
theorem own_Q.fin (h : own_Q k i a) : Jvm.Free.Fl.Fin64 a := Jvm.Free.Fl.fin64_core.mpr h.1
theorem own_Q.nn (h : own_Q k i a) : Jvm.Free.Fl.NoNaN64 a := h.fin.noNaN
theorem own_Q.ne (h : own_Q k i a) : val64 a ≠ .nan := by obtain ⟨s, c, q, e⟩ := h.1; rw [e]; exact Datum.noConfusion
theorem own_Q.up (h : own_Q k i a) (m : Nat) {i' : Int} {k' : Nat} (hi : i * ((2 ^ m : Nat) : Int) = i') (hk : k + m = k') : own_Q k' i' a := by
  subst hi hk
  refine ⟨h.1, ?_⟩
  rw [Nat.pow_add, Int.natCast_mul, ← Int.mul_assoc, h.2, Int.mul_right_comm]
theorem own_Q.cmp (ha : own_Q k i a) (hb : own_Q k j b) : FP.dcmp a b = some (compare i j) := by
  have q := dcmp_zval ha.ne hb.ne
  rw [show FP.dcmp a b = Jvm.FP.Core.dcmp a b from rfl, q]
  congr 1
  rw [← compare_mul_pos (zval b64 (val64 a)) _ _ (own_p2 k), ← compare_mul_pos i j _ own_o2]
  have h1 := ha.2; have h2 := hb.2
  unfold own_z at h1 h2
  rw [h1, h2]
theorem own_Q.eqv (ha : own_Q k i a) (hb : own_Q k j b) (h : i = j) : FP.dcmp a b = some .eq := by
  rw [ha.cmp hb, h, (compare_eq_iff j j).mpr rfl]
theorem own_Q.neg (h : own_Q k i a) : own_Q k (-i) (FP.dneg a) := by
  have e : val64 (FP.dneg a) = negate (val64 a) := Jvm.FP.val64_dneg a
  obtain ⟨⟨s, c, q, h1⟩, h2⟩ := h
  refine ⟨⟨!s, c, q, by rw [e, h1]; rfl⟩, ?_⟩
  unfold own_z at h2 ⊢
  rw [e, zval_negate, Int.neg_mul, h2, Int.neg_mul]
theorem own_rep (k : Nat) (hk : k ≤ 1074) (i : Int) (hi : i.natAbs < 2 ^ 53) : ∃ V, Jvm.FP.Core.fits b64 V ∧ (∃ s c q, V = .fin s c q) ∧ zval b64 V * ((2 ^ k : Nat) : Int) = i * (one64 : Int) := by
  have hq : b64.qmax = 971 := by decide
  obtain ⟨c', q', h1, h2⟩ := round_exact good_b64 (decide (i < 0)) (c := i.natAbs) (q := -(k : Int)) hi (by rw [qmin_b64]; omega) (by rw [hq]; omega)
  have hf := round_fits good_b64 (.fin (decide (i < 0)) i.natAbs (-(k : Int)))
  refine ⟨_, hf, ⟨_, c', q', h1⟩, ?_⟩
  rw [h1]
  show signed (decide (i < 0)) (inUnits c' q' b64.qmin) * _ = _
  rw [h2]
  have e : signed (decide (i < 0)) i.natAbs = i := by unfold signed; by_cases h : i < 0 <;> simp [h] <;> omega
  unfold inUnits
  rw [qmin_b64, show (-(k : Int) - (-1074)).toNat = 1074 - k by omega, signed_mul, e, Int.mul_assoc, ← Int.natCast_mul, ← Nat.pow_add, show 1074 - k + k = 1074 by omega]
  rfl
theorem own_fin_of {s : Bool} {c : Nat} {q : Int} (hV : Jvm.FP.Core.fits b64 (.fin s c q)) (hn : val64 a ≠ .nan) (h : zval b64 (val64 a) = zval b64 (.fin s c q)) : DFin a := by
  rcases hv : val64 a with _ | t | ⟨t, d, r⟩
  · exact absurd hv hn
  · exfalso
    rw [hv] at h
    have h1 := congrArg Int.natAbs h
    unfold zval at h1
    rw [natAbs_signed, natAbs_signed] at h1
    have h2 := zmag_lt_top good_b64 hV
    have h3 : b64.tails * 2 ^ (b64.exps - 2) = inUnits c q b64.qmin := h1
    omega
  · exact ⟨t, d, r, hv⟩
theorem own_round {sg : Bool} {n : Nat} {e e0 : Int} (hV : Jvm.FP.Core.fits b64 V) (nV : V ≠ .nan) (h0 : e0 ≤ b64.qmin) (h0e : e0 ≤ e) (h : signed sg (inUnits n e e0) = zval b64 V * ((2 ^ (b64.qmin - e0).toNat : Nat) : Int)) : zval b64 (round b64 (.fin sg n e)) = zval b64 V :=
  Int.le_antisymm (zval_round_le good_b64 hV nV h0 h0e (Int.le_of_eq h)) (zval_round_ge good_b64 hV nV h0 h0e (Int.le_of_eq h.symm))
theorem own_cancel {x y : Int} (h : x * ((2 ^ k : Nat) : Int) = y * ((2 ^ k : Nat) : Int)) : x = y := Int.eq_of_mul_eq_mul_right (Int.ne_of_gt (own_p2 k)) h
theorem own_round_ne (sg : Bool) (n : Nat) (e : Int) : round b64 (.fin sg n e) ≠ .nan := roundRatio_ne_nan _ _ _ _ _
theorem own_add (ha : own_Q k i a) (hb : own_Q k j b) (h : (i + j).natAbs < 2 ^ 53) (hk : k ≤ 1074 := by decide) : own_Q k (i + j) (FP.dadd a b) := by
  obtain ⟨V, hV, ⟨vs, vc, vq, rfl⟩, hz⟩ := own_rep k hk (i + j) h
  obtain ⟨s, c, q, ea⟩ := ha.1
  obtain ⟨t, d, r, eb⟩ := hb.1
  have fa := val64_fits a; rw [ea] at fa
  have fb := val64_fits b; rw [eb] at fb
  obtain ⟨sg, n, e, h1, h2, h3⟩ := sum_units fa fb
  have hv : val64 (FP.dadd a b) = round b64 (.fin sg n e) := by rw [show FP.dadd a b = Jvm.FP.Core.dadd a b from rfl, val64_dadd, ea, eb, h1]
  have za : zval b64 (.fin s c q) = own_z a := by unfold own_z; rw [ea]
  have zb : zval b64 (.fin t d r) = own_z b := by unfold own_z; rw [eb]
  have hs : own_z a + own_z b = zval b64 (.fin vs vc vq) := own_cancel (k := k) (by rw [Int.add_mul, ha.2, hb.2, hz, Int.add_mul])
  have eq := own_round (sg := sg) (n := n) (e := e) (e0 := b64.qmin) hV Datum.noConfusion (Int.le_refl _) h2 (by rw [h3, za, zb, hs, Int.sub_self]; simp)
  rw [← hv] at eq
  exact ⟨own_fin_of hV (by rw [hv]; exact own_round_ne _ _ _) eq, by unfold own_z; rw [eq, hz]⟩
theorem own_Q.cneg (h : own_Q k i a) : own_Q k (-i) (Jvm.FP.Core.dneg a) := by
  obtain ⟨⟨s, c, q, h1⟩, h2⟩ := h
  refine ⟨⟨!s, c, q, by rw [val64_dneg, h1]; rfl⟩, ?_⟩
  unfold own_z at h2 ⊢
  rw [val64_dneg, zval_negate, Int.neg_mul, h2, Int.neg_mul]
theorem own_sub (ha : own_Q k i a) (hb : own_Q k j b) (h : (i - j).natAbs < 2 ^ 53) (hk : k ≤ 1074 := by decide) : own_Q k (i - j) (FP.dsub a b) := by
  rw [show FP.dsub a b = Jvm.FP.Core.dsub a b from rfl, dsub_eq]
  rw [Int.sub_eq_add_neg] at h ⊢
  exact own_add ha hb.cneg h hk
theorem own_mul (ha : own_Q k i a) (hb : own_Q m j b) (h : (i * j).natAbs < 2 ^ 53) {k' : Nat} (hkm : k + m = k') (hk : k' ≤ 1074 := by decide) : own_Q k' (i * j) (FP.dmul a b) := by
  subst hkm
  obtain ⟨V, hV, ⟨vs, vc, vq, rfl⟩, hz⟩ := own_rep (k + m) hk (i * j) h
  obtain ⟨s, c, q, ea⟩ := ha.1
  obtain ⟨t, d, r, eb⟩ := hb.1
  have fa := val64_fits a; rw [ea] at fa
  have fb := val64_fits b; rw [eb] at fb
  obtain ⟨h1, h2, h3⟩ := product_units fa fb
  have hv : val64 (FP.dmul a b) = round b64 (.fin (s != t) (c * d) (q + r)) := by rw [show FP.dmul a b = Jvm.FP.Core.dmul a b from rfl, val64_dmul, ea, eb, h1]
  have za : zval b64 (.fin s c q) = own_z a := by unfold own_z; rw [ea]
  have zb : zval b64 (.fin t d r) = own_z b := by unfold own_z; rw [eb]
  have hs : own_z a * own_z b = zval b64 (.fin vs vc vq) * (one64 : Int) := own_cancel (k := k + m) (by
    have e1 : own_z a * own_z b * ((2 ^ (k + m) : Nat) : Int) = (own_z a * ((2 ^ k : Nat) : Int)) * (own_z b * ((2 ^ m : Nat) : Int)) := by rw [Nat.pow_add, Int.natCast_mul]; ac_rfl
    have e2 : zval b64 (.fin vs vc vq) * (one64 : Int) * ((2 ^ (k + m) : Nat) : Int) = (zval b64 (.fin vs vc vq) * ((2 ^ (k + m) : Nat) : Int)) * (one64 : Int) := by generalize (one64 : Int) = o_; ac_rfl
    rw [e1, e2, ha.2, hb.2, hz]; generalize (one64 : Int) = o_; ac_rfl)
  have eq := own_round (sg := (s != t)) (n := c * d) (e := q + r) (e0 := 2 * b64.qmin) hV Datum.noConfusion (by rw [qmin_b64]; decide) h2 (by
    rw [h3, signed_xor]
    have : ((2 ^ (b64.qmin - 2 * b64.qmin).toNat : Nat) : Int) = (one64 : Int) := by rw [qmin_b64]; rfl
    rw [this, ← hs, ← za, ← zb]; rfl)
  rw [← hv] at eq
  exact ⟨own_fin_of hV (by rw [hv]; exact own_round_ne _ _ _) eq, by unfold own_z; rw [eq, hz]⟩
/-! quotients -/
theorem own_qpow (c : Nat) {q r : Int} (h1 : -1074 ≤ q) (h2 : -1074 ≤ r) (h3 : r ≤ 971) : inUnits c (q - r) (-4000) * 2 ^ (r + 1074).toNat = inUnits c q (-1074) * one64 * 2 ^ 2926 := by
  unfold inUnits one64
  rw [Nat.mul_assoc, ← Nat.pow_add, Nat.mul_assoc, Nat.mul_assoc, ← Nat.pow_add, ← Nat.pow_add]
  congr 2
  omega
theorem own_dpow (v d : Nat) {r : Int} (h2 : -1074 ≤ r) : v * 2 ^ ((-1074 : Int) - (-4000)).toNat * d * 2 ^ (r + 1074).toNat = v * inUnits d r (-1074) * 2 ^ 2926 := by
  unfold inUnits
  rw [show ((-1074 : Int) - (-4000)).toNat = 2926 from rfl, show (r - (-1074)).toNat = (r + 1074).toNat by omega]
  generalize 2 ^ 2926 = u_; ac_rfl
theorem own_div_le {s t u : Bool} {c d : Nat} {q r : Int} (fa : Jvm.FP.Core.fits b64 (.fin s c q)) (fb : Jvm.FP.Core.fits b64 (.fin t d r)) (hd : 0 < d) (hV : Jvm.FP.Core.fits b64 V) (nV : V ≠ .nan) (h : zmag b64 (.fin s c q) * one64 ≤ zmag b64 V * zmag b64 (.fin t d r)) : zmag b64 (roundRatio b64 u c d (q - r)) ≤ zmag b64 V := by
  have hq : b64.qmax = 971 := by decide
  have a1 := fa.2.1; have a2 := fb.2.1; have a3 := fb.2.2.1
  rw [qmin_b64] at a1 a2; rw [hq] at a3
  refine zmag_roundRatio_le good_b64 (e0 := -4000) hd hV nV (by rw [qmin_b64]; decide) (by omega) ?_
  rw [qmin_b64]
  refine Nat.le_of_mul_le_mul_right (c := 2 ^ (r + 1074).toNat) ?_ (Nat.two_pow_pos _)
  rw [own_qpow c a1 a2 a3, own_dpow _ d a2]
  refine Nat.mul_le_mul_right _ ?_
  have e1 : zmag b64 (.fin s c q) = inUnits c q (-1074) := by show inUnits c q b64.qmin = _; rw [qmin_b64]
  have e2 : zmag b64 (.fin t d r) = inUnits d r (-1074) := by show inUnits d r b64.qmin = _; rw [qmin_b64]
  rw [e1, e2] at h; exact h
theorem own_div_ge {s t u : Bool} {c d : Nat} {q r : Int} (fa : Jvm.FP.Core.fits b64 (.fin s c q)) (fb : Jvm.FP.Core.fits b64 (.fin t d r)) (hd : 0 < d) (hV : Jvm.FP.Core.fits b64 V) (h : zmag b64 V * zmag b64 (.fin t d r) ≤ zmag b64 (.fin s c q) * one64) : zmag b64 V ≤ zmag b64 (roundRatio b64 u c d (q - r)) := by
  have hq : b64.qmax = 971 := by decide
  have a1 := fa.2.1; have a2 := fb.2.1; have a3 := fb.2.2.1
  rw [qmin_b64] at a1 a2; rw [hq] at a3
  refine zmag_roundRatio_ge good_b64 (e0 := -4000) hd hV (by rw [qmin_b64]; decide) (by omega) ?_
  rw [qmin_b64]
  refine Nat.le_of_mul_le_mul_right (c := 2 ^ (r + 1074).toNat) ?_ (Nat.two_pow_pos _)
  rw [own_qpow c a1 a2 a3, own_dpow _ d a2]
  refine Nat.mul_le_mul_right _ ?_
  have e1 : zmag b64 (.fin s c q) = inUnits c q (-1074) := by show inUnits c q b64.qmin = _; rw [qmin_b64]
  have e2 : zmag b64 (.fin t d r) = inUnits d r (-1074) := by show inUnits d r b64.qmin = _; rw [qmin_b64]
  rw [e1, e2] at h; exact h
theorem own_ddiv_val {s t : Bool} {c d : Nat} {q r : Int} (ea : val64 a = .fin s c q) (eb : val64 b = .fin t d r) (hd : 0 < d) : val64 (FP.ddiv a b) = roundRatio b64 (s != t) c d (q - r) := by
  rw [show FP.ddiv a b = Jvm.FP.Core.ddiv a b from rfl, val64_ddiv, ea, eb]
  show (if d = 0 then _ else _) = _
  rw [if_neg (by omega)]
theorem own_zsgn {s : Bool} {c : Nat} {q : Int} : zval b64 (.fin s c q) = signed s (zmag b64 (.fin s c q)) := rfl
theorem own_dpos {d : Nat} {t : Bool} {r : Int} (h : zval b64 (.fin t d r) ≠ 0) : 0 < d := by
  refine Nat.pos_of_ne_zero fun e => h ?_
  subst e
  show signed t (inUnits 0 r b64.qmin) = 0
  unfold inUnits; rw [Nat.zero_mul]; exact signed_zero t
/-- the quotient by a number above nought, from above -/
theorem own_div_up {V : Datum} (ha : DFin a) (hb : DFin b) (hz : 0 < own_z b) (hV : Jvm.FP.Core.fits b64 V) (nV : V ≠ .nan) (h : own_z a * (one64 : Int) ≤ zval b64 V * own_z b) : own_z (FP.ddiv a b) ≤ zval b64 V := by
  obtain ⟨s, c, q, ea⟩ := ha
  obtain ⟨t, d, r, eb⟩ := hb
  have fa := val64_fits a; rw [ea] at fa
  have fb := val64_fits b; rw [eb] at fb
  unfold own_z at *
  rw [ea, eb] at h; rw [eb] at hz
  have hd := own_dpos (Int.ne_of_gt hz)
  rw [own_ddiv_val ea eb hd]
  have L := own_div_le (u := (s != t)) fa fb hd hV nV
  have G := own_div_ge (u := (s != t)) fa fb hd hV
  have hR : zval b64 (roundRatio b64 (s != t) c d (q - r)) = signed (s != t) (zmag b64 (roundRatio b64 (s != t) c d (q - r))) := by unfold zval; rw [sgn_roundRatio]
  rw [hR]
  rw [own_zsgn] at h hz; rw [own_zsgn] at h
  have hv : zval b64 V = signed (sgn V) (zmag b64 V) := rfl
  rw [hv] at h ⊢
  generalize zmag b64 (roundRatio b64 (s != t) c d (q - r)) = w at *
  generalize zmag b64 V = v at *
  generalize zmag b64 (.fin s c q) = x at *
  generalize zmag b64 (.fin t d r) = y at *
  have ho := one64_pos
  generalize one64 = o at *
  have ht : t = false := by cases t <;> simp [signed] at hz ⊢; omega
  subst ht
  have hy : 0 < y := by simpa [signed] using hz
  cases s <;> cases hs : sgn V <;> rw [hs] at h <;> simp only [signed, Bool.false_eq_true, if_true, if_false, bne_self_eq_false, Bool.true_bne, Bool.not_false, Bool.not_true] at h ⊢
  · have := L (by have : ((x * o : Nat) : Int) ≤ ((v * y : Nat) : Int) := by push_cast; exact h
                  exact Int.ofNat_le.mp this)
    omega
  · have h2 : (x : Int) * (o : Int) + (v : Int) * (y : Int) ≤ 0 := by rw [Int.neg_mul] at h; omega
    have h3 : x * o + v * y = 0 := by
      have : ((x * o + v * y : Nat) : Int) ≤ 0 := by push_cast; exact h2
      omega
    have hx : x * o = 0 := by omega
    have hvy : v * y = 0 := by omega
    have hv0 : v = 0 := by rcases Nat.mul_eq_zero.mp hvy with q | q <;> omega
    have := L (by rw [hx]; exact Nat.zero_le _)
    omega
  · omega
  · have := G (by
      have h2 : (v : Int) * (y : Int) ≤ (x : Int) * (o : Int) := by rw [Int.neg_mul, Int.neg_mul] at h; omega
      have : ((v * y : Nat) : Int) ≤ ((x * o : Nat) : Int) := by push_cast; exact h2
      exact Int.ofNat_le.mp this)
    omega
/-- the quotient by a number above nought, from below -/
theorem own_div_dn {V : Datum} (ha : DFin a) (hb : DFin b) (hz : 0 < own_z b) (hV : Jvm.FP.Core.fits b64 V) (nV : V ≠ .nan) (h : zval b64 V * own_z b ≤ own_z a * (one64 : Int)) : zval b64 V ≤ own_z (FP.ddiv a b) := by
  have e : FP.ddiv (Jvm.FP.Core.dneg a) b = Jvm.FP.Core.dneg (FP.ddiv a b) := ddiv_dneg a b
  have za : own_z (Jvm.FP.Core.dneg a) = -own_z a := by unfold own_z; rw [val64_dneg, zval_negate]
  have zr : own_z (FP.ddiv (Jvm.FP.Core.dneg a) b) = -own_z (FP.ddiv a b) := by rw [e]; unfold own_z; rw [val64_dneg, zval_negate]
  have ha' : DFin (Jvm.FP.Core.dneg a) := by obtain ⟨s, c, q, h⟩ := ha; exact ⟨!s, c, q, by rw [val64_dneg, h]; rfl⟩
  have q := own_div_up (V := negate V) ha' hb hz (negate_fits hV) (negate_ne_nan nV) (by rw [za, zval_negate, Int.neg_mul, Int.neg_mul]; omega)
  rw [zr, zval_negate] at q
  omega
theorem own_ddiv_ne (ha : DFin a) (hb : DFin b) (hz : 0 < own_z b) : val64 (FP.ddiv a b) ≠ .nan := by
  obtain ⟨s, c, q, ea⟩ := ha
  obtain ⟨t, d, r, eb⟩ := hb
  have hd := own_dpos (t := t) (d := d) (r := r) (by unfold own_z at hz; rw [eb] at hz; omega)
  rw [own_ddiv_val ea eb hd]; exact roundRatio_ne_nan _ _ _ _ _
theorem own_Q.zpos (hb : own_Q k j b) (hj : 0 < j) : 0 < own_z b := by
  have h := hb.2
  have h1 : 0 < own_z b * ((2 ^ k : Nat) : Int) := by rw [h]; exact Int.mul_pos hj own_o2
  refine Int.lt_of_not_ge fun q => ?_
  have h2 : own_z b * ((2 ^ k : Nat) : Int) ≤ 0 := Int.mul_nonpos_of_nonpos_of_nonneg q (Int.le_of_lt (own_p2 k))
  omega
theorem own_nnv (h : val64 a ≠ .nan) : Jvm.Free.Fl.NoNaN64 a := Jvm.Free.Fl.noNaN64_no.mpr ((notNaN_iff a).mpr h)
/-- the quotient, where it is a number of the format: i over 2^k by j over 2^m is r over 2^k' -/
theorem own_div {k' : Nat} (ha : own_Q k i a) (hb : own_Q m j b) (hj : j ≠ 0) (hr : i * ((2 ^ m : Nat) : Int) * ((2 ^ k' : Nat) : Int) = r * j * ((2 ^ k : Nat) : Int)) (h : r.natAbs < 2 ^ 53) (hk : k' ≤ 1074 := by decide) : own_Q k' r (FP.ddiv a b) := by
  obtain ⟨V, hV, ⟨vs, vc, vq, rfl⟩, hz⟩ := own_rep k' hk r h
  obtain ⟨s, c, q, ea⟩ := ha.1
  obtain ⟨t, d, r', eb⟩ := hb.1
  have fa := val64_fits a; rw [ea] at fa
  have fb := val64_fits b; rw [eb] at fb
  have za : zval b64 (.fin s c q) = own_z a := by unfold own_z; rw [ea]
  have zb : zval b64 (.fin t d r') = own_z b := by unfold own_z; rw [eb]
  have hb0 : own_z b ≠ 0 := fun e => by
    have h2 := hb.2
    rw [e, Int.zero_mul] at h2
    rcases Int.mul_eq_zero.mp h2.symm with q | q
    · exact hj q
    · exact absurd q (Int.ne_of_gt own_o2)
  have hd := own_dpos (t := t) (d := d) (r := r') (by rw [zb]; exact hb0)
  have key : own_z a * (one64 : Int) = zval b64 (.fin vs vc vq) * own_z b := by
    refine own_cancel (k := k) (own_cancel (k := m) (own_cancel (k := k') ?_))
    have e1 : own_z a * (one64 : Int) * ((2 ^ k : Nat) : Int) * ((2 ^ m : Nat) : Int) * ((2 ^ k' : Nat) : Int) = (own_z a * ((2 ^ k : Nat) : Int)) * ((2 ^ m : Nat) : Int) * ((2 ^ k' : Nat) : Int) * (one64 : Int) := by generalize (one64 : Int) = o_; ac_rfl
    have e2 : zval b64 (.fin vs vc vq) * own_z b * ((2 ^ k : Nat) : Int) * ((2 ^ m : Nat) : Int) * ((2 ^ k' : Nat) : Int) = (zval b64 (.fin vs vc vq) * ((2 ^ k' : Nat) : Int)) * (own_z b * ((2 ^ m : Nat) : Int)) * ((2 ^ k : Nat) : Int) := by generalize (one64 : Int) = o_; ac_rfl
    rw [e1, e2, ha.2, hb.2, hz]
    have e3 : i * (one64 : Int) * ((2 ^ m : Nat) : Int) * ((2 ^ k' : Nat) : Int) * (one64 : Int) = (i * ((2 ^ m : Nat) : Int) * ((2 ^ k' : Nat) : Int)) * ((one64 : Int) * (one64 : Int)) := by generalize (one64 : Int) = o_; ac_rfl
    have e4 : r * (one64 : Int) * (j * (one64 : Int)) * ((2 ^ k : Nat) : Int) = (r * j * ((2 ^ k : Nat) : Int)) * ((one64 : Int) * (one64 : Int)) := by generalize (one64 : Int) = o_; ac_rfl
    rw [e3, e4, hr]
  have hmag : zmag b64 (.fin s c q) * one64 = zmag b64 (.fin vs vc vq) * zmag b64 (.fin t d r') := by
    have h1 := congrArg Int.natAbs key
    rw [← za, ← zb, Int.natAbs_mul, Int.natAbs_mul] at h1
    unfold zval at h1
    rw [natAbs_signed, natAbs_signed, natAbs_signed] at h1
    exact h1
  have hv := own_ddiv_val ea eb hd
  have L := own_div_le (u := (s != t)) fa fb hd hV Datum.noConfusion (Nat.le_of_eq hmag)
  have G := own_div_ge (u := (s != t)) fa fb hd hV (Nat.le_of_eq hmag.symm)
  have hR : zval b64 (roundRatio b64 (s != t) c d (q - r')) = signed (s != t) (zmag b64 (.fin vs vc vq)) := by
    unfold zval; rw [sgn_roundRatio, Nat.le_antisymm L G]
  have eq : zval b64 (val64 (FP.ddiv a b)) = zval b64 (.fin vs vc vq) := by
    rw [hv, hR, own_zsgn]
    rw [← za, ← zb, own_zsgn, own_zsgn, own_zsgn] at key
    have hy : 0 < zmag b64 (.fin t d r') := by
      refine Nat.pos_of_ne_zero fun e => hb0 ?_
      rw [← zb, own_zsgn, e]; exact signed_zero t
    generalize zmag b64 (.fin vs vc vq) = v at *
    generalize zmag b64 (.fin s c q) = x at *
    generalize zmag b64 (.fin t d r') = y at *
    have ho := one64_pos
    generalize one64 = o at *
    have hz0 : x * o = 0 → v = 0 := fun e => by
      rw [hmag] at e
      rcases Nat.mul_eq_zero.mp e with q | q <;> omega
    have hxo : ((x * o : Nat) : Int) = (x : Int) * (o : Int) := by push_cast; rfl
    have hvy : ((v * y : Nat) : Int) = (v : Int) * (y : Int) := by push_cast; rfl
    cases s <;> cases t <;> cases vs <;> simp only [signed, Bool.false_eq_true, if_true, if_false, bne_self_eq_false, Bool.true_bne, Bool.false_bne, Bool.not_false, Bool.not_true, Int.neg_mul, Int.mul_neg, Int.neg_neg] at key ⊢
    all_goals first
      | rfl
      | (have hx0 : x * o = 0 := by omega
         have := hz0 hx0
         subst this
         rfl)
  exact ⟨own_fin_of hV (by rw [hv]; exact roundRatio_ne_nan _ _ _ _ _) eq, by unfold own_z; rw [eq, hz]⟩
theorem own_fits_fin {s : Bool} {c : Nat} {q : Int} : (Datum.fin s c q) ≠ .nan := Datum.noConfusion
/-- whole numbers: a quotient that is at least r over 2^m -/
theorem own_div_lo (ha : own_Q 0 i a) (hb : own_Q 0 j b) (hj : 0 < j) (hm : m ≤ 1074) (hr : r.natAbs < 2 ^ 53) (h : r * j ≤ i * ((2 ^ m : Nat) : Int)) : r * (one64 : Int) ≤ own_z (FP.ddiv a b) * ((2 ^ m : Nat) : Int) := by
  obtain ⟨V, hV, ⟨vs, vc, vq, rfl⟩, hz⟩ := own_rep m hm r hr
  have ha2 := ha.2; have hb2 := hb.2
  rw [Nat.pow_zero] at ha2 hb2
  have e0 : ((1 : Nat) : Int) = 1 := rfl
  rw [e0, Int.mul_one] at ha2 hb2
  have q := own_div_dn ha.1 hb.1 (hb.zpos hj) hV Datum.noConfusion (by
    refine Int.le_of_mul_le_mul_right ?_ (own_p2 m)
    have e1 : zval b64 (.fin vs vc vq) * own_z b * ((2 ^ m : Nat) : Int) = (zval b64 (.fin vs vc vq) * ((2 ^ m : Nat) : Int)) * own_z b := by generalize (one64 : Int) = o_; ac_rfl
    rw [e1, hz, ha2, hb2]
    have e2 : r * (one64 : Int) * (j * (one64 : Int)) = (r * j) * ((one64 : Int) * (one64 : Int)) := by generalize (one64 : Int) = o_; ac_rfl
    have e3 : i * (one64 : Int) * (one64 : Int) * ((2 ^ m : Nat) : Int) = (i * ((2 ^ m : Nat) : Int)) * ((one64 : Int) * (one64 : Int)) := by generalize (one64 : Int) = o_; ac_rfl
    rw [e2, e3]
    exact Int.mul_le_mul_of_nonneg_right h (Int.le_of_lt (Int.mul_pos own_o2 own_o2)))
  rw [← hz]
  exact Int.mul_le_mul_of_nonneg_right q (Int.le_of_lt (own_p2 m))
theorem own_div_hi (ha : own_Q 0 i a) (hb : own_Q 0 j b) (hj : 0 < j) (hm : m ≤ 1074) (hr : r.natAbs < 2 ^ 53) (h : i * ((2 ^ m : Nat) : Int) ≤ r * j) : own_z (FP.ddiv a b) * ((2 ^ m : Nat) : Int) ≤ r * (one64 : Int) := by
  obtain ⟨V, hV, ⟨vs, vc, vq, rfl⟩, hz⟩ := own_rep m hm r hr
  have ha2 := ha.2; have hb2 := hb.2
  rw [Nat.pow_zero] at ha2 hb2
  have e0 : ((1 : Nat) : Int) = 1 := rfl
  rw [e0, Int.mul_one] at ha2 hb2
  have q := own_div_up ha.1 hb.1 (hb.zpos hj) hV Datum.noConfusion (by
    refine Int.le_of_mul_le_mul_right ?_ (own_p2 m)
    have e1 : zval b64 (.fin vs vc vq) * own_z b * ((2 ^ m : Nat) : Int) = (zval b64 (.fin vs vc vq) * ((2 ^ m : Nat) : Int)) * own_z b := by generalize (one64 : Int) = o_; ac_rfl
    rw [e1, hz, ha2, hb2]
    have e2 : r * (one64 : Int) * (j * (one64 : Int)) = (r * j) * ((one64 : Int) * (one64 : Int)) := by generalize (one64 : Int) = o_; ac_rfl
    have e3 : i * (one64 : Int) * (one64 : Int) * ((2 ^ m : Nat) : Int) = (i * ((2 ^ m : Nat) : Int)) * ((one64 : Int) * (one64 : Int)) := by generalize (one64 : Int) = o_; ac_rfl
    rw [e2, e3]
    exact Int.mul_le_mul_of_nonneg_right h (Int.le_of_lt (Int.mul_pos own_o2 own_o2)))
  rw [← hz]
  exact Int.mul_le_mul_of_nonneg_right q (Int.le_of_lt (own_p2 m))
theorem own_zcmp (ha : val64 a ≠ .nan) (hb : val64 b ≠ .nan) (h : own_z a < own_z b) : FP.dcmp a b = some .lt := by
  have q := dcmp_zval ha hb
  rw [show FP.dcmp a b = Jvm.FP.Core.dcmp a b from rfl, q]; exact congrArg some ((compare_lt_iff _ _).mpr h)
end OwnFP
section OwnTerm
open Jvm.FP.Core
variable {p : Program} {l : Launch} {e : Env} {R : Room} {s : State} {m : MethodId} {args : Array Value} {below : List Frame} {meth : Method} {c : Code} {Z T : State} {L : List (Addr × (Cell → Prop))} {k n : Nat}
theorem own_S.drop1 {q : Addr × (Cell → Prop)} (X : own_S p l e R s m args below meth c Z T (q :: L) k n) : own_S p l e R s m args below meth c Z T L k n := X.re fun H => H.sub (List.sublist_cons_self _ _)
end OwnTerm
section OwnTerm
open Jvm.FP.Core
def own_s16 (x : Int32) : Int64 := ((x <<< (16 &&& 31)) >>> (16 &&& 31)).toInt64
def own_DB (B : Nat) (t : Int) (x : UInt64) : Prop := own_Q 0 t x ∧ t.natAbs ≤ B
variable {B C D : Nat} {t u r : Int} {x y : UInt64}
theorem own_DB.nn (h : own_DB B t x) : Jvm.Free.Fl.NoNaN64 x := h.1.nn
theorem own_DB.z : own_DB 0 0 0 := ⟨own_Q.of (own_litI 0 (by decide +kernel) (by decide)), by decide⟩
theorem own_DB.o : own_DB 1 1 4607182418800017408 := ⟨own_Q.of (own_litI 1 (by decide +kernel) (by decide)), by decide⟩
theorem own_DB.add (h1 : own_DB B t x) (h2 : own_DB C u y) (e : t + u = r) (hD : B + C = D) (hb : D < 2 ^ 53) : own_DB D r (FP.dadd x y) := by
  subst e hD
  have := h1.2; have := h2.2
  exact ⟨own_add h1.1 h2.1 (by omega), by omega⟩
theorem own_DB.sub (h1 : own_DB B t x) (h2 : own_DB C u y) (e : t - u = r) (hD : B + C = D) (hb : D < 2 ^ 53) : own_DB D r (FP.dsub x y) := by
  subst e hD
  have := h1.2; have := h2.2
  exact ⟨own_sub h1.1 h2.1 (by omega), by omega⟩
theorem own_DB.mul (h1 : own_DB B t x) (h2 : own_DB C u y) (e : t * u = r) (hD : B * C = D) (hb : D < 2 ^ 53) : own_DB D r (FP.dmul x y) := by
  subst e hD
  have q : (t * u).natAbs ≤ B * C := by rw [Int.natAbs_mul]; exact Nat.mul_le_mul h1.2 h2.2
  exact ⟨own_mul h1.1 h2.1 (Nat.lt_of_le_of_lt q hb) rfl, q⟩
theorem own_DB.div (h1 : own_DB B t x) (h2 : own_DB C 1 y) (hb : B < 2 ^ 53) : own_DB B t (FP.ddiv x y) :=
  ⟨own_div h1.1 h2.1 (by decide) (by simp) (Nat.lt_of_le_of_lt h1.2 hb), h1.2⟩
def own_J (B : Nat) (t : Int) (x : Int64) : Prop := x.toInt = t ∧ t.natAbs ≤ B
theorem own_J.add {x y : Int64} (h1 : own_J B t x) (h2 : own_J C u y) (hb : B + C < 2 ^ 62) : own_J (B + C) (t + u) (x + y) := by
  have := h1.2; have := h2.2
  refine ⟨?_, by omega⟩
  rw [Jvm.Free.XT.add64 (by unfold Jvm.Free.XT.fits64; rw [h1.1, h2.1]; omega), h1.1, h2.1]
theorem own_J.mul {x y : Int64} (h1 : own_J B t x) (h2 : own_J C u y) (hb : B * C < 2 ^ 62) : own_J (B * C) (t * u) (x * y) := by
  have q : (t * u).natAbs ≤ B * C := by rw [Int.natAbs_mul]; exact Nat.mul_le_mul h1.2 h2.2
  generalize B * C = D at *
  refine ⟨?_, q⟩
  rw [Jvm.Free.XT.mul64 (by unfold Jvm.Free.XT.fits64; rw [h1.1, h2.1]; omega), h1.1, h2.1]
theorem own_J.d {x : Int64} (h : own_J B t x) (hb : B < 2 ^ 53) : own_DB B t (FP.l2d x) := by
  have e := h.1; subst e
  have := h.2
  exact ⟨own_Q.of (l2d_int (by omega)), h.2⟩
theorem own_shr16 (y : Int32) : -32768 ≤ (y >>> (16 &&& 31) : Int32).toInt ∧ (y >>> (16 &&& 31) : Int32).toInt ≤ 32767 := by
  have e := c_ishr y 16 16 (by decide)
  have e2 : ((2 ^ 16 : Nat) : Int) = 65536 := rfl
  rw [e2] at e
  have h1 := Int32.toInt_lt y; have h2 := Int32.le_toInt y
  rw [e]; omega
theorem own_s16_J (x : Int32) : own_J 32768 (own_s16 x).toInt (own_s16 x) := by
  refine ⟨rfl, ?_⟩
  unfold own_s16
  rw [own_l]
  have := own_shr16 (x <<< (16 &&& 31))
  omega
theorem own_qf {a c d p q : Int64} {N : Nat} {r : UInt64} (ha : own_J 32768 a.toInt a) (hc : own_J 32768 c.toInt c) (hd : own_J 32768 d.toInt d) (hp : own_J 32768 p.toInt p) (hq : own_J 32768 q.toInt q) (hr : own_DB N ((((0 + (p.toInt * a.toInt) * p.toInt) + (p.toInt * c.toInt) * q.toInt) + (q.toInt * c.toInt) * p.toInt) + (q.toInt * d.toInt) * q.toInt) r) :
    FP.dcmp r (FP.l2d ((((a * p) * p) + (((2 * c) * p) * q)) + ((d * q) * q))) = some .eq := by
  have h2 : own_J 2 2 (2 : Int64) := ⟨by decide, by decide⟩
  have w := (((ha.mul hp (by decide)).mul hp (by decide)).add (((h2.mul hc (by decide)).mul hp (by decide)).mul hq (by decide)) (by decide)).add ((hd.mul hq (by decide)).mul hq (by decide)) (by decide)
  refine hr.1.eqv (w.d (by decide)).1 ?_
  generalize a.toInt = A; generalize c.toInt = C; generalize d.toInt = D; generalize p.toInt = P; generalize q.toInt = Q
  have e1 : P * A * P = A * P * P := by rw [Int.mul_comm P A]
  have e2 : P * C * Q = C * P * Q := by rw [Int.mul_comm P C]
  have e3 : Q * C * P = C * P * Q := by rw [Int.mul_comm Q C, Int.mul_assoc, Int.mul_comm Q P, ← Int.mul_assoc]
  have e4 : Q * D * Q = D * Q * Q := by rw [Int.mul_comm Q D]
  have e5 : 2 * C * P * Q = 2 * (C * P * Q) := by rw [Int.mul_assoc, Int.mul_assoc, Int.mul_assoc]
  rw [e1, e2, e3, e4, e5]; omega
end OwnTerm

theorem d_method_2_code_0 : decode method_2_code 0 = .ok (.iload_n 0, 1) := by decide +kernel
theorem d_method_2_code_1 : decode method_2_code 1 = .ok (.bipush 16, 2) := by decide +kernel
theorem d_method_2_code_3 : decode method_2_code 3 = .ok (.ishl, 1) := by decide +kernel
theorem d_method_2_code_4 : decode method_2_code 4 = .ok (.bipush 16, 2) := by decide +kernel
theorem d_method_2_code_6 : decode method_2_code 6 = .ok (.ishr, 1) := by decide +kernel
theorem d_method_2_code_7 : decode method_2_code 7 = .ok (.i2l, 1) := by decide +kernel
theorem d_method_2_code_8 : decode method_2_code 8 = .ok (.lreturn, 1) := by decide +kernel
theorem own_pn0 : plainName "com/example/residuum/residuum/SecondOrderTermQuadraticFormPinLaw" = true := by first | (simp [plainName, overriddenIn]; done) | decide +kernel
def rm_own_cs16 : Room := { frames := 0, cells := 0, slots := 0, locals := 0 }
set_option maxRecDepth 65536 in
set_option maxHeartbeats 40000000 in
theorem own_cs16 (l : Launch) (Z : State) (a0 : Array Value) (hw : ∀ d ∈ tables_1, d.before a0 Z = true) (x : Int32) (L : List (Addr × (Cell → Prop))) :
    own_Con l Z (⟨"com/example/residuum/residuum/SecondOrderTermQuadraticFormPinLaw", "s16", "(I)J"⟩ : MethodName) method_2_code 1 (some .long) rm_own_cs16 #[(.int x)] (L) (fun v M => v = some (.long (own_s16 x)) ∧ M = L) := by
  refine own_con (ls := #[.val (.int x)]) (plainFor_of_name own_pn0) (fun m => own_ent m rfl) ?_
  intro p e s m below meth c T C X
  refine k_iloadN C X d_method_2_code_0 rfl rfl ?_
  refine k_bipush C X d_method_2_code_1 rfl (v := 16) rfl ?_
  refine k_ishl C X d_method_2_code_3 rfl ?_
  refine k_bipush C X d_method_2_code_4 rfl (v := 16) rfl ?_
  refine k_ishr C X d_method_2_code_6 rfl ?_
  refine k_i2l C X d_method_2_code_7 rfl ?_
  exact k_lreturn C X d_method_2_code_8 ⟨rfl, rfl⟩ (by decide) (by decide)
theorem d_prog_17_method_1_code_0 : decode prog_17_method_1_code 0 = .ok (.aload_n 0, 1) := by decide +kernel
theorem d_prog_17_method_1_code_1 : decode prog_17_method_1_code 1 = .ok (.invokespecial 1, 3) := by decide +kernel
theorem d_prog_17_method_1_code_4 : decode prog_17_method_1_code 4 = .ok (.aload_n 0, 1) := by decide +kernel
theorem d_prog_17_method_1_code_5 : decode prog_17_method_1_code 5 = .ok (.iload_n 1, 1) := by decide +kernel
theorem d_prog_17_method_1_code_6 : decode prog_17_method_1_code 6 = .ok (.iload_n 1, 1) := by decide +kernel
theorem d_prog_17_method_1_code_7 : decode prog_17_method_1_code 7 = .ok (.multianewarray 7 2, 4) := by decide +kernel
theorem d_prog_17_method_1_code_11 : decode prog_17_method_1_code 11 = .ok (.putfield 9, 3) := by decide +kernel
def own_lay_SecondOrderTerm_N : List (String × String × FieldType) := [("term", "[[D", (.array (.array .double)))]
theorem own_lay_SecondOrderTerm {Z : State} {a0 : Array Value} (hw : ∀ d ∈ tables_1, d.before a0 Z = true) : own_lay Z a0 "com/example/residuum/residuum/SecondOrderTerm" own_lay_SecondOrderTerm_N := ⟨⟨Or.inr (hw _ (List.mem_of_getElem? (i := 17) rfl)), by decide⟩, trivial⟩
theorem own_lay_SecondOrderTerm_nd : (own_lay_SecondOrderTerm_N.map (·.1)).Nodup := by decide +kernel
theorem d_prog_17_method_1_code_14 : decode prog_17_method_1_code 14 = .ok (.return_, 1) := by decide +kernel
theorem own_pn1 : plainName "com/example/residuum/residuum/SecondOrderTerm" = true := by first | (simp [plainName, overriddenIn]; done) | decide +kernel
def rm_own_cinit : Room := { frames := 1, cells := 3, slots := 6, locals := 12 }
set_option maxRecDepth 65536 in
set_option maxHeartbeats 40000000 in
theorem own_cinit (l : Launch) (Z : State) (a0 : Array Value) (hw : ∀ d ∈ tables_1, d.before a0 Z = true) (a : Addr) (L : List (Addr × (Cell → Prop))) :
    own_Con l Z (⟨"com/example/residuum/residuum/SecondOrderTerm", "<init>", "(I)V"⟩ : MethodName) prog_17_method_1_code 2 none rm_own_cinit #[(.ref a), (.int (2))] ((a, own_ob Z "com/example/residuum/residuum/SecondOrderTerm" [("term", "[[D", .null)]) :: L) (fun v M => ∃ g r0 r1, v = none ∧ M = (g, own_ar Z (.array .double) [(.ref r0), (.ref r1)]) :: (r0, own_ar Z .double [(.double 0), (.double 0)]) :: (r1, own_ar Z .double [(.double 0), (.double 0)]) :: (a, own_ob Z "com/example/residuum/residuum/SecondOrderTerm" [("term", "[[D", (.ref g))]) :: L) := by
  refine own_con (ls := #[.val (.ref a), .val (.int (2))]) (plainFor_of_name own_pn1) (fun m => own_ent m rfl) ?_
  intro p e s m below meth c T C X
  refine k_aloadN C X d_prog_17_method_1_code_0 rfl rfl rfl ?_
  refine k_initO C X d_prog_17_method_1_code_1 rfl (hw _ (List.mem_of_getElem? (i := 11) rfl)) (hw _ (List.mem_of_getElem? (i := 12) rfl)) (hw _ (List.mem_of_getElem? (i := 13) rfl)) rfl (W := 0) (Nat.le_of_eq rfl) (by decide) (by decide) (fun T X => ?_)
  refine k_aloadN C X d_prog_17_method_1_code_4 rfl rfl rfl ?_
  refine k_iloadN C X d_prog_17_method_1_code_5 rfl rfl ?_
  refine k_iloadN C X d_prog_17_method_1_code_6 rfl rfl ?_
  refine k_multi2 C X d_prog_17_method_1_code_7 rfl (C2 := "[D") (by decide) (by decide) (hw _ (List.mem_of_getElem? (i := 14) rfl)) (hw _ (List.mem_of_getElem? (i := 15) rfl)) (hw _ (List.mem_of_getElem? (i := 4) rfl)) (by decide) (by decide) (fun T o7 o7_0 o7_1 X => ?_)
  refine k_putfield C X d_prog_17_method_1_code_11 rfl (host := "") (Or.inl (hw _ (List.mem_of_getElem? (i := 16) rfl))) (hw _ (List.mem_of_getElem? (i := 6) rfl)) (Or.inr ⟨(hw _ (List.mem_of_getElem? (i := 17) rfl)), rfl, rfl⟩) (own_lay_SecondOrderTerm hw) own_lay_SecondOrderTerm_nd (ix := 3) (j := 0) rfl rfl rfl (fs' := [("term", "[[D", (.ref o7))]) rfl (ty := (.array (.array .double))) (by decide) rfl rfl (L' := (o7, own_ar Z (.array .double) [(.ref o7_0), (.ref o7_1)]) :: (o7_0, own_ar Z .double [(.double 0), (.double 0)]) :: (o7_1, own_ar Z .double [(.double 0), (.double 0)]) :: (a, own_ob Z "com/example/residuum/residuum/SecondOrderTerm" [("term", "[[D", (.ref o7))]) :: L) rfl (fun T X => ?_)
  exact k_return C X d_prog_17_method_1_code_14 ⟨_, _, _, rfl, rfl⟩ (by decide) (by decide)
theorem d_prog_17_method_4_code_0 : decode prog_17_method_4_code 0 = .ok (.aload_n 1, 1) := by decide +kernel
theorem d_prog_17_method_4_code_1 : decode prog_17_method_4_code 1 = .ok (.arraylength, 1) := by decide +kernel
theorem d_prog_17_method_4_code_2 : decode prog_17_method_4_code 2 = .ok (.istore 5, 2) := by decide +kernel
theorem d_prog_17_method_4_code_4 : decode prog_17_method_4_code 4 = .ok (.iload 5, 2) := by decide +kernel
theorem d_prog_17_method_4_code_6 : decode prog_17_method_4_code 6 = .ok (.newarray .double, 2) := by decide +kernel
theorem d_prog_17_method_4_code_8 : decode prog_17_method_4_code 8 = .ok (.astore 6, 2) := by decide +kernel
theorem d_prog_17_method_4_code_10 : decode prog_17_method_4_code 10 = .ok (.iload 5, 2) := by decide +kernel
theorem d_prog_17_method_4_code_12 : decode prog_17_method_4_code 12 = .ok (.newarray .double, 2) := by decide +kernel
theorem d_prog_17_method_4_code_14 : decode prog_17_method_4_code 14 = .ok (.astore 7, 2) := by decide +kernel
theorem d_prog_17_method_4_code_16 : decode prog_17_method_4_code 16 = .ok (.iload 5, 2) := by decide +kernel
theorem d_prog_17_method_4_code_18 : decode prog_17_method_4_code 18 = .ok (.newarray .double, 2) := by decide +kernel
theorem d_prog_17_method_4_code_20 : decode prog_17_method_4_code 20 = .ok (.astore 8, 2) := by decide +kernel
theorem d_prog_17_method_4_code_22 : decode prog_17_method_4_code 22 = .ok (.dconst 0, 1) := by decide +kernel
theorem d_prog_17_method_4_code_23 : decode prog_17_method_4_code 23 = .ok (.dstore 9, 2) := by decide +kernel
theorem d_prog_17_method_4_code_25 : decode prog_17_method_4_code 25 = .ok (.dconst 0, 1) := by decide +kernel
theorem d_prog_17_method_4_code_26 : decode prog_17_method_4_code 26 = .ok (.dstore 11, 2) := by decide +kernel
theorem d_prog_17_method_4_code_28 : decode prog_17_method_4_code 28 = .ok (.dconst 0, 1) := by decide +kernel
theorem d_prog_17_method_4_code_29 : decode prog_17_method_4_code 29 = .ok (.dstore 13, 2) := by decide +kernel
theorem d_prog_17_method_4_code_31 : decode prog_17_method_4_code 31 = .ok (.iconst 0, 1) := by decide +kernel
theorem d_prog_17_method_4_code_32 : decode prog_17_method_4_code 32 = .ok (.istore 15, 2) := by decide +kernel
theorem d_prog_17_method_4_code_34 : decode prog_17_method_4_code 34 = .ok (.iload 15, 2) := by decide +kernel
theorem d_prog_17_method_4_code_36 : decode prog_17_method_4_code 36 = .ok (.iload 5, 2) := by decide +kernel
theorem d_prog_17_method_4_code_38 : decode prog_17_method_4_code 38 = .ok (.if_icmp .ge 123, 3) := by decide +kernel
theorem d_prog_17_method_4_code_41 : decode prog_17_method_4_code 41 = .ok (.aload 6, 2) := by decide +kernel
theorem d_prog_17_method_4_code_43 : decode prog_17_method_4_code 43 = .ok (.iload 15, 2) := by decide +kernel
theorem d_prog_17_method_4_code_45 : decode prog_17_method_4_code 45 = .ok (.aload_n 2, 1) := by decide +kernel
theorem d_prog_17_method_4_code_46 : decode prog_17_method_4_code 46 = .ok (.iload 15, 2) := by decide +kernel
theorem d_prog_17_method_4_code_48 : decode prog_17_method_4_code 48 = .ok (.daload, 1) := by decide +kernel
theorem d_prog_17_method_4_code_49 : decode prog_17_method_4_code 49 = .ok (.aload 4, 2) := by decide +kernel
theorem d_prog_17_method_4_code_51 : decode prog_17_method_4_code 51 = .ok (.iload 15, 2) := by decide +kernel
theorem d_prog_17_method_4_code_53 : decode prog_17_method_4_code 53 = .ok (.daload, 1) := by decide +kernel
theorem d_prog_17_method_4_code_54 : decode prog_17_method_4_code 54 = .ok (.dsub, 1) := by decide +kernel
theorem d_prog_17_method_4_code_55 : decode prog_17_method_4_code 55 = .ok (.dastore, 1) := by decide +kernel
theorem d_prog_17_method_4_code_56 : decode prog_17_method_4_code 56 = .ok (.aload 7, 2) := by decide +kernel
theorem d_prog_17_method_4_code_58 : decode prog_17_method_4_code 58 = .ok (.iload 15, 2) := by decide +kernel
theorem d_prog_17_method_4_code_60 : decode prog_17_method_4_code 60 = .ok (.aload_n 3, 1) := by decide +kernel
theorem d_prog_17_method_4_code_61 : decode prog_17_method_4_code 61 = .ok (.iload 15, 2) := by decide +kernel
theorem d_prog_17_method_4_code_63 : decode prog_17_method_4_code 63 = .ok (.daload, 1) := by decide +kernel
theorem d_prog_17_method_4_code_64 : decode prog_17_method_4_code 64 = .ok (.aload 4, 2) := by decide +kernel
theorem d_prog_17_method_4_code_66 : decode prog_17_method_4_code 66 = .ok (.iload 15, 2) := by decide +kernel
theorem d_prog_17_method_4_code_68 : decode prog_17_method_4_code 68 = .ok (.daload, 1) := by decide +kernel
theorem d_prog_17_method_4_code_69 : decode prog_17_method_4_code 69 = .ok (.dsub, 1) := by decide +kernel
theorem d_prog_17_method_4_code_70 : decode prog_17_method_4_code 70 = .ok (.dastore, 1) := by decide +kernel
theorem d_prog_17_method_4_code_71 : decode prog_17_method_4_code 71 = .ok (.iconst 0, 1) := by decide +kernel
theorem d_prog_17_method_4_code_72 : decode prog_17_method_4_code 72 = .ok (.istore 16, 2) := by decide +kernel
theorem d_prog_17_method_4_code_74 : decode prog_17_method_4_code 74 = .ok (.iload 16, 2) := by decide +kernel
theorem d_prog_17_method_4_code_76 : decode prog_17_method_4_code 76 = .ok (.iload 5, 2) := by decide +kernel
theorem d_prog_17_method_4_code_78 : decode prog_17_method_4_code 78 = .ok (.if_icmp .ge 32, 3) := by decide +kernel
theorem d_prog_17_method_4_code_81 : decode prog_17_method_4_code 81 = .ok (.aload 8, 2) := by decide +kernel
theorem d_prog_17_method_4_code_83 : decode prog_17_method_4_code 83 = .ok (.iload 15, 2) := by decide +kernel
theorem d_prog_17_method_4_code_85 : decode prog_17_method_4_code 85 = .ok (.dup2, 1) := by decide +kernel
theorem d_prog_17_method_4_code_86 : decode prog_17_method_4_code 86 = .ok (.daload, 1) := by decide +kernel
theorem d_prog_17_method_4_code_87 : decode prog_17_method_4_code 87 = .ok (.aload_n 0, 1) := by decide +kernel
theorem d_prog_17_method_4_code_88 : decode prog_17_method_4_code 88 = .ok (.getfield 9, 3) := by decide +kernel
theorem d_prog_17_method_4_code_91 : decode prog_17_method_4_code 91 = .ok (.iload 15, 2) := by decide +kernel
theorem d_prog_17_method_4_code_93 : decode prog_17_method_4_code 93 = .ok (.aaload, 1) := by decide +kernel
theorem d_prog_17_method_4_code_94 : decode prog_17_method_4_code 94 = .ok (.iload 16, 2) := by decide +kernel
theorem d_prog_17_method_4_code_96 : decode prog_17_method_4_code 96 = .ok (.daload, 1) := by decide +kernel
theorem d_prog_17_method_4_code_97 : decode prog_17_method_4_code 97 = .ok (.aload_n 1, 1) := by decide +kernel
theorem d_prog_17_method_4_code_98 : decode prog_17_method_4_code 98 = .ok (.iload 16, 2) := by decide +kernel
theorem d_prog_17_method_4_code_100 : decode prog_17_method_4_code 100 = .ok (.daload, 1) := by decide +kernel
theorem d_prog_17_method_4_code_101 : decode prog_17_method_4_code 101 = .ok (.dmul, 1) := by decide +kernel
theorem d_prog_17_method_4_code_102 : decode prog_17_method_4_code 102 = .ok (.dadd, 1) := by decide +kernel
theorem d_prog_17_method_4_code_103 : decode prog_17_method_4_code 103 = .ok (.dastore, 1) := by decide +kernel
theorem d_prog_17_method_4_code_104 : decode prog_17_method_4_code 104 = .ok (.iinc 16 1, 3) := by decide +kernel
theorem d_prog_17_method_4_code_107 : decode prog_17_method_4_code 107 = .ok (.goto (-33), 3) := by decide +kernel
theorem d_prog_17_method_4_code_110 : decode prog_17_method_4_code 110 = .ok (.dload 9, 2) := by decide +kernel
theorem d_prog_17_method_4_code_112 : decode prog_17_method_4_code 112 = .ok (.aload 6, 2) := by decide +kernel
theorem d_prog_17_method_4_code_114 : decode prog_17_method_4_code 114 = .ok (.iload 15, 2) := by decide +kernel
theorem d_prog_17_method_4_code_116 : decode prog_17_method_4_code 116 = .ok (.daload, 1) := by decide +kernel
theorem d_prog_17_method_4_code_117 : decode prog_17_method_4_code 117 = .ok (.aload_n 1, 1) := by decide +kernel
theorem d_prog_17_method_4_code_118 : decode prog_17_method_4_code 118 = .ok (.iload 15, 2) := by decide +kernel
theorem d_prog_17_method_4_code_120 : decode prog_17_method_4_code 120 = .ok (.daload, 1) := by decide +kernel
theorem d_prog_17_method_4_code_121 : decode prog_17_method_4_code 121 = .ok (.dmul, 1) := by decide +kernel
theorem d_prog_17_method_4_code_122 : decode prog_17_method_4_code 122 = .ok (.dadd, 1) := by decide +kernel
theorem d_prog_17_method_4_code_123 : decode prog_17_method_4_code 123 = .ok (.dstore 9, 2) := by decide +kernel
theorem d_prog_17_method_4_code_125 : decode prog_17_method_4_code 125 = .ok (.dload 11, 2) := by decide +kernel
theorem d_prog_17_method_4_code_127 : decode prog_17_method_4_code 127 = .ok (.aload_n 1, 1) := by decide +kernel
theorem d_prog_17_method_4_code_128 : decode prog_17_method_4_code 128 = .ok (.iload 15, 2) := by decide +kernel
theorem d_prog_17_method_4_code_130 : decode prog_17_method_4_code 130 = .ok (.daload, 1) := by decide +kernel
theorem d_prog_17_method_4_code_131 : decode prog_17_method_4_code 131 = .ok (.aload 7, 2) := by decide +kernel
theorem d_prog_17_method_4_code_133 : decode prog_17_method_4_code 133 = .ok (.iload 15, 2) := by decide +kernel
theorem d_prog_17_method_4_code_135 : decode prog_17_method_4_code 135 = .ok (.daload, 1) := by decide +kernel
theorem d_prog_17_method_4_code_136 : decode prog_17_method_4_code 136 = .ok (.dmul, 1) := by decide +kernel
theorem d_prog_17_method_4_code_137 : decode prog_17_method_4_code 137 = .ok (.dadd, 1) := by decide +kernel
theorem d_prog_17_method_4_code_138 : decode prog_17_method_4_code 138 = .ok (.dstore 11, 2) := by decide +kernel
theorem d_prog_17_method_4_code_140 : decode prog_17_method_4_code 140 = .ok (.dload 13, 2) := by decide +kernel
theorem d_prog_17_method_4_code_142 : decode prog_17_method_4_code 142 = .ok (.aload_n 1, 1) := by decide +kernel
theorem d_prog_17_method_4_code_143 : decode prog_17_method_4_code 143 = .ok (.iload 15, 2) := by decide +kernel
theorem d_prog_17_method_4_code_145 : decode prog_17_method_4_code 145 = .ok (.daload, 1) := by decide +kernel
theorem d_prog_17_method_4_code_146 : decode prog_17_method_4_code 146 = .ok (.aload 8, 2) := by decide +kernel
theorem d_prog_17_method_4_code_148 : decode prog_17_method_4_code 148 = .ok (.iload 15, 2) := by decide +kernel
theorem d_prog_17_method_4_code_150 : decode prog_17_method_4_code 150 = .ok (.daload, 1) := by decide +kernel
theorem d_prog_17_method_4_code_151 : decode prog_17_method_4_code 151 = .ok (.dmul, 1) := by decide +kernel
theorem d_prog_17_method_4_code_152 : decode prog_17_method_4_code 152 = .ok (.dadd, 1) := by decide +kernel
theorem d_prog_17_method_4_code_153 : decode prog_17_method_4_code 153 = .ok (.dstore 13, 2) := by decide +kernel
theorem d_prog_17_method_4_code_155 : decode prog_17_method_4_code 155 = .ok (.iinc 15 1, 3) := by decide +kernel
theorem d_prog_17_method_4_code_158 : decode prog_17_method_4_code 158 = .ok (.goto (-124), 3) := by decide +kernel
theorem d_prog_17_method_4_code_161 : decode prog_17_method_4_code 161 = .ok (.dload 13, 2) := by decide +kernel
theorem d_prog_17_method_4_code_163 : decode prog_17_method_4_code 163 = .ok (.dconst 0, 1) := by decide +kernel
theorem d_prog_17_method_4_code_164 : decode prog_17_method_4_code 164 = .ok (.dcmp .l, 1) := by decide +kernel
theorem d_prog_17_method_4_code_165 : decode prog_17_method_4_code 165 = .ok (.ifCond .eq 77, 3) := by decide +kernel
theorem d_prog_17_method_4_code_242 : decode prog_17_method_4_code 242 = .ok (.dload 9, 2) := by decide +kernel
theorem d_prog_17_method_4_code_244 : decode prog_17_method_4_code 244 = .ok (.dconst 0, 1) := by decide +kernel
theorem d_prog_17_method_4_code_245 : decode prog_17_method_4_code 245 = .ok (.dcmp .l, 1) := by decide +kernel
theorem d_prog_17_method_4_code_246 : decode prog_17_method_4_code 246 = .ok (.ifCond .gt 4, 3) := by decide +kernel
theorem d_prog_17_method_4_code_250 : decode prog_17_method_4_code 250 = .ok (.iload 5, 2) := by decide +kernel
theorem d_prog_17_method_4_code_252 : decode prog_17_method_4_code 252 = .ok (.newarray .double, 2) := by decide +kernel
theorem d_prog_17_method_4_code_254 : decode prog_17_method_4_code 254 = .ok (.astore 15, 2) := by decide +kernel
theorem d_prog_17_method_4_code_256 : decode prog_17_method_4_code 256 = .ok (.dconst 0, 1) := by decide +kernel
theorem d_prog_17_method_4_code_257 : decode prog_17_method_4_code 257 = .ok (.dstore 16, 2) := by decide +kernel
theorem d_prog_17_method_4_code_259 : decode prog_17_method_4_code 259 = .ok (.iconst 0, 1) := by decide +kernel
theorem d_prog_17_method_4_code_260 : decode prog_17_method_4_code 260 = .ok (.istore 18, 2) := by decide +kernel
theorem d_prog_17_method_4_code_262 : decode prog_17_method_4_code 262 = .ok (.iload 18, 2) := by decide +kernel
theorem d_prog_17_method_4_code_264 : decode prog_17_method_4_code 264 = .ok (.iload 5, 2) := by decide +kernel
theorem d_prog_17_method_4_code_266 : decode prog_17_method_4_code 266 = .ok (.if_icmp .ge 40, 3) := by decide +kernel
theorem d_prog_17_method_4_code_269 : decode prog_17_method_4_code 269 = .ok (.aload 15, 2) := by decide +kernel
theorem d_prog_17_method_4_code_271 : decode prog_17_method_4_code 271 = .ok (.iload 18, 2) := by decide +kernel
theorem d_prog_17_method_4_code_273 : decode prog_17_method_4_code 273 = .ok (.aload 7, 2) := by decide +kernel
theorem d_prog_17_method_4_code_275 : decode prog_17_method_4_code 275 = .ok (.iload 18, 2) := by decide +kernel
theorem d_prog_17_method_4_code_277 : decode prog_17_method_4_code 277 = .ok (.daload, 1) := by decide +kernel
theorem d_prog_17_method_4_code_278 : decode prog_17_method_4_code 278 = .ok (.aload 8, 2) := by decide +kernel
theorem d_prog_17_method_4_code_280 : decode prog_17_method_4_code 280 = .ok (.iload 18, 2) := by decide +kernel
theorem d_prog_17_method_4_code_282 : decode prog_17_method_4_code 282 = .ok (.daload, 1) := by decide +kernel
theorem d_prog_17_method_4_code_283 : decode prog_17_method_4_code 283 = .ok (.dsub, 1) := by decide +kernel
theorem d_prog_17_method_4_code_284 : decode prog_17_method_4_code 284 = .ok (.dastore, 1) := by decide +kernel
theorem d_prog_17_method_4_code_285 : decode prog_17_method_4_code 285 = .ok (.dload 16, 2) := by decide +kernel
theorem d_prog_17_method_4_code_287 : decode prog_17_method_4_code 287 = .ok (.aload 15, 2) := by decide +kernel
theorem d_prog_17_method_4_code_289 : decode prog_17_method_4_code 289 = .ok (.iload 18, 2) := by decide +kernel
theorem d_prog_17_method_4_code_291 : decode prog_17_method_4_code 291 = .ok (.daload, 1) := by decide +kernel
theorem d_prog_17_method_4_code_292 : decode prog_17_method_4_code 292 = .ok (.aload_n 1, 1) := by decide +kernel
theorem d_prog_17_method_4_code_293 : decode prog_17_method_4_code 293 = .ok (.iload 18, 2) := by decide +kernel
theorem d_prog_17_method_4_code_295 : decode prog_17_method_4_code 295 = .ok (.daload, 1) := by decide +kernel
theorem d_prog_17_method_4_code_296 : decode prog_17_method_4_code 296 = .ok (.dmul, 1) := by decide +kernel
theorem d_prog_17_method_4_code_297 : decode prog_17_method_4_code 297 = .ok (.dadd, 1) := by decide +kernel
theorem d_prog_17_method_4_code_298 : decode prog_17_method_4_code 298 = .ok (.dstore 16, 2) := by decide +kernel
theorem d_prog_17_method_4_code_300 : decode prog_17_method_4_code 300 = .ok (.iinc 18 1, 3) := by decide +kernel
theorem d_prog_17_method_4_code_303 : decode prog_17_method_4_code 303 = .ok (.goto (-41), 3) := by decide +kernel
theorem d_prog_17_method_4_code_306 : decode prog_17_method_4_code 306 = .ok (.iconst 0, 1) := by decide +kernel
theorem d_prog_17_method_4_code_307 : decode prog_17_method_4_code 307 = .ok (.istore 18, 2) := by decide +kernel
theorem d_prog_17_method_4_code_309 : decode prog_17_method_4_code 309 = .ok (.iload 18, 2) := by decide +kernel
theorem d_prog_17_method_4_code_311 : decode prog_17_method_4_code 311 = .ok (.iload 5, 2) := by decide +kernel
theorem d_prog_17_method_4_code_313 : decode prog_17_method_4_code 313 = .ok (.if_icmp .ge 106, 3) := by decide +kernel
theorem d_prog_17_method_4_code_316 : decode prog_17_method_4_code 316 = .ok (.iload 18, 2) := by decide +kernel
theorem d_prog_17_method_4_code_318 : decode prog_17_method_4_code 318 = .ok (.istore 19, 2) := by decide +kernel
theorem d_prog_17_method_4_code_320 : decode prog_17_method_4_code 320 = .ok (.iload 19, 2) := by decide +kernel
theorem d_prog_17_method_4_code_322 : decode prog_17_method_4_code 322 = .ok (.iload 5, 2) := by decide +kernel
theorem d_prog_17_method_4_code_324 : decode prog_17_method_4_code 324 = .ok (.if_icmp .ge 89, 3) := by decide +kernel
theorem d_prog_17_method_4_code_327 : decode prog_17_method_4_code 327 = .ok (.aload_n 0, 1) := by decide +kernel
theorem d_prog_17_method_4_code_328 : decode prog_17_method_4_code 328 = .ok (.getfield 9, 3) := by decide +kernel
theorem d_prog_17_method_4_code_331 : decode prog_17_method_4_code 331 = .ok (.iload 18, 2) := by decide +kernel
theorem d_prog_17_method_4_code_333 : decode prog_17_method_4_code 333 = .ok (.aaload, 1) := by decide +kernel
theorem d_prog_17_method_4_code_334 : decode prog_17_method_4_code 334 = .ok (.iload 19, 2) := by decide +kernel
theorem d_prog_17_method_4_code_336 : decode prog_17_method_4_code 336 = .ok (.dup2, 1) := by decide +kernel
theorem d_prog_17_method_4_code_337 : decode prog_17_method_4_code 337 = .ok (.daload, 1) := by decide +kernel
theorem d_prog_17_method_4_code_338 : decode prog_17_method_4_code 338 = .ok (.aload 15, 2) := by decide +kernel
theorem d_prog_17_method_4_code_340 : decode prog_17_method_4_code 340 = .ok (.iload 18, 2) := by decide +kernel
theorem d_prog_17_method_4_code_342 : decode prog_17_method_4_code 342 = .ok (.daload, 1) := by decide +kernel
theorem d_prog_17_method_4_code_343 : decode prog_17_method_4_code 343 = .ok (.aload 6, 2) := by decide +kernel
theorem d_prog_17_method_4_code_345 : decode prog_17_method_4_code 345 = .ok (.iload 19, 2) := by decide +kernel
theorem d_prog_17_method_4_code_347 : decode prog_17_method_4_code 347 = .ok (.daload, 1) := by decide +kernel
theorem d_prog_17_method_4_code_348 : decode prog_17_method_4_code 348 = .ok (.dmul, 1) := by decide +kernel
theorem d_prog_17_method_4_code_349 : decode prog_17_method_4_code 349 = .ok (.aload 6, 2) := by decide +kernel
theorem d_prog_17_method_4_code_351 : decode prog_17_method_4_code 351 = .ok (.iload 18, 2) := by decide +kernel
theorem d_prog_17_method_4_code_353 : decode prog_17_method_4_code 353 = .ok (.daload, 1) := by decide +kernel
theorem d_prog_17_method_4_code_354 : decode prog_17_method_4_code 354 = .ok (.aload 15, 2) := by decide +kernel
theorem d_prog_17_method_4_code_356 : decode prog_17_method_4_code 356 = .ok (.iload 19, 2) := by decide +kernel
theorem d_prog_17_method_4_code_358 : decode prog_17_method_4_code 358 = .ok (.daload, 1) := by decide +kernel
theorem d_prog_17_method_4_code_359 : decode prog_17_method_4_code 359 = .ok (.dmul, 1) := by decide +kernel
theorem d_prog_17_method_4_code_360 : decode prog_17_method_4_code 360 = .ok (.dadd, 1) := by decide +kernel
theorem d_prog_17_method_4_code_361 : decode prog_17_method_4_code 361 = .ok (.dload 9, 2) := by decide +kernel
theorem d_prog_17_method_4_code_363 : decode prog_17_method_4_code 363 = .ok (.ddiv, 1) := by decide +kernel
theorem d_prog_17_method_4_code_364 : decode prog_17_method_4_code 364 = .ok (.dload 16, 2) := by decide +kernel
theorem d_prog_17_method_4_code_366 : decode prog_17_method_4_code 366 = .ok (.dload 9, 2) := by decide +kernel
theorem d_prog_17_method_4_code_368 : decode prog_17_method_4_code 368 = .ok (.ddiv, 1) := by decide +kernel
theorem d_prog_17_method_4_code_369 : decode prog_17_method_4_code 369 = .ok (.aload 6, 2) := by decide +kernel
theorem d_prog_17_method_4_code_371 : decode prog_17_method_4_code 371 = .ok (.iload 18, 2) := by decide +kernel
theorem d_prog_17_method_4_code_373 : decode prog_17_method_4_code 373 = .ok (.daload, 1) := by decide +kernel
theorem d_prog_17_method_4_code_374 : decode prog_17_method_4_code 374 = .ok (.dload 9, 2) := by decide +kernel
theorem d_prog_17_method_4_code_376 : decode prog_17_method_4_code 376 = .ok (.ddiv, 1) := by decide +kernel
theorem d_prog_17_method_4_code_377 : decode prog_17_method_4_code 377 = .ok (.dmul, 1) := by decide +kernel
theorem d_prog_17_method_4_code_378 : decode prog_17_method_4_code 378 = .ok (.aload 6, 2) := by decide +kernel
theorem d_prog_17_method_4_code_380 : decode prog_17_method_4_code 380 = .ok (.iload 19, 2) := by decide +kernel
theorem d_prog_17_method_4_code_382 : decode prog_17_method_4_code 382 = .ok (.daload, 1) := by decide +kernel
theorem d_prog_17_method_4_code_383 : decode prog_17_method_4_code 383 = .ok (.dmul, 1) := by decide +kernel
theorem d_prog_17_method_4_code_384 : decode prog_17_method_4_code 384 = .ok (.dsub, 1) := by decide +kernel
theorem d_prog_17_method_4_code_385 : decode prog_17_method_4_code 385 = .ok (.dadd, 1) := by decide +kernel
theorem d_prog_17_method_4_code_386 : decode prog_17_method_4_code 386 = .ok (.dastore, 1) := by decide +kernel
theorem d_prog_17_method_4_code_387 : decode prog_17_method_4_code 387 = .ok (.aload_n 0, 1) := by decide +kernel
theorem d_prog_17_method_4_code_388 : decode prog_17_method_4_code 388 = .ok (.getfield 9, 3) := by decide +kernel
theorem d_prog_17_method_4_code_391 : decode prog_17_method_4_code 391 = .ok (.iload 19, 2) := by decide +kernel
theorem d_prog_17_method_4_code_393 : decode prog_17_method_4_code 393 = .ok (.aaload, 1) := by decide +kernel
theorem d_prog_17_method_4_code_394 : decode prog_17_method_4_code 394 = .ok (.iload 18, 2) := by decide +kernel
theorem d_prog_17_method_4_code_396 : decode prog_17_method_4_code 396 = .ok (.aload_n 0, 1) := by decide +kernel
theorem d_prog_17_method_4_code_397 : decode prog_17_method_4_code 397 = .ok (.getfield 9, 3) := by decide +kernel
theorem d_prog_17_method_4_code_400 : decode prog_17_method_4_code 400 = .ok (.iload 18, 2) := by decide +kernel
theorem d_prog_17_method_4_code_402 : decode prog_17_method_4_code 402 = .ok (.aaload, 1) := by decide +kernel
theorem d_prog_17_method_4_code_403 : decode prog_17_method_4_code 403 = .ok (.iload 19, 2) := by decide +kernel
theorem d_prog_17_method_4_code_405 : decode prog_17_method_4_code 405 = .ok (.daload, 1) := by decide +kernel
theorem d_prog_17_method_4_code_406 : decode prog_17_method_4_code 406 = .ok (.dastore, 1) := by decide +kernel
theorem d_prog_17_method_4_code_407 : decode prog_17_method_4_code 407 = .ok (.iinc 19 1, 3) := by decide +kernel
theorem d_prog_17_method_4_code_410 : decode prog_17_method_4_code 410 = .ok (.goto (-90), 3) := by decide +kernel
theorem d_prog_17_method_4_code_413 : decode prog_17_method_4_code 413 = .ok (.iinc 18 1, 3) := by decide +kernel
theorem d_prog_17_method_4_code_416 : decode prog_17_method_4_code 416 = .ok (.goto (-107), 3) := by decide +kernel
theorem d_prog_17_method_4_code_419 : decode prog_17_method_4_code 419 = .ok (.return_, 1) := by decide +kernel
def rm_own_up1 : Room := { frames := 0, cells := 4, slots := 8, locals := 0 }
set_option maxRecDepth 65536 in
set_option maxHeartbeats 40000000 in
theorem own_up1 (l : Launch) (Z : State) (a0 : Array Value) (hw : ∀ d ∈ tables_1, d.before a0 Z = true) (a g r0 r1 qs qg qo qn : Addr) (a_ : Int) (xa : UInt64) (ha : own_DB 32768 a_ xa) (L : List (Addr × (Cell → Prop))) :
    own_Con l Z (⟨"com/example/residuum/residuum/SecondOrderTerm", "update", "([D[D[D[D)V"⟩ : MethodName) prog_17_method_4_code 20 none rm_own_up1 #[(.ref a), (.ref qs), (.ref qg), (.ref qo), (.ref qn)] ((a, own_ob Z "com/example/residuum/residuum/SecondOrderTerm" [("term", "[[D", (.ref g))]) :: (g, own_ar Z (.array .double) [(.ref r0), (.ref r1)]) :: (r0, own_ar Z .double [(.double 0), (.double 0)]) :: (r1, own_ar Z .double [(.double 0), (.double 0)]) :: (qs, own_ar Z .double [(.double 4607182418800017408), (.double 0)]) :: (qg, own_ar Z .double [(.double 4607182418800017408), (.double 0)]) :: (qo, own_ar Z .double [(.double xa), (.double 0)]) :: (qn, own_ar Z .double [(.double 0), (.double 0)]) :: L) (fun v M => ∃ x0 x1 x2, v = none ∧ own_DB 98304 (a_) x0 ∧ own_DB 0 (0) x1 ∧ own_DB 0 (0) x2 ∧ M = (a, own_ob Z "com/example/residuum/residuum/SecondOrderTerm" [("term", "[[D", (.ref g))]) :: (g, own_ar Z (.array .double) [(.ref r0), (.ref r1)]) :: (r0, own_ar Z .double [(.double x0), (.double x1)]) :: (r1, own_ar Z .double [(.double x1), (.double x2)]) :: (qs, own_ar Z .double [(.double 4607182418800017408), (.double 0)]) :: (qg, own_ar Z .double [(.double 4607182418800017408), (.double 0)]) :: (qo, own_ar Z .double [(.double xa), (.double 0)]) :: (qn, own_ar Z .double [(.double 0), (.double 0)]) :: L) := by
  refine own_con (ls := #[.val (.ref a), .val (.ref qs), .val (.ref qg), .val (.ref qo), .val (.ref qn), .unset, .unset, .unset, .unset, .unset, .unset, .unset, .unset, .unset, .unset, .unset, .unset, .unset, .unset, .unset]) (plainFor_of_name own_pn1) (fun m => own_ent m rfl) ?_
  intro p e s m below meth c T C X
  refine k_aloadN C X d_prog_17_method_4_code_0 rfl rfl rfl ?_
  refine k_arraylength C X d_prog_17_method_4_code_1 rfl (ix := 4) rfl (z := (2)) rfl ?_
  refine k_istore C X d_prog_17_method_4_code_2 rfl (l' := #[.val (.ref a), .val (.ref qs), .val (.ref qg), .val (.ref qo), .val (.ref qn), .val (.int (2)), .unset, .unset, .unset, .unset, .unset, .unset, .unset, .unset, .unset, .unset, .unset, .unset, .unset, .unset]) rfl ?_
  refine k_iload C X d_prog_17_method_4_code_4 rfl rfl ?_
  refine k_newarray C X d_prog_17_method_4_code_6 rfl (ty := .double) rfl (hw _ (List.mem_of_getElem? (i := 4) rfl)) (by decide) (cap := 2) (by decide) (by decide) (by decide) (by decide) (vs := [(.double 0), (.double 0)]) rfl (fun T o6 X => ?_)
  refine k_astore C X d_prog_17_method_4_code_8 rfl rfl (l' := #[.val (.ref a), .val (.ref qs), .val (.ref qg), .val (.ref qo), .val (.ref qn), .val (.int (2)), .val (.ref o6), .unset, .unset, .unset, .unset, .unset, .unset, .unset, .unset, .unset, .unset, .unset, .unset, .unset]) rfl ?_
  refine k_iload C X d_prog_17_method_4_code_10 rfl rfl ?_
  refine k_newarray C X d_prog_17_method_4_code_12 rfl (ty := .double) rfl (hw _ (List.mem_of_getElem? (i := 4) rfl)) (by decide) (cap := 2) (by decide) (by decide) (by decide) (by decide) (vs := [(.double 0), (.double 0)]) rfl (fun T o12 X => ?_)
  refine k_astore C X d_prog_17_method_4_code_14 rfl rfl (l' := #[.val (.ref a), .val (.ref qs), .val (.ref qg), .val (.ref qo), .val (.ref qn), .val (.int (2)), .val (.ref o6), .val (.ref o12), .unset, .unset, .unset, .unset, .unset, .unset, .unset, .unset, .unset, .unset, .unset, .unset]) rfl ?_
  refine k_iload C X d_prog_17_method_4_code_16 rfl rfl ?_
  refine k_newarray C X d_prog_17_method_4_code_18 rfl (ty := .double) rfl (hw _ (List.mem_of_getElem? (i := 4) rfl)) (by decide) (cap := 2) (by decide) (by decide) (by decide) (by decide) (vs := [(.double 0), (.double 0)]) rfl (fun T o18 X => ?_)
  refine k_astore C X d_prog_17_method_4_code_20 rfl rfl (l' := #[.val (.ref a), .val (.ref qs), .val (.ref qg), .val (.ref qo), .val (.ref qn), .val (.int (2)), .val (.ref o6), .val (.ref o12), .val (.ref o18), .unset, .unset, .unset, .unset, .unset, .unset, .unset, .unset, .unset, .unset, .unset]) rfl ?_
  refine k_dconst0 C X d_prog_17_method_4_code_22 rfl ?_
  refine k_dstore C X d_prog_17_method_4_code_23 rfl (l' := #[.val (.ref a), .val (.ref qs), .val (.ref qg), .val (.ref qo), .val (.ref qn), .val (.int (2)), .val (.ref o6), .val (.ref o12), .val (.ref o18), .val (.double 0), .second, .unset, .unset, .unset, .unset, .unset, .unset, .unset, .unset, .unset]) rfl ?_
  refine k_dconst0 C X d_prog_17_method_4_code_25 rfl ?_
  refine k_dstore C X d_prog_17_method_4_code_26 rfl (l' := #[.val (.ref a), .val (.ref qs), .val (.ref qg), .val (.ref qo), .val (.ref qn), .val (.int (2)), .val (.ref o6), .val (.ref o12), .val (.ref o18), .val (.double 0), .second, .val (.double 0), .second, .unset, .unset, .unset, .unset, .unset, .unset, .unset]) rfl ?_
  refine k_dconst0 C X d_prog_17_method_4_code_28 rfl ?_
  refine k_dstore C X d_prog_17_method_4_code_29 rfl (l' := #[.val (.ref a), .val (.ref qs), .val (.ref qg), .val (.ref qo), .val (.ref qn), .val (.int (2)), .val (.ref o6), .val (.ref o12), .val (.ref o18), .val (.double 0), .second, .val (.double 0), .second, .val (.double 0), .second, .unset, .unset, .unset, .unset, .unset]) rfl ?_
  refine k_iconst C X d_prog_17_method_4_code_31 rfl (v := 0) rfl ?_
  refine k_istore C X d_prog_17_method_4_code_32 rfl (l' := #[.val (.ref a), .val (.ref qs), .val (.ref qg), .val (.ref qo), .val (.ref qn), .val (.int (2)), .val (.ref o6), .val (.ref o12), .val (.ref o18), .val (.double 0), .second, .val (.double 0), .second, .val (.double 0), .second, .val (.int (0)), .unset, .unset, .unset, .unset]) rfl ?_
  refine k_iload C X d_prog_17_method_4_code_34 rfl rfl ?_
  refine k_iload C X d_prog_17_method_4_code_36 rfl rfl ?_
  refine k_icmp_ge C X d_prog_17_method_4_code_38 rfl (tpc := 161) rfl (fun hc => (absurd hc (by decide) : False).elim) (fun _ => ?_)
  refine k_aload C X d_prog_17_method_4_code_41 rfl rfl rfl ?_
  refine k_iload C X d_prog_17_method_4_code_43 rfl rfl ?_
  refine k_aloadN C X d_prog_17_method_4_code_45 rfl rfl rfl ?_
  refine k_iload C X d_prog_17_method_4_code_46 rfl rfl ?_
  refine k_daload C X d_prog_17_method_4_code_48 rfl (ix := 8) (i := 0) rfl (by decide) (by decide) rfl ?_
  refine k_aload C X d_prog_17_method_4_code_49 rfl rfl rfl ?_
  refine k_iload C X d_prog_17_method_4_code_51 rfl rfl ?_
  refine k_daload C X d_prog_17_method_4_code_53 rfl (ix := 10) (i := 0) rfl (by decide) (by decide) rfl ?_
  refine k_dsub C X d_prog_17_method_4_code_54 rfl ((own_DB.sub own_DB.o own_DB.z (r := ((1))) (by omega) (D := 1) rfl (by decide)).nn) (fun d54 ed54 => ?_)
  have i_d54 : own_DB 1 ((1)) d54 := by rw [ed54]; exact own_DB.sub own_DB.o own_DB.z (r := ((1))) (by omega) (D := 1) rfl (by decide)
  refine k_dastore C X d_prog_17_method_4_code_55 rfl (ix := 2) (i := 0) rfl (by decide) (by decide) (Nat.le_of_ble_eq_true rfl) (vs' := [(.double d54), (.double 0)]) rfl (L' := (o18, own_ar Z .double [(.double 0), (.double 0)]) :: (o12, own_ar Z .double [(.double 0), (.double 0)]) :: (o6, own_ar Z .double [(.double d54), (.double 0)]) :: (a, own_ob Z "com/example/residuum/residuum/SecondOrderTerm" [("term", "[[D", (.ref g))]) :: (g, own_ar Z (.array .double) [(.ref r0), (.ref r1)]) :: (r0, own_ar Z .double [(.double 0), (.double 0)]) :: (r1, own_ar Z .double [(.double 0), (.double 0)]) :: (qs, own_ar Z .double [(.double 4607182418800017408), (.double 0)]) :: (qg, own_ar Z .double [(.double 4607182418800017408), (.double 0)]) :: (qo, own_ar Z .double [(.double xa), (.double 0)]) :: (qn, own_ar Z .double [(.double 0), (.double 0)]) :: L) rfl (fun T X => ?_)
  refine k_aload C X d_prog_17_method_4_code_56 rfl rfl rfl ?_
  refine k_iload C X d_prog_17_method_4_code_58 rfl rfl ?_
  refine k_aloadN C X d_prog_17_method_4_code_60 rfl rfl rfl ?_
  refine k_iload C X d_prog_17_method_4_code_61 rfl rfl ?_
  refine k_daload C X d_prog_17_method_4_code_63 rfl (ix := 9) (i := 0) rfl (by decide) (by decide) rfl ?_
  refine k_aload C X d_prog_17_method_4_code_64 rfl rfl rfl ?_
  refine k_iload C X d_prog_17_method_4_code_66 rfl rfl ?_
  refine k_daload C X d_prog_17_method_4_code_68 rfl (ix := 10) (i := 0) rfl (by decide) (by decide) rfl ?_
  refine k_dsub C X d_prog_17_method_4_code_69 rfl ((own_DB.sub ha own_DB.z (r := (a_)) (by omega) (D := 32768) rfl (by decide)).nn) (fun d69 ed69 => ?_)
  have i_d69 : own_DB 32768 (a_) d69 := by rw [ed69]; exact own_DB.sub ha own_DB.z (r := (a_)) (by omega) (D := 32768) rfl (by decide)
  refine k_dastore C X d_prog_17_method_4_code_70 rfl (ix := 1) (i := 0) rfl (by decide) (by decide) (Nat.le_of_ble_eq_true rfl) (vs' := [(.double d69), (.double 0)]) rfl (L' := (o18, own_ar Z .double [(.double 0), (.double 0)]) :: (o12, own_ar Z .double [(.double d69), (.double 0)]) :: (o6, own_ar Z .double [(.double d54), (.double 0)]) :: (a, own_ob Z "com/example/residuum/residuum/SecondOrderTerm" [("term", "[[D", (.ref g))]) :: (g, own_ar Z (.array .double) [(.ref r0), (.ref r1)]) :: (r0, own_ar Z .double [(.double 0), (.double 0)]) :: (r1, own_ar Z .double [(.double 0), (.double 0)]) :: (qs, own_ar Z .double [(.double 4607182418800017408), (.double 0)]) :: (qg, own_ar Z .double [(.double 4607182418800017408), (.double 0)]) :: (qo, own_ar Z .double [(.double xa), (.double 0)]) :: (qn, own_ar Z .double [(.double 0), (.double 0)]) :: L) rfl (fun T X => ?_)
  refine k_iconst C X d_prog_17_method_4_code_71 rfl (v := 0) rfl ?_
  refine k_istore C X d_prog_17_method_4_code_72 rfl (l' := #[.val (.ref a), .val (.ref qs), .val (.ref qg), .val (.ref qo), .val (.ref qn), .val (.int (2)), .val (.ref o6), .val (.ref o12), .val (.ref o18), .val (.double 0), .second, .val (.double 0), .second, .val (.double 0), .second, .val (.int (0)), .val (.int (0)), .unset, .unset, .unset]) rfl ?_
  refine k_iload C X d_prog_17_method_4_code_74 rfl rfl ?_
  refine k_iload C X d_prog_17_method_4_code_76 rfl rfl ?_
  refine k_icmp_ge C X d_prog_17_method_4_code_78 rfl (tpc := 110) rfl (fun hc => (absurd hc (by decide) : False).elim) (fun _ => ?_)
  refine k_aload C X d_prog_17_method_4_code_81 rfl rfl rfl ?_
  refine k_iload C X d_prog_17_method_4_code_83 rfl rfl ?_
  refine k_dup2 C X d_prog_17_method_4_code_85 rfl rfl rfl ?_
  refine k_daload C X d_prog_17_method_4_code_86 rfl (ix := 0) (i := 0) rfl (by decide) (by decide) rfl ?_
  refine k_aloadN C X d_prog_17_method_4_code_87 rfl rfl rfl ?_
  refine k_getfield C X d_prog_17_method_4_code_88 rfl (host := "") (Or.inl (hw _ (List.mem_of_getElem? (i := 16) rfl))) (own_fL (ix := 3) (j := 0) rfl rfl) (fun T X => ?_)
  refine k_iload C X d_prog_17_method_4_code_91 rfl rfl ?_
  refine k_aaload C X d_prog_17_method_4_code_93 rfl (ix := 4) (i := 0) rfl rfl (by decide) (by decide) rfl ?_
  refine k_iload C X d_prog_17_method_4_code_94 rfl rfl ?_
  refine k_daload C X d_prog_17_method_4_code_96 rfl (ix := 5) (i := 0) rfl (by decide) (by decide) rfl ?_
  refine k_aloadN C X d_prog_17_method_4_code_97 rfl rfl rfl ?_
  refine k_iload C X d_prog_17_method_4_code_98 rfl rfl ?_
  refine k_daload C X d_prog_17_method_4_code_100 rfl (ix := 7) (i := 0) rfl (by decide) (by decide) rfl ?_
  refine k_dmul C X d_prog_17_method_4_code_101 rfl ((own_DB.mul own_DB.z own_DB.o (r := (0)) (by omega) (D := 0) rfl (by decide)).nn) (fun d101 ed101 => ?_)
  have i_d101 : own_DB 0 (0) d101 := by rw [ed101]; exact own_DB.mul own_DB.z own_DB.o (r := (0)) (by omega) (D := 0) rfl (by decide)
  refine k_dadd C X d_prog_17_method_4_code_102 rfl ((own_DB.add own_DB.z i_d101 (r := (0)) (by omega) (D := 0) rfl (by decide)).nn) (fun d102 ed102 => ?_)
  have i_d102 : own_DB 0 (0) d102 := by rw [ed102]; exact own_DB.add own_DB.z i_d101 (r := (0)) (by omega) (D := 0) rfl (by decide)
  refine k_dastore C X d_prog_17_method_4_code_103 rfl (ix := 0) (i := 0) rfl (by decide) (by decide) (Nat.le_of_ble_eq_true rfl) (vs' := [(.double d102), (.double 0)]) rfl (L' := (o18, own_ar Z .double [(.double d102), (.double 0)]) :: (o12, own_ar Z .double [(.double d69), (.double 0)]) :: (o6, own_ar Z .double [(.double d54), (.double 0)]) :: (a, own_ob Z "com/example/residuum/residuum/SecondOrderTerm" [("term", "[[D", (.ref g))]) :: (g, own_ar Z (.array .double) [(.ref r0), (.ref r1)]) :: (r0, own_ar Z .double [(.double 0), (.double 0)]) :: (r1, own_ar Z .double [(.double 0), (.double 0)]) :: (qs, own_ar Z .double [(.double 4607182418800017408), (.double 0)]) :: (qg, own_ar Z .double [(.double 4607182418800017408), (.double 0)]) :: (qo, own_ar Z .double [(.double xa), (.double 0)]) :: (qn, own_ar Z .double [(.double 0), (.double 0)]) :: L) rfl (fun T X => ?_)
  refine k_iinc C X d_prog_17_method_4_code_104 rfl (v := 1) rfl rfl (l' := #[.val (.ref a), .val (.ref qs), .val (.ref qg), .val (.ref qo), .val (.ref qn), .val (.int (2)), .val (.ref o6), .val (.ref o12), .val (.ref o18), .val (.double 0), .second, .val (.double 0), .second, .val (.double 0), .second, .val (.int (0)), .val (.int (1)), .unset, .unset, .unset]) rfl ?_
  refine k_goto C X d_prog_17_method_4_code_107 (tpc := 74) rfl ?_
  refine k_iload C X d_prog_17_method_4_code_74 rfl rfl ?_
  refine k_iload C X d_prog_17_method_4_code_76 rfl rfl ?_
  refine k_icmp_ge C X d_prog_17_method_4_code_78 rfl (tpc := 110) rfl (fun hc => (absurd hc (by decide) : False).elim) (fun _ => ?_)
  refine k_aload C X d_prog_17_method_4_code_81 rfl rfl rfl ?_
  refine k_iload C X d_prog_17_method_4_code_83 rfl rfl ?_
  refine k_dup2 C X d_prog_17_method_4_code_85 rfl rfl rfl ?_
  refine k_daload C X d_prog_17_method_4_code_86 rfl (ix := 0) (i := 0) rfl (by decide) (by decide) rfl ?_
  refine k_aloadN C X d_prog_17_method_4_code_87 rfl rfl rfl ?_
  refine k_getfield C X d_prog_17_method_4_code_88 rfl (host := "") (Or.inl (hw _ (List.mem_of_getElem? (i := 16) rfl))) (own_fL (ix := 3) (j := 0) rfl rfl) (fun T X => ?_)
  refine k_iload C X d_prog_17_method_4_code_91 rfl rfl ?_
  refine k_aaload C X d_prog_17_method_4_code_93 rfl (ix := 4) (i := 0) rfl rfl (by decide) (by decide) rfl ?_
  refine k_iload C X d_prog_17_method_4_code_94 rfl rfl ?_
  refine k_daload C X d_prog_17_method_4_code_96 rfl (ix := 5) (i := 1) rfl (by decide) (by decide) rfl ?_
  refine k_aloadN C X d_prog_17_method_4_code_97 rfl rfl rfl ?_
  refine k_iload C X d_prog_17_method_4_code_98 rfl rfl ?_
  refine k_daload C X d_prog_17_method_4_code_100 rfl (ix := 7) (i := 1) rfl (by decide) (by decide) rfl ?_
  refine k_dmul C X d_prog_17_method_4_code_101 rfl ((own_DB.mul own_DB.z own_DB.z (r := (0)) (by omega) (D := 0) rfl (by decide)).nn) (fun d101_1 ed101_1 => ?_)
  have i_d101_1 : own_DB 0 (0) d101_1 := by rw [ed101_1]; exact own_DB.mul own_DB.z own_DB.z (r := (0)) (by omega) (D := 0) rfl (by decide)
  refine k_dadd C X d_prog_17_method_4_code_102 rfl ((own_DB.add i_d102 i_d101_1 (r := (0)) (by omega) (D := 0) rfl (by decide)).nn) (fun d102_2 ed102_2 => ?_)
  have i_d102_2 : own_DB 0 (0) d102_2 := by rw [ed102_2]; exact own_DB.add i_d102 i_d101_1 (r := (0)) (by omega) (D := 0) rfl (by decide)
  refine k_dastore C X d_prog_17_method_4_code_103 rfl (ix := 0) (i := 0) rfl (by decide) (by decide) (Nat.le_of_ble_eq_true rfl) (vs' := [(.double d102_2), (.double 0)]) rfl (L' := (o18, own_ar Z .double [(.double d102_2), (.double 0)]) :: (o12, own_ar Z .double [(.double d69), (.double 0)]) :: (o6, own_ar Z .double [(.double d54), (.double 0)]) :: (a, own_ob Z "com/example/residuum/residuum/SecondOrderTerm" [("term", "[[D", (.ref g))]) :: (g, own_ar Z (.array .double) [(.ref r0), (.ref r1)]) :: (r0, own_ar Z .double [(.double 0), (.double 0)]) :: (r1, own_ar Z .double [(.double 0), (.double 0)]) :: (qs, own_ar Z .double [(.double 4607182418800017408), (.double 0)]) :: (qg, own_ar Z .double [(.double 4607182418800017408), (.double 0)]) :: (qo, own_ar Z .double [(.double xa), (.double 0)]) :: (qn, own_ar Z .double [(.double 0), (.double 0)]) :: L) rfl (fun T X => ?_)
  refine k_iinc C X d_prog_17_method_4_code_104 rfl (v := 1) rfl rfl (l' := #[.val (.ref a), .val (.ref qs), .val (.ref qg), .val (.ref qo), .val (.ref qn), .val (.int (2)), .val (.ref o6), .val (.ref o12), .val (.ref o18), .val (.double 0), .second, .val (.double 0), .second, .val (.double 0), .second, .val (.int (0)), .val (.int (2)), .unset, .unset, .unset]) rfl ?_
  refine k_goto C X d_prog_17_method_4_code_107 (tpc := 74) rfl ?_
  refine k_iload C X d_prog_17_method_4_code_74 rfl rfl ?_
  refine k_iload C X d_prog_17_method_4_code_76 rfl rfl ?_
  refine k_icmp_ge C X d_prog_17_method_4_code_78 rfl (tpc := 110) rfl (fun _ => ?_) (fun hc => (absurd hc (by decide) : False).elim)
  refine k_dload C X d_prog_17_method_4_code_110 rfl rfl ?_
  refine k_aload C X d_prog_17_method_4_code_112 rfl rfl rfl ?_
  refine k_iload C X d_prog_17_method_4_code_114 rfl rfl ?_
  refine k_daload C X d_prog_17_method_4_code_116 rfl (ix := 2) (i := 0) rfl (by decide) (by decide) rfl ?_
  refine k_aloadN C X d_prog_17_method_4_code_117 rfl rfl rfl ?_
  refine k_iload C X d_prog_17_method_4_code_118 rfl rfl ?_
  refine k_daload C X d_prog_17_method_4_code_120 rfl (ix := 7) (i := 0) rfl (by decide) (by decide) rfl ?_
  refine k_dmul C X d_prog_17_method_4_code_121 rfl ((own_DB.mul i_d54 own_DB.o (r := ((1))) (by omega) (D := 1) rfl (by decide)).nn) (fun d121 ed121 => ?_)
  have i_d121 : own_DB 1 ((1)) d121 := by rw [ed121]; exact own_DB.mul i_d54 own_DB.o (r := ((1))) (by omega) (D := 1) rfl (by decide)
  refine k_dadd C X d_prog_17_method_4_code_122 rfl ((own_DB.add own_DB.z i_d121 (r := ((1))) (by omega) (D := 1) rfl (by decide)).nn) (fun d122 ed122 => ?_)
  have i_d122 : own_DB 1 ((1)) d122 := by rw [ed122]; exact own_DB.add own_DB.z i_d121 (r := ((1))) (by omega) (D := 1) rfl (by decide)
  refine k_dstore C X d_prog_17_method_4_code_123 rfl (l' := #[.val (.ref a), .val (.ref qs), .val (.ref qg), .val (.ref qo), .val (.ref qn), .val (.int (2)), .val (.ref o6), .val (.ref o12), .val (.ref o18), .val (.double d122), .second, .val (.double 0), .second, .val (.double 0), .second, .val (.int (0)), .val (.int (2)), .unset, .unset, .unset]) rfl ?_
  refine k_dload C X d_prog_17_method_4_code_125 rfl rfl ?_
  refine k_aloadN C X d_prog_17_method_4_code_127 rfl rfl rfl ?_
  refine k_iload C X d_prog_17_method_4_code_128 rfl rfl ?_
  refine k_daload C X d_prog_17_method_4_code_130 rfl (ix := 7) (i := 0) rfl (by decide) (by decide) rfl ?_
  refine k_aload C X d_prog_17_method_4_code_131 rfl rfl rfl ?_
  refine k_iload C X d_prog_17_method_4_code_133 rfl rfl ?_
  refine k_daload C X d_prog_17_method_4_code_135 rfl (ix := 1) (i := 0) rfl (by decide) (by decide) rfl ?_
  refine k_dmul C X d_prog_17_method_4_code_136 rfl ((own_DB.mul own_DB.o i_d69 (r := (a_)) (by omega) (D := 32768) rfl (by decide)).nn) (fun d136 ed136 => ?_)
  have i_d136 : own_DB 32768 (a_) d136 := by rw [ed136]; exact own_DB.mul own_DB.o i_d69 (r := (a_)) (by omega) (D := 32768) rfl (by decide)
  refine k_dadd C X d_prog_17_method_4_code_137 rfl ((own_DB.add own_DB.z i_d136 (r := (a_)) (by omega) (D := 32768) rfl (by decide)).nn) (fun d137 ed137 => ?_)
  have i_d137 : own_DB 32768 (a_) d137 := by rw [ed137]; exact own_DB.add own_DB.z i_d136 (r := (a_)) (by omega) (D := 32768) rfl (by decide)
  refine k_dstore C X d_prog_17_method_4_code_138 rfl (l' := #[.val (.ref a), .val (.ref qs), .val (.ref qg), .val (.ref qo), .val (.ref qn), .val (.int (2)), .val (.ref o6), .val (.ref o12), .val (.ref o18), .val (.double d122), .second, .val (.double d137), .second, .val (.double 0), .second, .val (.int (0)), .val (.int (2)), .unset, .unset, .unset]) rfl ?_
  refine k_dload C X d_prog_17_method_4_code_140 rfl rfl ?_
  refine k_aloadN C X d_prog_17_method_4_code_142 rfl rfl rfl ?_
  refine k_iload C X d_prog_17_method_4_code_143 rfl rfl ?_
  refine k_daload C X d_prog_17_method_4_code_145 rfl (ix := 7) (i := 0) rfl (by decide) (by decide) rfl ?_
  refine k_aload C X d_prog_17_method_4_code_146 rfl rfl rfl ?_
  refine k_iload C X d_prog_17_method_4_code_148 rfl rfl ?_
  refine k_daload C X d_prog_17_method_4_code_150 rfl (ix := 0) (i := 0) rfl (by decide) (by decide) rfl ?_
  refine k_dmul C X d_prog_17_method_4_code_151 rfl ((own_DB.mul own_DB.o i_d102_2 (r := (0)) (by omega) (D := 0) rfl (by decide)).nn) (fun d151 ed151 => ?_)
  have i_d151 : own_DB 0 (0) d151 := by rw [ed151]; exact own_DB.mul own_DB.o i_d102_2 (r := (0)) (by omega) (D := 0) rfl (by decide)
  refine k_dadd C X d_prog_17_method_4_code_152 rfl ((own_DB.add own_DB.z i_d151 (r := (0)) (by omega) (D := 0) rfl (by decide)).nn) (fun d152 ed152 => ?_)
  have i_d152 : own_DB 0 (0) d152 := by rw [ed152]; exact own_DB.add own_DB.z i_d151 (r := (0)) (by omega) (D := 0) rfl (by decide)
  refine k_dstore C X d_prog_17_method_4_code_153 rfl (l' := #[.val (.ref a), .val (.ref qs), .val (.ref qg), .val (.ref qo), .val (.ref qn), .val (.int (2)), .val (.ref o6), .val (.ref o12), .val (.ref o18), .val (.double d122), .second, .val (.double d137), .second, .val (.double d152), .second, .val (.int (0)), .val (.int (2)), .unset, .unset, .unset]) rfl ?_
  refine k_iinc C X d_prog_17_method_4_code_155 rfl (v := 1) rfl rfl (l' := #[.val (.ref a), .val (.ref qs), .val (.ref qg), .val (.ref qo), .val (.ref qn), .val (.int (2)), .val (.ref o6), .val (.ref o12), .val (.ref o18), .val (.double d122), .second, .val (.double d137), .second, .val (.double d152), .second, .val (.int (1)), .val (.int (2)), .unset, .unset, .unset]) rfl ?_
  refine k_goto C X d_prog_17_method_4_code_158 (tpc := 34) rfl ?_
  refine k_iload C X d_prog_17_method_4_code_34 rfl rfl ?_
  refine k_iload C X d_prog_17_method_4_code_36 rfl rfl ?_
  refine k_icmp_ge C X d_prog_17_method_4_code_38 rfl (tpc := 161) rfl (fun hc => (absurd hc (by decide) : False).elim) (fun _ => ?_)
  refine k_aload C X d_prog_17_method_4_code_41 rfl rfl rfl ?_
  refine k_iload C X d_prog_17_method_4_code_43 rfl rfl ?_
  refine k_aloadN C X d_prog_17_method_4_code_45 rfl rfl rfl ?_
  refine k_iload C X d_prog_17_method_4_code_46 rfl rfl ?_
  refine k_daload C X d_prog_17_method_4_code_48 rfl (ix := 8) (i := 1) rfl (by decide) (by decide) rfl ?_
  refine k_aload C X d_prog_17_method_4_code_49 rfl rfl rfl ?_
  refine k_iload C X d_prog_17_method_4_code_51 rfl rfl ?_
  refine k_daload C X d_prog_17_method_4_code_53 rfl (ix := 10) (i := 1) rfl (by decide) (by decide) rfl ?_
  refine k_dsub C X d_prog_17_method_4_code_54 rfl ((own_DB.sub own_DB.z own_DB.z (r := (0)) (by omega) (D := 0) rfl (by decide)).nn) (fun d54_3 ed54_3 => ?_)
  have i_d54_3 : own_DB 0 (0) d54_3 := by rw [ed54_3]; exact own_DB.sub own_DB.z own_DB.z (r := (0)) (by omega) (D := 0) rfl (by decide)
  refine k_dastore C X d_prog_17_method_4_code_55 rfl (ix := 2) (i := 1) rfl (by decide) (by decide) (Nat.le_of_ble_eq_true rfl) (vs' := [(.double d54), (.double d54_3)]) rfl (L' := (o18, own_ar Z .double [(.double d102_2), (.double 0)]) :: (o12, own_ar Z .double [(.double d69), (.double 0)]) :: (o6, own_ar Z .double [(.double d54), (.double d54_3)]) :: (a, own_ob Z "com/example/residuum/residuum/SecondOrderTerm" [("term", "[[D", (.ref g))]) :: (g, own_ar Z (.array .double) [(.ref r0), (.ref r1)]) :: (r0, own_ar Z .double [(.double 0), (.double 0)]) :: (r1, own_ar Z .double [(.double 0), (.double 0)]) :: (qs, own_ar Z .double [(.double 4607182418800017408), (.double 0)]) :: (qg, own_ar Z .double [(.double 4607182418800017408), (.double 0)]) :: (qo, own_ar Z .double [(.double xa), (.double 0)]) :: (qn, own_ar Z .double [(.double 0), (.double 0)]) :: L) rfl (fun T X => ?_)
  refine k_aload C X d_prog_17_method_4_code_56 rfl rfl rfl ?_
  refine k_iload C X d_prog_17_method_4_code_58 rfl rfl ?_
  refine k_aloadN C X d_prog_17_method_4_code_60 rfl rfl rfl ?_
  refine k_iload C X d_prog_17_method_4_code_61 rfl rfl ?_
  refine k_daload C X d_prog_17_method_4_code_63 rfl (ix := 9) (i := 1) rfl (by decide) (by decide) rfl ?_
  refine k_aload C X d_prog_17_method_4_code_64 rfl rfl rfl ?_
  refine k_iload C X d_prog_17_method_4_code_66 rfl rfl ?_
  refine k_daload C X d_prog_17_method_4_code_68 rfl (ix := 10) (i := 1) rfl (by decide) (by decide) rfl ?_
  refine k_dsub C X d_prog_17_method_4_code_69 rfl ((own_DB.sub own_DB.z own_DB.z (r := (0)) (by omega) (D := 0) rfl (by decide)).nn) (fun d69_4 ed69_4 => ?_)
  have i_d69_4 : own_DB 0 (0) d69_4 := by rw [ed69_4]; exact own_DB.sub own_DB.z own_DB.z (r := (0)) (by omega) (D := 0) rfl (by decide)
  refine k_dastore C X d_prog_17_method_4_code_70 rfl (ix := 1) (i := 1) rfl (by decide) (by decide) (Nat.le_of_ble_eq_true rfl) (vs' := [(.double d69), (.double d69_4)]) rfl (L' := (o18, own_ar Z .double [(.double d102_2), (.double 0)]) :: (o12, own_ar Z .double [(.double d69), (.double d69_4)]) :: (o6, own_ar Z .double [(.double d54), (.double d54_3)]) :: (a, own_ob Z "com/example/residuum/residuum/SecondOrderTerm" [("term", "[[D", (.ref g))]) :: (g, own_ar Z (.array .double) [(.ref r0), (.ref r1)]) :: (r0, own_ar Z .double [(.double 0), (.double 0)]) :: (r1, own_ar Z .double [(.double 0), (.double 0)]) :: (qs, own_ar Z .double [(.double 4607182418800017408), (.double 0)]) :: (qg, own_ar Z .double [(.double 4607182418800017408), (.double 0)]) :: (qo, own_ar Z .double [(.double xa), (.double 0)]) :: (qn, own_ar Z .double [(.double 0), (.double 0)]) :: L) rfl (fun T X => ?_)
  refine k_iconst C X d_prog_17_method_4_code_71 rfl (v := 0) rfl ?_
  refine k_istore C X d_prog_17_method_4_code_72 rfl (l' := #[.val (.ref a), .val (.ref qs), .val (.ref qg), .val (.ref qo), .val (.ref qn), .val (.int (2)), .val (.ref o6), .val (.ref o12), .val (.ref o18), .val (.double d122), .second, .val (.double d137), .second, .val (.double d152), .second, .val (.int (1)), .val (.int (0)), .unset, .unset, .unset]) rfl ?_
  refine k_iload C X d_prog_17_method_4_code_74 rfl rfl ?_
  refine k_iload C X d_prog_17_method_4_code_76 rfl rfl ?_
  refine k_icmp_ge C X d_prog_17_method_4_code_78 rfl (tpc := 110) rfl (fun hc => (absurd hc (by decide) : False).elim) (fun _ => ?_)
  refine k_aload C X d_prog_17_method_4_code_81 rfl rfl rfl ?_
  refine k_iload C X d_prog_17_method_4_code_83 rfl rfl ?_
  refine k_dup2 C X d_prog_17_method_4_code_85 rfl rfl rfl ?_
  refine k_daload C X d_prog_17_method_4_code_86 rfl (ix := 0) (i := 1) rfl (by decide) (by decide) rfl ?_
  refine k_aloadN C X d_prog_17_method_4_code_87 rfl rfl rfl ?_
  refine k_getfield C X d_prog_17_method_4_code_88 rfl (host := "") (Or.inl (hw _ (List.mem_of_getElem? (i := 16) rfl))) (own_fL (ix := 3) (j := 0) rfl rfl) (fun T X => ?_)
  refine k_iload C X d_prog_17_method_4_code_91 rfl rfl ?_
  refine k_aaload C X d_prog_17_method_4_code_93 rfl (ix := 4) (i := 1) rfl rfl (by decide) (by decide) rfl ?_
  refine k_iload C X d_prog_17_method_4_code_94 rfl rfl ?_
  refine k_daload C X d_prog_17_method_4_code_96 rfl (ix := 6) (i := 0) rfl (by decide) (by decide) rfl ?_
  refine k_aloadN C X d_prog_17_method_4_code_97 rfl rfl rfl ?_
  refine k_iload C X d_prog_17_method_4_code_98 rfl rfl ?_
  refine k_daload C X d_prog_17_method_4_code_100 rfl (ix := 7) (i := 0) rfl (by decide) (by decide) rfl ?_
  refine k_dmul C X d_prog_17_method_4_code_101 rfl ((own_DB.mul own_DB.z own_DB.o (r := (0)) (by omega) (D := 0) rfl (by decide)).nn) (fun d101_5 ed101_5 => ?_)
  have i_d101_5 : own_DB 0 (0) d101_5 := by rw [ed101_5]; exact own_DB.mul own_DB.z own_DB.o (r := (0)) (by omega) (D := 0) rfl (by decide)
  refine k_dadd C X d_prog_17_method_4_code_102 rfl ((own_DB.add own_DB.z i_d101_5 (r := (0)) (by omega) (D := 0) rfl (by decide)).nn) (fun d102_6 ed102_6 => ?_)
  have i_d102_6 : own_DB 0 (0) d102_6 := by rw [ed102_6]; exact own_DB.add own_DB.z i_d101_5 (r := (0)) (by omega) (D := 0) rfl (by decide)
  refine k_dastore C X d_prog_17_method_4_code_103 rfl (ix := 0) (i := 1) rfl (by decide) (by decide) (Nat.le_of_ble_eq_true rfl) (vs' := [(.double d102_2), (.double d102_6)]) rfl (L' := (o18, own_ar Z .double [(.double d102_2), (.double d102_6)]) :: (o12, own_ar Z .double [(.double d69), (.double d69_4)]) :: (o6, own_ar Z .double [(.double d54), (.double d54_3)]) :: (a, own_ob Z "com/example/residuum/residuum/SecondOrderTerm" [("term", "[[D", (.ref g))]) :: (g, own_ar Z (.array .double) [(.ref r0), (.ref r1)]) :: (r0, own_ar Z .double [(.double 0), (.double 0)]) :: (r1, own_ar Z .double [(.double 0), (.double 0)]) :: (qs, own_ar Z .double [(.double 4607182418800017408), (.double 0)]) :: (qg, own_ar Z .double [(.double 4607182418800017408), (.double 0)]) :: (qo, own_ar Z .double [(.double xa), (.double 0)]) :: (qn, own_ar Z .double [(.double 0), (.double 0)]) :: L) rfl (fun T X => ?_)
  refine k_iinc C X d_prog_17_method_4_code_104 rfl (v := 1) rfl rfl (l' := #[.val (.ref a), .val (.ref qs), .val (.ref qg), .val (.ref qo), .val (.ref qn), .val (.int (2)), .val (.ref o6), .val (.ref o12), .val (.ref o18), .val (.double d122), .second, .val (.double d137), .second, .val (.double d152), .second, .val (.int (1)), .val (.int (1)), .unset, .unset, .unset]) rfl ?_
  refine k_goto C X d_prog_17_method_4_code_107 (tpc := 74) rfl ?_
  refine k_iload C X d_prog_17_method_4_code_74 rfl rfl ?_
  refine k_iload C X d_prog_17_method_4_code_76 rfl rfl ?_
  refine k_icmp_ge C X d_prog_17_method_4_code_78 rfl (tpc := 110) rfl (fun hc => (absurd hc (by decide) : False).elim) (fun _ => ?_)
  refine k_aload C X d_prog_17_method_4_code_81 rfl rfl rfl ?_
  refine k_iload C X d_prog_17_method_4_code_83 rfl rfl ?_
  refine k_dup2 C X d_prog_17_method_4_code_85 rfl rfl rfl ?_
  refine k_daload C X d_prog_17_method_4_code_86 rfl (ix := 0) (i := 1) rfl (by decide) (by decide) rfl ?_
  refine k_aloadN C X d_prog_17_method_4_code_87 rfl rfl rfl ?_
  refine k_getfield C X d_prog_17_method_4_code_88 rfl (host := "") (Or.inl (hw _ (List.mem_of_getElem? (i := 16) rfl))) (own_fL (ix := 3) (j := 0) rfl rfl) (fun T X => ?_)
  refine k_iload C X d_prog_17_method_4_code_91 rfl rfl ?_
  refine k_aaload C X d_prog_17_method_4_code_93 rfl (ix := 4) (i := 1) rfl rfl (by decide) (by decide) rfl ?_
  refine k_iload C X d_prog_17_method_4_code_94 rfl rfl ?_
  refine k_daload C X d_prog_17_method_4_code_96 rfl (ix := 6) (i := 1) rfl (by decide) (by decide) rfl ?_
  refine k_aloadN C X d_prog_17_method_4_code_97 rfl rfl rfl ?_
  refine k_iload C X d_prog_17_method_4_code_98 rfl rfl ?_
  refine k_daload C X d_prog_17_method_4_code_100 rfl (ix := 7) (i := 1) rfl (by decide) (by decide) rfl ?_
  refine k_dmul C X d_prog_17_method_4_code_101 rfl ((own_DB.mul own_DB.z own_DB.z (r := (0)) (by omega) (D := 0) rfl (by decide)).nn) (fun d101_7 ed101_7 => ?_)
  have i_d101_7 : own_DB 0 (0) d101_7 := by rw [ed101_7]; exact own_DB.mul own_DB.z own_DB.z (r := (0)) (by omega) (D := 0) rfl (by decide)
  refine k_dadd C X d_prog_17_method_4_code_102 rfl ((own_DB.add i_d102_6 i_d101_7 (r := (0)) (by omega) (D := 0) rfl (by decide)).nn) (fun d102_8 ed102_8 => ?_)
  have i_d102_8 : own_DB 0 (0) d102_8 := by rw [ed102_8]; exact own_DB.add i_d102_6 i_d101_7 (r := (0)) (by omega) (D := 0) rfl (by decide)
  refine k_dastore C X d_prog_17_method_4_code_103 rfl (ix := 0) (i := 1) rfl (by decide) (by decide) (Nat.le_of_ble_eq_true rfl) (vs' := [(.double d102_2), (.double d102_8)]) rfl (L' := (o18, own_ar Z .double [(.double d102_2), (.double d102_8)]) :: (o12, own_ar Z .double [(.double d69), (.double d69_4)]) :: (o6, own_ar Z .double [(.double d54), (.double d54_3)]) :: (a, own_ob Z "com/example/residuum/residuum/SecondOrderTerm" [("term", "[[D", (.ref g))]) :: (g, own_ar Z (.array .double) [(.ref r0), (.ref r1)]) :: (r0, own_ar Z .double [(.double 0), (.double 0)]) :: (r1, own_ar Z .double [(.double 0), (.double 0)]) :: (qs, own_ar Z .double [(.double 4607182418800017408), (.double 0)]) :: (qg, own_ar Z .double [(.double 4607182418800017408), (.double 0)]) :: (qo, own_ar Z .double [(.double xa), (.double 0)]) :: (qn, own_ar Z .double [(.double 0), (.double 0)]) :: L) rfl (fun T X => ?_)
  refine k_iinc C X d_prog_17_method_4_code_104 rfl (v := 1) rfl rfl (l' := #[.val (.ref a), .val (.ref qs), .val (.ref qg), .val (.ref qo), .val (.ref qn), .val (.int (2)), .val (.ref o6), .val (.ref o12), .val (.ref o18), .val (.double d122), .second, .val (.double d137), .second, .val (.double d152), .second, .val (.int (1)), .val (.int (2)), .unset, .unset, .unset]) rfl ?_
  refine k_goto C X d_prog_17_method_4_code_107 (tpc := 74) rfl ?_
  refine k_iload C X d_prog_17_method_4_code_74 rfl rfl ?_
  refine k_iload C X d_prog_17_method_4_code_76 rfl rfl ?_
  refine k_icmp_ge C X d_prog_17_method_4_code_78 rfl (tpc := 110) rfl (fun _ => ?_) (fun hc => (absurd hc (by decide) : False).elim)
  refine k_dload C X d_prog_17_method_4_code_110 rfl rfl ?_
  refine k_aload C X d_prog_17_method_4_code_112 rfl rfl rfl ?_
  refine k_iload C X d_prog_17_method_4_code_114 rfl rfl ?_
  refine k_daload C X d_prog_17_method_4_code_116 rfl (ix := 2) (i := 1) rfl (by decide) (by decide) rfl ?_
  refine k_aloadN C X d_prog_17_method_4_code_117 rfl rfl rfl ?_
  refine k_iload C X d_prog_17_method_4_code_118 rfl rfl ?_
  refine k_daload C X d_prog_17_method_4_code_120 rfl (ix := 7) (i := 1) rfl (by decide) (by decide) rfl ?_
  refine k_dmul C X d_prog_17_method_4_code_121 rfl ((own_DB.mul i_d54_3 own_DB.z (r := (0)) (by omega) (D := 0) rfl (by decide)).nn) (fun d121_9 ed121_9 => ?_)
  have i_d121_9 : own_DB 0 (0) d121_9 := by rw [ed121_9]; exact own_DB.mul i_d54_3 own_DB.z (r := (0)) (by omega) (D := 0) rfl (by decide)
  refine k_dadd C X d_prog_17_method_4_code_122 rfl ((own_DB.add i_d122 i_d121_9 (r := ((1))) (by omega) (D := 1) rfl (by decide)).nn) (fun d122_10 ed122_10 => ?_)
  have i_d122_10 : own_DB 1 ((1)) d122_10 := by rw [ed122_10]; exact own_DB.add i_d122 i_d121_9 (r := ((1))) (by omega) (D := 1) rfl (by decide)
  refine k_dstore C X d_prog_17_method_4_code_123 rfl (l' := #[.val (.ref a), .val (.ref qs), .val (.ref qg), .val (.ref qo), .val (.ref qn), .val (.int (2)), .val (.ref o6), .val (.ref o12), .val (.ref o18), .val (.double d122_10), .second, .val (.double d137), .second, .val (.double d152), .second, .val (.int (1)), .val (.int (2)), .unset, .unset, .unset]) rfl ?_
  refine k_dload C X d_prog_17_method_4_code_125 rfl rfl ?_
  refine k_aloadN C X d_prog_17_method_4_code_127 rfl rfl rfl ?_
  refine k_iload C X d_prog_17_method_4_code_128 rfl rfl ?_
  refine k_daload C X d_prog_17_method_4_code_130 rfl (ix := 7) (i := 1) rfl (by decide) (by decide) rfl ?_
  refine k_aload C X d_prog_17_method_4_code_131 rfl rfl rfl ?_
  refine k_iload C X d_prog_17_method_4_code_133 rfl rfl ?_
  refine k_daload C X d_prog_17_method_4_code_135 rfl (ix := 1) (i := 1) rfl (by decide) (by decide) rfl ?_
  refine k_dmul C X d_prog_17_method_4_code_136 rfl ((own_DB.mul own_DB.z i_d69_4 (r := (0)) (by omega) (D := 0) rfl (by decide)).nn) (fun d136_11 ed136_11 => ?_)
  have i_d136_11 : own_DB 0 (0) d136_11 := by rw [ed136_11]; exact own_DB.mul own_DB.z i_d69_4 (r := (0)) (by omega) (D := 0) rfl (by decide)
  refine k_dadd C X d_prog_17_method_4_code_137 rfl ((own_DB.add i_d137 i_d136_11 (r := (a_)) (by omega) (D := 32768) rfl (by decide)).nn) (fun d137_12 ed137_12 => ?_)
  have i_d137_12 : own_DB 32768 (a_) d137_12 := by rw [ed137_12]; exact own_DB.add i_d137 i_d136_11 (r := (a_)) (by omega) (D := 32768) rfl (by decide)
  refine k_dstore C X d_prog_17_method_4_code_138 rfl (l' := #[.val (.ref a), .val (.ref qs), .val (.ref qg), .val (.ref qo), .val (.ref qn), .val (.int (2)), .val (.ref o6), .val (.ref o12), .val (.ref o18), .val (.double d122_10), .second, .val (.double d137_12), .second, .val (.double d152), .second, .val (.int (1)), .val (.int (2)), .unset, .unset, .unset]) rfl ?_
  refine k_dload C X d_prog_17_method_4_code_140 rfl rfl ?_
  refine k_aloadN C X d_prog_17_method_4_code_142 rfl rfl rfl ?_
  refine k_iload C X d_prog_17_method_4_code_143 rfl rfl ?_
  refine k_daload C X d_prog_17_method_4_code_145 rfl (ix := 7) (i := 1) rfl (by decide) (by decide) rfl ?_
  refine k_aload C X d_prog_17_method_4_code_146 rfl rfl rfl ?_
  refine k_iload C X d_prog_17_method_4_code_148 rfl rfl ?_
  refine k_daload C X d_prog_17_method_4_code_150 rfl (ix := 0) (i := 1) rfl (by decide) (by decide) rfl ?_
  refine k_dmul C X d_prog_17_method_4_code_151 rfl ((own_DB.mul own_DB.z i_d102_8 (r := (0)) (by omega) (D := 0) rfl (by decide)).nn) (fun d151_13 ed151_13 => ?_)
  have i_d151_13 : own_DB 0 (0) d151_13 := by rw [ed151_13]; exact own_DB.mul own_DB.z i_d102_8 (r := (0)) (by omega) (D := 0) rfl (by decide)
  refine k_dadd C X d_prog_17_method_4_code_152 rfl ((own_DB.add i_d152 i_d151_13 (r := (0)) (by omega) (D := 0) rfl (by decide)).nn) (fun d152_14 ed152_14 => ?_)
  have i_d152_14 : own_DB 0 (0) d152_14 := by rw [ed152_14]; exact own_DB.add i_d152 i_d151_13 (r := (0)) (by omega) (D := 0) rfl (by decide)
  refine k_dstore C X d_prog_17_method_4_code_153 rfl (l' := #[.val (.ref a), .val (.ref qs), .val (.ref qg), .val (.ref qo), .val (.ref qn), .val (.int (2)), .val (.ref o6), .val (.ref o12), .val (.ref o18), .val (.double d122_10), .second, .val (.double d137_12), .second, .val (.double d152_14), .second, .val (.int (1)), .val (.int (2)), .unset, .unset, .unset]) rfl ?_
  refine k_iinc C X d_prog_17_method_4_code_155 rfl (v := 1) rfl rfl (l' := #[.val (.ref a), .val (.ref qs), .val (.ref qg), .val (.ref qo), .val (.ref qn), .val (.int (2)), .val (.ref o6), .val (.ref o12), .val (.ref o18), .val (.double d122_10), .second, .val (.double d137_12), .second, .val (.double d152_14), .second, .val (.int (2)), .val (.int (2)), .unset, .unset, .unset]) rfl ?_
  refine k_goto C X d_prog_17_method_4_code_158 (tpc := 34) rfl ?_
  refine k_iload C X d_prog_17_method_4_code_34 rfl rfl ?_
  refine k_iload C X d_prog_17_method_4_code_36 rfl rfl ?_
  refine k_icmp_ge C X d_prog_17_method_4_code_38 rfl (tpc := 161) rfl (fun _ => ?_) (fun hc => (absurd hc (by decide) : False).elim)
  refine k_dload C X d_prog_17_method_4_code_161 rfl rfl ?_
  refine k_dconst0 C X d_prog_17_method_4_code_163 rfl ?_
  refine k_dcmpl C X d_prog_17_method_4_code_164 rfl ?_
  refine k_ifdl_eq C X d_prog_17_method_4_code_165 rfl (tpc := 242) rfl (fun _ => ?_) (fun hc => (hc (i_d152_14.1.eqv own_DB.z.1 rfl) : False).elim)
  refine k_dload C X d_prog_17_method_4_code_242 rfl rfl ?_
  refine k_dconst0 C X d_prog_17_method_4_code_244 rfl ?_
  refine k_dcmpl C X d_prog_17_method_4_code_245 rfl ?_
  refine k_ifdl_gt C X d_prog_17_method_4_code_246 rfl (tpc := 250) rfl (fun _ => ?_) (fun hc => (hc (by rw [i_d122_10.1.cmp own_DB.z.1]; rfl) : False).elim)
  refine k_iload C X d_prog_17_method_4_code_250 rfl rfl ?_
  refine k_newarray C X d_prog_17_method_4_code_252 rfl (ty := .double) rfl (hw _ (List.mem_of_getElem? (i := 4) rfl)) (by decide) (cap := 2) (by decide) (by decide) (by decide) (by decide) (vs := [(.double 0), (.double 0)]) rfl (fun T o252 X => ?_)
  refine k_astore C X d_prog_17_method_4_code_254 rfl rfl (l' := #[.val (.ref a), .val (.ref qs), .val (.ref qg), .val (.ref qo), .val (.ref qn), .val (.int (2)), .val (.ref o6), .val (.ref o12), .val (.ref o18), .val (.double d122_10), .second, .val (.double d137_12), .second, .val (.double d152_14), .second, .val (.ref o252), .val (.int (2)), .unset, .unset, .unset]) rfl ?_
  refine k_dconst0 C X d_prog_17_method_4_code_256 rfl ?_
  refine k_dstore C X d_prog_17_method_4_code_257 rfl (l' := #[.val (.ref a), .val (.ref qs), .val (.ref qg), .val (.ref qo), .val (.ref qn), .val (.int (2)), .val (.ref o6), .val (.ref o12), .val (.ref o18), .val (.double d122_10), .second, .val (.double d137_12), .second, .val (.double d152_14), .second, .val (.ref o252), .val (.double 0), .second, .unset, .unset]) rfl ?_
  refine k_iconst C X d_prog_17_method_4_code_259 rfl (v := 0) rfl ?_
  refine k_istore C X d_prog_17_method_4_code_260 rfl (l' := #[.val (.ref a), .val (.ref qs), .val (.ref qg), .val (.ref qo), .val (.ref qn), .val (.int (2)), .val (.ref o6), .val (.ref o12), .val (.ref o18), .val (.double d122_10), .second, .val (.double d137_12), .second, .val (.double d152_14), .second, .val (.ref o252), .val (.double 0), .second, .val (.int (0)), .unset]) rfl ?_
  refine k_iload C X d_prog_17_method_4_code_262 rfl rfl ?_
  refine k_iload C X d_prog_17_method_4_code_264 rfl rfl ?_
  refine k_icmp_ge C X d_prog_17_method_4_code_266 rfl (tpc := 306) rfl (fun hc => (absurd hc (by decide) : False).elim) (fun _ => ?_)
  refine k_aload C X d_prog_17_method_4_code_269 rfl rfl rfl ?_
  refine k_iload C X d_prog_17_method_4_code_271 rfl rfl ?_
  refine k_aload C X d_prog_17_method_4_code_273 rfl rfl rfl ?_
  refine k_iload C X d_prog_17_method_4_code_275 rfl rfl ?_
  refine k_daload C X d_prog_17_method_4_code_277 rfl (ix := 2) (i := 0) rfl (by decide) (by decide) rfl ?_
  refine k_aload C X d_prog_17_method_4_code_278 rfl rfl rfl ?_
  refine k_iload C X d_prog_17_method_4_code_280 rfl rfl ?_
  refine k_daload C X d_prog_17_method_4_code_282 rfl (ix := 1) (i := 0) rfl (by decide) (by decide) rfl ?_
  refine k_dsub C X d_prog_17_method_4_code_283 rfl ((own_DB.sub i_d69 i_d102_2 (r := (a_)) (by omega) (D := 32768) rfl (by decide)).nn) (fun d283 ed283 => ?_)
  have i_d283 : own_DB 32768 (a_) d283 := by rw [ed283]; exact own_DB.sub i_d69 i_d102_2 (r := (a_)) (by omega) (D := 32768) rfl (by decide)
  refine k_dastore C X d_prog_17_method_4_code_284 rfl (ix := 0) (i := 0) rfl (by decide) (by decide) (Nat.le_of_ble_eq_true rfl) (vs' := [(.double d283), (.double 0)]) rfl (L' := (o252, own_ar Z .double [(.double d283), (.double 0)]) :: (o18, own_ar Z .double [(.double d102_2), (.double d102_8)]) :: (o12, own_ar Z .double [(.double d69), (.double d69_4)]) :: (o6, own_ar Z .double [(.double d54), (.double d54_3)]) :: (a, own_ob Z "com/example/residuum/residuum/SecondOrderTerm" [("term", "[[D", (.ref g))]) :: (g, own_ar Z (.array .double) [(.ref r0), (.ref r1)]) :: (r0, own_ar Z .double [(.double 0), (.double 0)]) :: (r1, own_ar Z .double [(.double 0), (.double 0)]) :: (qs, own_ar Z .double [(.double 4607182418800017408), (.double 0)]) :: (qg, own_ar Z .double [(.double 4607182418800017408), (.double 0)]) :: (qo, own_ar Z .double [(.double xa), (.double 0)]) :: (qn, own_ar Z .double [(.double 0), (.double 0)]) :: L) rfl (fun T X => ?_)
  refine k_dload C X d_prog_17_method_4_code_285 rfl rfl ?_
  refine k_aload C X d_prog_17_method_4_code_287 rfl rfl rfl ?_
  refine k_iload C X d_prog_17_method_4_code_289 rfl rfl ?_
  refine k_daload C X d_prog_17_method_4_code_291 rfl (ix := 0) (i := 0) rfl (by decide) (by decide) rfl ?_
  refine k_aloadN C X d_prog_17_method_4_code_292 rfl rfl rfl ?_
  refine k_iload C X d_prog_17_method_4_code_293 rfl rfl ?_
  refine k_daload C X d_prog_17_method_4_code_295 rfl (ix := 8) (i := 0) rfl (by decide) (by decide) rfl ?_
  refine k_dmul C X d_prog_17_method_4_code_296 rfl ((own_DB.mul i_d283 own_DB.o (r := (a_)) (by omega) (D := 32768) rfl (by decide)).nn) (fun d296 ed296 => ?_)
  have i_d296 : own_DB 32768 (a_) d296 := by rw [ed296]; exact own_DB.mul i_d283 own_DB.o (r := (a_)) (by omega) (D := 32768) rfl (by decide)
  refine k_dadd C X d_prog_17_method_4_code_297 rfl ((own_DB.add own_DB.z i_d296 (r := (a_)) (by omega) (D := 32768) rfl (by decide)).nn) (fun d297 ed297 => ?_)
  have i_d297 : own_DB 32768 (a_) d297 := by rw [ed297]; exact own_DB.add own_DB.z i_d296 (r := (a_)) (by omega) (D := 32768) rfl (by decide)
  refine k_dstore C X d_prog_17_method_4_code_298 rfl (l' := #[.val (.ref a), .val (.ref qs), .val (.ref qg), .val (.ref qo), .val (.ref qn), .val (.int (2)), .val (.ref o6), .val (.ref o12), .val (.ref o18), .val (.double d122_10), .second, .val (.double d137_12), .second, .val (.double d152_14), .second, .val (.ref o252), .val (.double d297), .second, .val (.int (0)), .unset]) rfl ?_
  refine k_iinc C X d_prog_17_method_4_code_300 rfl (v := 1) rfl rfl (l' := #[.val (.ref a), .val (.ref qs), .val (.ref qg), .val (.ref qo), .val (.ref qn), .val (.int (2)), .val (.ref o6), .val (.ref o12), .val (.ref o18), .val (.double d122_10), .second, .val (.double d137_12), .second, .val (.double d152_14), .second, .val (.ref o252), .val (.double d297), .second, .val (.int (1)), .unset]) rfl ?_
  refine k_goto C X d_prog_17_method_4_code_303 (tpc := 262) rfl ?_
  refine k_iload C X d_prog_17_method_4_code_262 rfl rfl ?_
  refine k_iload C X d_prog_17_method_4_code_264 rfl rfl ?_
  refine k_icmp_ge C X d_prog_17_method_4_code_266 rfl (tpc := 306) rfl (fun hc => (absurd hc (by decide) : False).elim) (fun _ => ?_)
  refine k_aload C X d_prog_17_method_4_code_269 rfl rfl rfl ?_
  refine k_iload C X d_prog_17_method_4_code_271 rfl rfl ?_
  refine k_aload C X d_prog_17_method_4_code_273 rfl rfl rfl ?_
  refine k_iload C X d_prog_17_method_4_code_275 rfl rfl ?_
  refine k_daload C X d_prog_17_method_4_code_277 rfl (ix := 2) (i := 1) rfl (by decide) (by decide) rfl ?_
  refine k_aload C X d_prog_17_method_4_code_278 rfl rfl rfl ?_
  refine k_iload C X d_prog_17_method_4_code_280 rfl rfl ?_
  refine k_daload C X d_prog_17_method_4_code_282 rfl (ix := 1) (i := 1) rfl (by decide) (by decide) rfl ?_
  refine k_dsub C X d_prog_17_method_4_code_283 rfl ((own_DB.sub i_d69_4 i_d102_8 (r := (0)) (by omega) (D := 0) rfl (by decide)).nn) (fun d283_15 ed283_15 => ?_)
  have i_d283_15 : own_DB 0 (0) d283_15 := by rw [ed283_15]; exact own_DB.sub i_d69_4 i_d102_8 (r := (0)) (by omega) (D := 0) rfl (by decide)
  refine k_dastore C X d_prog_17_method_4_code_284 rfl (ix := 0) (i := 1) rfl (by decide) (by decide) (Nat.le_of_ble_eq_true rfl) (vs' := [(.double d283), (.double d283_15)]) rfl (L' := (o252, own_ar Z .double [(.double d283), (.double d283_15)]) :: (o18, own_ar Z .double [(.double d102_2), (.double d102_8)]) :: (o12, own_ar Z .double [(.double d69), (.double d69_4)]) :: (o6, own_ar Z .double [(.double d54), (.double d54_3)]) :: (a, own_ob Z "com/example/residuum/residuum/SecondOrderTerm" [("term", "[[D", (.ref g))]) :: (g, own_ar Z (.array .double) [(.ref r0), (.ref r1)]) :: (r0, own_ar Z .double [(.double 0), (.double 0)]) :: (r1, own_ar Z .double [(.double 0), (.double 0)]) :: (qs, own_ar Z .double [(.double 4607182418800017408), (.double 0)]) :: (qg, own_ar Z .double [(.double 4607182418800017408), (.double 0)]) :: (qo, own_ar Z .double [(.double xa), (.double 0)]) :: (qn, own_ar Z .double [(.double 0), (.double 0)]) :: L) rfl (fun T X => ?_)
  refine k_dload C X d_prog_17_method_4_code_285 rfl rfl ?_
  refine k_aload C X d_prog_17_method_4_code_287 rfl rfl rfl ?_
  refine k_iload C X d_prog_17_method_4_code_289 rfl rfl ?_
  refine k_daload C X d_prog_17_method_4_code_291 rfl (ix := 0) (i := 1) rfl (by decide) (by decide) rfl ?_
  refine k_aloadN C X d_prog_17_method_4_code_292 rfl rfl rfl ?_
  refine k_iload C X d_prog_17_method_4_code_293 rfl rfl ?_
  refine k_daload C X d_prog_17_method_4_code_295 rfl (ix := 8) (i := 1) rfl (by decide) (by decide) rfl ?_
  refine k_dmul C X d_prog_17_method_4_code_296 rfl ((own_DB.mul i_d283_15 own_DB.z (r := (0)) (by omega) (D := 0) rfl (by decide)).nn) (fun d296_16 ed296_16 => ?_)
  have i_d296_16 : own_DB 0 (0) d296_16 := by rw [ed296_16]; exact own_DB.mul i_d283_15 own_DB.z (r := (0)) (by omega) (D := 0) rfl (by decide)
  refine k_dadd C X d_prog_17_method_4_code_297 rfl ((own_DB.add i_d297 i_d296_16 (r := (a_)) (by omega) (D := 32768) rfl (by decide)).nn) (fun d297_17 ed297_17 => ?_)
  have i_d297_17 : own_DB 32768 (a_) d297_17 := by rw [ed297_17]; exact own_DB.add i_d297 i_d296_16 (r := (a_)) (by omega) (D := 32768) rfl (by decide)
  refine k_dstore C X d_prog_17_method_4_code_298 rfl (l' := #[.val (.ref a), .val (.ref qs), .val (.ref qg), .val (.ref qo), .val (.ref qn), .val (.int (2)), .val (.ref o6), .val (.ref o12), .val (.ref o18), .val (.double d122_10), .second, .val (.double d137_12), .second, .val (.double d152_14), .second, .val (.ref o252), .val (.double d297_17), .second, .val (.int (1)), .unset]) rfl ?_
  refine k_iinc C X d_prog_17_method_4_code_300 rfl (v := 1) rfl rfl (l' := #[.val (.ref a), .val (.ref qs), .val (.ref qg), .val (.ref qo), .val (.ref qn), .val (.int (2)), .val (.ref o6), .val (.ref o12), .val (.ref o18), .val (.double d122_10), .second, .val (.double d137_12), .second, .val (.double d152_14), .second, .val (.ref o252), .val (.double d297_17), .second, .val (.int (2)), .unset]) rfl ?_
  refine k_goto C X d_prog_17_method_4_code_303 (tpc := 262) rfl ?_
  refine k_iload C X d_prog_17_method_4_code_262 rfl rfl ?_
  refine k_iload C X d_prog_17_method_4_code_264 rfl rfl ?_
  refine k_icmp_ge C X d_prog_17_method_4_code_266 rfl (tpc := 306) rfl (fun _ => ?_) (fun hc => (absurd hc (by decide) : False).elim)
  refine k_iconst C X d_prog_17_method_4_code_306 rfl (v := 0) rfl ?_
  refine k_istore C X d_prog_17_method_4_code_307 rfl (l' := #[.val (.ref a), .val (.ref qs), .val (.ref qg), .val (.ref qo), .val (.ref qn), .val (.int (2)), .val (.ref o6), .val (.ref o12), .val (.ref o18), .val (.double d122_10), .second, .val (.double d137_12), .second, .val (.double d152_14), .second, .val (.ref o252), .val (.double d297_17), .second, .val (.int (0)), .unset]) rfl ?_
  refine k_iload C X d_prog_17_method_4_code_309 rfl rfl ?_
  refine k_iload C X d_prog_17_method_4_code_311 rfl rfl ?_
  refine k_icmp_ge C X d_prog_17_method_4_code_313 rfl (tpc := 419) rfl (fun hc => (absurd hc (by decide) : False).elim) (fun _ => ?_)
  refine k_iload C X d_prog_17_method_4_code_316 rfl rfl ?_
  refine k_istore C X d_prog_17_method_4_code_318 rfl (l' := #[.val (.ref a), .val (.ref qs), .val (.ref qg), .val (.ref qo), .val (.ref qn), .val (.int (2)), .val (.ref o6), .val (.ref o12), .val (.ref o18), .val (.double d122_10), .second, .val (.double d137_12), .second, .val (.double d152_14), .second, .val (.ref o252), .val (.double d297_17), .second, .val (.int (0)), .val (.int (0))]) rfl ?_
  refine k_iload C X d_prog_17_method_4_code_320 rfl rfl ?_
  refine k_iload C X d_prog_17_method_4_code_322 rfl rfl ?_
  refine k_icmp_ge C X d_prog_17_method_4_code_324 rfl (tpc := 413) rfl (fun hc => (absurd hc (by decide) : False).elim) (fun _ => ?_)
  refine k_aloadN C X d_prog_17_method_4_code_327 rfl rfl rfl ?_
  refine k_getfield C X d_prog_17_method_4_code_328 rfl (host := "") (Or.inl (hw _ (List.mem_of_getElem? (i := 16) rfl))) (own_fL (ix := 4) (j := 0) rfl rfl) (fun T X => ?_)
  refine k_iload C X d_prog_17_method_4_code_331 rfl rfl ?_
  refine k_aaload C X d_prog_17_method_4_code_333 rfl (ix := 5) (i := 0) rfl rfl (by decide) (by decide) rfl ?_
  refine k_iload C X d_prog_17_method_4_code_334 rfl rfl ?_
  refine k_dup2 C X d_prog_17_method_4_code_336 rfl rfl rfl ?_
  refine k_daload C X d_prog_17_method_4_code_337 rfl (ix := 6) (i := 0) rfl (by decide) (by decide) rfl ?_
  refine k_aload C X d_prog_17_method_4_code_338 rfl rfl rfl ?_
  refine k_iload C X d_prog_17_method_4_code_340 rfl rfl ?_
  refine k_daload C X d_prog_17_method_4_code_342 rfl (ix := 0) (i := 0) rfl (by decide) (by decide) rfl ?_
  refine k_aload C X d_prog_17_method_4_code_343 rfl rfl rfl ?_
  refine k_iload C X d_prog_17_method_4_code_345 rfl rfl ?_
  refine k_daload C X d_prog_17_method_4_code_347 rfl (ix := 3) (i := 0) rfl (by decide) (by decide) rfl ?_
  refine k_dmul C X d_prog_17_method_4_code_348 rfl ((own_DB.mul i_d283 i_d54 (r := (a_)) (by omega) (D := 32768) rfl (by decide)).nn) (fun d348 ed348 => ?_)
  have i_d348 : own_DB 32768 (a_) d348 := by rw [ed348]; exact own_DB.mul i_d283 i_d54 (r := (a_)) (by omega) (D := 32768) rfl (by decide)
  refine k_aload C X d_prog_17_method_4_code_349 rfl rfl rfl ?_
  refine k_iload C X d_prog_17_method_4_code_351 rfl rfl ?_
  refine k_daload C X d_prog_17_method_4_code_353 rfl (ix := 3) (i := 0) rfl (by decide) (by decide) rfl ?_
  refine k_aload C X d_prog_17_method_4_code_354 rfl rfl rfl ?_
  refine k_iload C X d_prog_17_method_4_code_356 rfl rfl ?_
  refine k_daload C X d_prog_17_method_4_code_358 rfl (ix := 0) (i := 0) rfl (by decide) (by decide) rfl ?_
  refine k_dmul C X d_prog_17_method_4_code_359 rfl ((own_DB.mul i_d54 i_d283 (r := (a_)) (by omega) (D := 32768) rfl (by decide)).nn) (fun d359 ed359 => ?_)
  have i_d359 : own_DB 32768 (a_) d359 := by rw [ed359]; exact own_DB.mul i_d54 i_d283 (r := (a_)) (by omega) (D := 32768) rfl (by decide)
  refine k_dadd C X d_prog_17_method_4_code_360 rfl ((own_DB.add i_d348 i_d359 (r := ((2) * a_)) (by omega) (D := 65536) rfl (by decide)).nn) (fun d360 ed360 => ?_)
  have i_d360 : own_DB 65536 ((2) * a_) d360 := by rw [ed360]; exact own_DB.add i_d348 i_d359 (r := ((2) * a_)) (by omega) (D := 65536) rfl (by decide)
  refine k_dload C X d_prog_17_method_4_code_361 rfl rfl ?_
  refine k_ddiv C X d_prog_17_method_4_code_363 rfl ((own_DB.div i_d360 i_d122_10 (by decide)).nn) (fun d363 ed363 => ?_)
  have i_d363 : own_DB 65536 ((2) * a_) d363 := by rw [ed363]; exact own_DB.div i_d360 i_d122_10 (by decide)
  refine k_dload C X d_prog_17_method_4_code_364 rfl rfl ?_
  refine k_dload C X d_prog_17_method_4_code_366 rfl rfl ?_
  refine k_ddiv C X d_prog_17_method_4_code_368 rfl ((own_DB.div i_d297_17 i_d122_10 (by decide)).nn) (fun d368 ed368 => ?_)
  have i_d368 : own_DB 32768 (a_) d368 := by rw [ed368]; exact own_DB.div i_d297_17 i_d122_10 (by decide)
  refine k_aload C X d_prog_17_method_4_code_369 rfl rfl rfl ?_
  refine k_iload C X d_prog_17_method_4_code_371 rfl rfl ?_
  refine k_daload C X d_prog_17_method_4_code_373 rfl (ix := 3) (i := 0) rfl (by decide) (by decide) rfl ?_
  refine k_dload C X d_prog_17_method_4_code_374 rfl rfl ?_
  refine k_ddiv C X d_prog_17_method_4_code_376 rfl ((own_DB.div i_d54 i_d122_10 (by decide)).nn) (fun d376 ed376 => ?_)
  have i_d376 : own_DB 1 ((1)) d376 := by rw [ed376]; exact own_DB.div i_d54 i_d122_10 (by decide)
  refine k_dmul C X d_prog_17_method_4_code_377 rfl ((own_DB.mul i_d368 i_d376 (r := (a_)) (by omega) (D := 32768) rfl (by decide)).nn) (fun d377 ed377 => ?_)
  have i_d377 : own_DB 32768 (a_) d377 := by rw [ed377]; exact own_DB.mul i_d368 i_d376 (r := (a_)) (by omega) (D := 32768) rfl (by decide)
  refine k_aload C X d_prog_17_method_4_code_378 rfl rfl rfl ?_
  refine k_iload C X d_prog_17_method_4_code_380 rfl rfl ?_
  refine k_daload C X d_prog_17_method_4_code_382 rfl (ix := 3) (i := 0) rfl (by decide) (by decide) rfl ?_
  refine k_dmul C X d_prog_17_method_4_code_383 rfl ((own_DB.mul i_d377 i_d54 (r := (a_)) (by omega) (D := 32768) rfl (by decide)).nn) (fun d383 ed383 => ?_)
  have i_d383 : own_DB 32768 (a_) d383 := by rw [ed383]; exact own_DB.mul i_d377 i_d54 (r := (a_)) (by omega) (D := 32768) rfl (by decide)
  refine k_dsub C X d_prog_17_method_4_code_384 rfl ((own_DB.sub i_d363 i_d383 (r := (a_)) (by omega) (D := 98304) rfl (by decide)).nn) (fun d384 ed384 => ?_)
  have i_d384 : own_DB 98304 (a_) d384 := by rw [ed384]; exact own_DB.sub i_d363 i_d383 (r := (a_)) (by omega) (D := 98304) rfl (by decide)
  refine k_dadd C X d_prog_17_method_4_code_385 rfl ((own_DB.add own_DB.z i_d384 (r := (a_)) (by omega) (D := 98304) rfl (by decide)).nn) (fun d385 ed385 => ?_)
  have i_d385 : own_DB 98304 (a_) d385 := by rw [ed385]; exact own_DB.add own_DB.z i_d384 (r := (a_)) (by omega) (D := 98304) rfl (by decide)
  refine k_dastore C X d_prog_17_method_4_code_386 rfl (ix := 6) (i := 0) rfl (by decide) (by decide) (Nat.le_of_ble_eq_true rfl) (vs' := [(.double d385), (.double 0)]) rfl (L' := (o252, own_ar Z .double [(.double d283), (.double d283_15)]) :: (o18, own_ar Z .double [(.double d102_2), (.double d102_8)]) :: (o12, own_ar Z .double [(.double d69), (.double d69_4)]) :: (o6, own_ar Z .double [(.double d54), (.double d54_3)]) :: (a, own_ob Z "com/example/residuum/residuum/SecondOrderTerm" [("term", "[[D", (.ref g))]) :: (g, own_ar Z (.array .double) [(.ref r0), (.ref r1)]) :: (r0, own_ar Z .double [(.double d385), (.double 0)]) :: (r1, own_ar Z .double [(.double 0), (.double 0)]) :: (qs, own_ar Z .double [(.double 4607182418800017408), (.double 0)]) :: (qg, own_ar Z .double [(.double 4607182418800017408), (.double 0)]) :: (qo, own_ar Z .double [(.double xa), (.double 0)]) :: (qn, own_ar Z .double [(.double 0), (.double 0)]) :: L) rfl (fun T X => ?_)
  refine k_aloadN C X d_prog_17_method_4_code_387 rfl rfl rfl ?_
  refine k_getfield C X d_prog_17_method_4_code_388 rfl (host := "") (Or.inl (hw _ (List.mem_of_getElem? (i := 16) rfl))) (own_fL (ix := 4) (j := 0) rfl rfl) (fun T X => ?_)
  refine k_iload C X d_prog_17_method_4_code_391 rfl rfl ?_
  refine k_aaload C X d_prog_17_method_4_code_393 rfl (ix := 5) (i := 0) rfl rfl (by decide) (by decide) rfl ?_
  refine k_iload C X d_prog_17_method_4_code_394 rfl rfl ?_
  refine k_aloadN C X d_prog_17_method_4_code_396 rfl rfl rfl ?_
  refine k_getfield C X d_prog_17_method_4_code_397 rfl (host := "") (Or.inl (hw _ (List.mem_of_getElem? (i := 16) rfl))) (own_fL (ix := 4) (j := 0) rfl rfl) (fun T X => ?_)
  refine k_iload C X d_prog_17_method_4_code_400 rfl rfl ?_
  refine k_aaload C X d_prog_17_method_4_code_402 rfl (ix := 5) (i := 0) rfl rfl (by decide) (by decide) rfl ?_
  refine k_iload C X d_prog_17_method_4_code_403 rfl rfl ?_
  refine k_daload C X d_prog_17_method_4_code_405 rfl (ix := 6) (i := 0) rfl (by decide) (by decide) rfl ?_
  refine k_dastore C X d_prog_17_method_4_code_406 rfl (ix := 6) (i := 0) rfl (by decide) (by decide) (Nat.le_of_ble_eq_true rfl) (vs' := [(.double d385), (.double 0)]) rfl (L' := (o252, own_ar Z .double [(.double d283), (.double d283_15)]) :: (o18, own_ar Z .double [(.double d102_2), (.double d102_8)]) :: (o12, own_ar Z .double [(.double d69), (.double d69_4)]) :: (o6, own_ar Z .double [(.double d54), (.double d54_3)]) :: (a, own_ob Z "com/example/residuum/residuum/SecondOrderTerm" [("term", "[[D", (.ref g))]) :: (g, own_ar Z (.array .double) [(.ref r0), (.ref r1)]) :: (r0, own_ar Z .double [(.double d385), (.double 0)]) :: (r1, own_ar Z .double [(.double 0), (.double 0)]) :: (qs, own_ar Z .double [(.double 4607182418800017408), (.double 0)]) :: (qg, own_ar Z .double [(.double 4607182418800017408), (.double 0)]) :: (qo, own_ar Z .double [(.double xa), (.double 0)]) :: (qn, own_ar Z .double [(.double 0), (.double 0)]) :: L) rfl (fun T X => ?_)
  refine k_iinc C X d_prog_17_method_4_code_407 rfl (v := 1) rfl rfl (l' := #[.val (.ref a), .val (.ref qs), .val (.ref qg), .val (.ref qo), .val (.ref qn), .val (.int (2)), .val (.ref o6), .val (.ref o12), .val (.ref o18), .val (.double d122_10), .second, .val (.double d137_12), .second, .val (.double d152_14), .second, .val (.ref o252), .val (.double d297_17), .second, .val (.int (0)), .val (.int (1))]) rfl ?_
  refine k_goto C X d_prog_17_method_4_code_410 (tpc := 320) rfl ?_
  refine k_iload C X d_prog_17_method_4_code_320 rfl rfl ?_
  refine k_iload C X d_prog_17_method_4_code_322 rfl rfl ?_
  refine k_icmp_ge C X d_prog_17_method_4_code_324 rfl (tpc := 413) rfl (fun hc => (absurd hc (by decide) : False).elim) (fun _ => ?_)
  refine k_aloadN C X d_prog_17_method_4_code_327 rfl rfl rfl ?_
  refine k_getfield C X d_prog_17_method_4_code_328 rfl (host := "") (Or.inl (hw _ (List.mem_of_getElem? (i := 16) rfl))) (own_fL (ix := 4) (j := 0) rfl rfl) (fun T X => ?_)
  refine k_iload C X d_prog_17_method_4_code_331 rfl rfl ?_
  refine k_aaload C X d_prog_17_method_4_code_333 rfl (ix := 5) (i := 0) rfl rfl (by decide) (by decide) rfl ?_
  refine k_iload C X d_prog_17_method_4_code_334 rfl rfl ?_
  refine k_dup2 C X d_prog_17_method_4_code_336 rfl rfl rfl ?_
  refine k_daload C X d_prog_17_method_4_code_337 rfl (ix := 6) (i := 1) rfl (by decide) (by decide) rfl ?_
  refine k_aload C X d_prog_17_method_4_code_338 rfl rfl rfl ?_
  refine k_iload C X d_prog_17_method_4_code_340 rfl rfl ?_
  refine k_daload C X d_prog_17_method_4_code_342 rfl (ix := 0) (i := 0) rfl (by decide) (by decide) rfl ?_
  refine k_aload C X d_prog_17_method_4_code_343 rfl rfl rfl ?_
  refine k_iload C X d_prog_17_method_4_code_345 rfl rfl ?_
  refine k_daload C X d_prog_17_method_4_code_347 rfl (ix := 3) (i := 1) rfl (by decide) (by decide) rfl ?_
  refine k_dmul C X d_prog_17_method_4_code_348 rfl ((own_DB.mul i_d283 i_d54_3 (r := (0)) (by omega) (D := 0) rfl (by decide)).nn) (fun d348_18 ed348_18 => ?_)
  have i_d348_18 : own_DB 0 (0) d348_18 := by rw [ed348_18]; exact own_DB.mul i_d283 i_d54_3 (r := (0)) (by omega) (D := 0) rfl (by decide)
  refine k_aload C X d_prog_17_method_4_code_349 rfl rfl rfl ?_
  refine k_iload C X d_prog_17_method_4_code_351 rfl rfl ?_
  refine k_daload C X d_prog_17_method_4_code_353 rfl (ix := 3) (i := 0) rfl (by decide) (by decide) rfl ?_
  refine k_aload C X d_prog_17_method_4_code_354 rfl rfl rfl ?_
  refine k_iload C X d_prog_17_method_4_code_356 rfl rfl ?_
  refine k_daload C X d_prog_17_method_4_code_358 rfl (ix := 0) (i := 1) rfl (by decide) (by decide) rfl ?_
  refine k_dmul C X d_prog_17_method_4_code_359 rfl ((own_DB.mul i_d54 i_d283_15 (r := (0)) (by omega) (D := 0) rfl (by decide)).nn) (fun d359_19 ed359_19 => ?_)
  have i_d359_19 : own_DB 0 (0) d359_19 := by rw [ed359_19]; exact own_DB.mul i_d54 i_d283_15 (r := (0)) (by omega) (D := 0) rfl (by decide)
  refine k_dadd C X d_prog_17_method_4_code_360 rfl ((own_DB.add i_d348_18 i_d359_19 (r := (0)) (by omega) (D := 0) rfl (by decide)).nn) (fun d360_20 ed360_20 => ?_)
  have i_d360_20 : own_DB 0 (0) d360_20 := by rw [ed360_20]; exact own_DB.add i_d348_18 i_d359_19 (r := (0)) (by omega) (D := 0) rfl (by decide)
  refine k_dload C X d_prog_17_method_4_code_361 rfl rfl ?_
  refine k_ddiv C X d_prog_17_method_4_code_363 rfl ((own_DB.div i_d360_20 i_d122_10 (by decide)).nn) (fun d363_21 ed363_21 => ?_)
  have i_d363_21 : own_DB 0 (0) d363_21 := by rw [ed363_21]; exact own_DB.div i_d360_20 i_d122_10 (by decide)
  refine k_dload C X d_prog_17_method_4_code_364 rfl rfl ?_
  refine k_dload C X d_prog_17_method_4_code_366 rfl rfl ?_
  refine k_ddiv C X d_prog_17_method_4_code_368 rfl ((own_DB.div i_d297_17 i_d122_10 (by decide)).nn) (fun d368_22 ed368_22 => ?_)
  have i_d368_22 : own_DB 32768 (a_) d368_22 := by rw [ed368_22]; exact own_DB.div i_d297_17 i_d122_10 (by decide)
  refine k_aload C X d_prog_17_method_4_code_369 rfl rfl rfl ?_
  refine k_iload C X d_prog_17_method_4_code_371 rfl rfl ?_
  refine k_daload C X d_prog_17_method_4_code_373 rfl (ix := 3) (i := 0) rfl (by decide) (by decide) rfl ?_
  refine k_dload C X d_prog_17_method_4_code_374 rfl rfl ?_
  refine k_ddiv C X d_prog_17_method_4_code_376 rfl ((own_DB.div i_d54 i_d122_10 (by decide)).nn) (fun d376_23 ed376_23 => ?_)
  have i_d376_23 : own_DB 1 ((1)) d376_23 := by rw [ed376_23]; exact own_DB.div i_d54 i_d122_10 (by decide)
  refine k_dmul C X d_prog_17_method_4_code_377 rfl ((own_DB.mul i_d368_22 i_d376_23 (r := (a_)) (by omega) (D := 32768) rfl (by decide)).nn) (fun d377_24 ed377_24 => ?_)
  have i_d377_24 : own_DB 32768 (a_) d377_24 := by rw [ed377_24]; exact own_DB.mul i_d368_22 i_d376_23 (r := (a_)) (by omega) (D := 32768) rfl (by decide)
  refine k_aload C X d_prog_17_method_4_code_378 rfl rfl rfl ?_
  refine k_iload C X d_prog_17_method_4_code_380 rfl rfl ?_
  refine k_daload C X d_prog_17_method_4_code_382 rfl (ix := 3) (i := 1) rfl (by decide) (by decide) rfl ?_
  refine k_dmul C X d_prog_17_method_4_code_383 rfl ((own_DB.mul i_d377_24 i_d54_3 (r := (0)) (by omega) (D := 0) rfl (by decide)).nn) (fun d383_25 ed383_25 => ?_)
  have i_d383_25 : own_DB 0 (0) d383_25 := by rw [ed383_25]; exact own_DB.mul i_d377_24 i_d54_3 (r := (0)) (by omega) (D := 0) rfl (by decide)
  refine k_dsub C X d_prog_17_method_4_code_384 rfl ((own_DB.sub i_d363_21 i_d383_25 (r := (0)) (by omega) (D := 0) rfl (by decide)).nn) (fun d384_26 ed384_26 => ?_)
  have i_d384_26 : own_DB 0 (0) d384_26 := by rw [ed384_26]; exact own_DB.sub i_d363_21 i_d383_25 (r := (0)) (by omega) (D := 0) rfl (by decide)
  refine k_dadd C X d_prog_17_method_4_code_385 rfl ((own_DB.add own_DB.z i_d384_26 (r := (0)) (by omega) (D := 0) rfl (by decide)).nn) (fun d385_27 ed385_27 => ?_)
  have i_d385_27 : own_DB 0 (0) d385_27 := by rw [ed385_27]; exact own_DB.add own_DB.z i_d384_26 (r := (0)) (by omega) (D := 0) rfl (by decide)
  refine k_dastore C X d_prog_17_method_4_code_386 rfl (ix := 6) (i := 1) rfl (by decide) (by decide) (Nat.le_of_ble_eq_true rfl) (vs' := [(.double d385), (.double d385_27)]) rfl (L' := (o252, own_ar Z .double [(.double d283), (.double d283_15)]) :: (o18, own_ar Z .double [(.double d102_2), (.double d102_8)]) :: (o12, own_ar Z .double [(.double d69), (.double d69_4)]) :: (o6, own_ar Z .double [(.double d54), (.double d54_3)]) :: (a, own_ob Z "com/example/residuum/residuum/SecondOrderTerm" [("term", "[[D", (.ref g))]) :: (g, own_ar Z (.array .double) [(.ref r0), (.ref r1)]) :: (r0, own_ar Z .double [(.double d385), (.double d385_27)]) :: (r1, own_ar Z .double [(.double 0), (.double 0)]) :: (qs, own_ar Z .double [(.double 4607182418800017408), (.double 0)]) :: (qg, own_ar Z .double [(.double 4607182418800017408), (.double 0)]) :: (qo, own_ar Z .double [(.double xa), (.double 0)]) :: (qn, own_ar Z .double [(.double 0), (.double 0)]) :: L) rfl (fun T X => ?_)
  refine k_aloadN C X d_prog_17_method_4_code_387 rfl rfl rfl ?_
  refine k_getfield C X d_prog_17_method_4_code_388 rfl (host := "") (Or.inl (hw _ (List.mem_of_getElem? (i := 16) rfl))) (own_fL (ix := 4) (j := 0) rfl rfl) (fun T X => ?_)
  refine k_iload C X d_prog_17_method_4_code_391 rfl rfl ?_
  refine k_aaload C X d_prog_17_method_4_code_393 rfl (ix := 5) (i := 1) rfl rfl (by decide) (by decide) rfl ?_
  refine k_iload C X d_prog_17_method_4_code_394 rfl rfl ?_
  refine k_aloadN C X d_prog_17_method_4_code_396 rfl rfl rfl ?_
  refine k_getfield C X d_prog_17_method_4_code_397 rfl (host := "") (Or.inl (hw _ (List.mem_of_getElem? (i := 16) rfl))) (own_fL (ix := 4) (j := 0) rfl rfl) (fun T X => ?_)
  refine k_iload C X d_prog_17_method_4_code_400 rfl rfl ?_
  refine k_aaload C X d_prog_17_method_4_code_402 rfl (ix := 5) (i := 0) rfl rfl (by decide) (by decide) rfl ?_
  refine k_iload C X d_prog_17_method_4_code_403 rfl rfl ?_
  refine k_daload C X d_prog_17_method_4_code_405 rfl (ix := 6) (i := 1) rfl (by decide) (by decide) rfl ?_
  refine k_dastore C X d_prog_17_method_4_code_406 rfl (ix := 7) (i := 0) rfl (by decide) (by decide) (Nat.le_of_ble_eq_true rfl) (vs' := [(.double d385_27), (.double 0)]) rfl (L' := (o252, own_ar Z .double [(.double d283), (.double d283_15)]) :: (o18, own_ar Z .double [(.double d102_2), (.double d102_8)]) :: (o12, own_ar Z .double [(.double d69), (.double d69_4)]) :: (o6, own_ar Z .double [(.double d54), (.double d54_3)]) :: (a, own_ob Z "com/example/residuum/residuum/SecondOrderTerm" [("term", "[[D", (.ref g))]) :: (g, own_ar Z (.array .double) [(.ref r0), (.ref r1)]) :: (r0, own_ar Z .double [(.double d385), (.double d385_27)]) :: (r1, own_ar Z .double [(.double d385_27), (.double 0)]) :: (qs, own_ar Z .double [(.double 4607182418800017408), (.double 0)]) :: (qg, own_ar Z .double [(.double 4607182418800017408), (.double 0)]) :: (qo, own_ar Z .double [(.double xa), (.double 0)]) :: (qn, own_ar Z .double [(.double 0), (.double 0)]) :: L) rfl (fun T X => ?_)
  refine k_iinc C X d_prog_17_method_4_code_407 rfl (v := 1) rfl rfl (l' := #[.val (.ref a), .val (.ref qs), .val (.ref qg), .val (.ref qo), .val (.ref qn), .val (.int (2)), .val (.ref o6), .val (.ref o12), .val (.ref o18), .val (.double d122_10), .second, .val (.double d137_12), .second, .val (.double d152_14), .second, .val (.ref o252), .val (.double d297_17), .second, .val (.int (0)), .val (.int (2))]) rfl ?_
  refine k_goto C X d_prog_17_method_4_code_410 (tpc := 320) rfl ?_
  refine k_iload C X d_prog_17_method_4_code_320 rfl rfl ?_
  refine k_iload C X d_prog_17_method_4_code_322 rfl rfl ?_
  refine k_icmp_ge C X d_prog_17_method_4_code_324 rfl (tpc := 413) rfl (fun _ => ?_) (fun hc => (absurd hc (by decide) : False).elim)
  refine k_iinc C X d_prog_17_method_4_code_413 rfl (v := 1) rfl rfl (l' := #[.val (.ref a), .val (.ref qs), .val (.ref qg), .val (.ref qo), .val (.ref qn), .val (.int (2)), .val (.ref o6), .val (.ref o12), .val (.ref o18), .val (.double d122_10), .second, .val (.double d137_12), .second, .val (.double d152_14), .second, .val (.ref o252), .val (.double d297_17), .second, .val (.int (1)), .val (.int (2))]) rfl ?_
  refine k_goto C X d_prog_17_method_4_code_416 (tpc := 309) rfl ?_
  refine k_iload C X d_prog_17_method_4_code_309 rfl rfl ?_
  refine k_iload C X d_prog_17_method_4_code_311 rfl rfl ?_
  refine k_icmp_ge C X d_prog_17_method_4_code_313 rfl (tpc := 419) rfl (fun hc => (absurd hc (by decide) : False).elim) (fun _ => ?_)
  refine k_iload C X d_prog_17_method_4_code_316 rfl rfl ?_
  refine k_istore C X d_prog_17_method_4_code_318 rfl (l' := #[.val (.ref a), .val (.ref qs), .val (.ref qg), .val (.ref qo), .val (.ref qn), .val (.int (2)), .val (.ref o6), .val (.ref o12), .val (.ref o18), .val (.double d122_10), .second, .val (.double d137_12), .second, .val (.double d152_14), .second, .val (.ref o252), .val (.double d297_17), .second, .val (.int (1)), .val (.int (1))]) rfl ?_
  refine k_iload C X d_prog_17_method_4_code_320 rfl rfl ?_
  refine k_iload C X d_prog_17_method_4_code_322 rfl rfl ?_
  refine k_icmp_ge C X d_prog_17_method_4_code_324 rfl (tpc := 413) rfl (fun hc => (absurd hc (by decide) : False).elim) (fun _ => ?_)
  refine k_aloadN C X d_prog_17_method_4_code_327 rfl rfl rfl ?_
  refine k_getfield C X d_prog_17_method_4_code_328 rfl (host := "") (Or.inl (hw _ (List.mem_of_getElem? (i := 16) rfl))) (own_fL (ix := 4) (j := 0) rfl rfl) (fun T X => ?_)
  refine k_iload C X d_prog_17_method_4_code_331 rfl rfl ?_
  refine k_aaload C X d_prog_17_method_4_code_333 rfl (ix := 5) (i := 1) rfl rfl (by decide) (by decide) rfl ?_
  refine k_iload C X d_prog_17_method_4_code_334 rfl rfl ?_
  refine k_dup2 C X d_prog_17_method_4_code_336 rfl rfl rfl ?_
  refine k_daload C X d_prog_17_method_4_code_337 rfl (ix := 7) (i := 1) rfl (by decide) (by decide) rfl ?_
  refine k_aload C X d_prog_17_method_4_code_338 rfl rfl rfl ?_
  refine k_iload C X d_prog_17_method_4_code_340 rfl rfl ?_
  refine k_daload C X d_prog_17_method_4_code_342 rfl (ix := 0) (i := 1) rfl (by decide) (by decide) rfl ?_
  refine k_aload C X d_prog_17_method_4_code_343 rfl rfl rfl ?_
  refine k_iload C X d_prog_17_method_4_code_345 rfl rfl ?_
  refine k_daload C X d_prog_17_method_4_code_347 rfl (ix := 3) (i := 1) rfl (by decide) (by decide) rfl ?_
  refine k_dmul C X d_prog_17_method_4_code_348 rfl ((own_DB.mul i_d283_15 i_d54_3 (r := (0)) (by omega) (D := 0) rfl (by decide)).nn) (fun d348_28 ed348_28 => ?_)
  have i_d348_28 : own_DB 0 (0) d348_28 := by rw [ed348_28]; exact own_DB.mul i_d283_15 i_d54_3 (r := (0)) (by omega) (D := 0) rfl (by decide)
  refine k_aload C X d_prog_17_method_4_code_349 rfl rfl rfl ?_
  refine k_iload C X d_prog_17_method_4_code_351 rfl rfl ?_
  refine k_daload C X d_prog_17_method_4_code_353 rfl (ix := 3) (i := 1) rfl (by decide) (by decide) rfl ?_
  refine k_aload C X d_prog_17_method_4_code_354 rfl rfl rfl ?_
  refine k_iload C X d_prog_17_method_4_code_356 rfl rfl ?_
  refine k_daload C X d_prog_17_method_4_code_358 rfl (ix := 0) (i := 1) rfl (by decide) (by decide) rfl ?_
  refine k_dmul C X d_prog_17_method_4_code_359 rfl ((own_DB.mul i_d54_3 i_d283_15 (r := (0)) (by omega) (D := 0) rfl (by decide)).nn) (fun d359_29 ed359_29 => ?_)
  have i_d359_29 : own_DB 0 (0) d359_29 := by rw [ed359_29]; exact own_DB.mul i_d54_3 i_d283_15 (r := (0)) (by omega) (D := 0) rfl (by decide)
  refine k_dadd C X d_prog_17_method_4_code_360 rfl ((own_DB.add i_d348_28 i_d359_29 (r := (0)) (by omega) (D := 0) rfl (by decide)).nn) (fun d360_30 ed360_30 => ?_)
  have i_d360_30 : own_DB 0 (0) d360_30 := by rw [ed360_30]; exact own_DB.add i_d348_28 i_d359_29 (r := (0)) (by omega) (D := 0) rfl (by decide)
  refine k_dload C X d_prog_17_method_4_code_361 rfl rfl ?_
  refine k_ddiv C X d_prog_17_method_4_code_363 rfl ((own_DB.div i_d360_30 i_d122_10 (by decide)).nn) (fun d363_31 ed363_31 => ?_)
  have i_d363_31 : own_DB 0 (0) d363_31 := by rw [ed363_31]; exact own_DB.div i_d360_30 i_d122_10 (by decide)
  refine k_dload C X d_prog_17_method_4_code_364 rfl rfl ?_
  refine k_dload C X d_prog_17_method_4_code_366 rfl rfl ?_
  refine k_ddiv C X d_prog_17_method_4_code_368 rfl ((own_DB.div i_d297_17 i_d122_10 (by decide)).nn) (fun d368_32 ed368_32 => ?_)
  have i_d368_32 : own_DB 32768 (a_) d368_32 := by rw [ed368_32]; exact own_DB.div i_d297_17 i_d122_10 (by decide)
  refine k_aload C X d_prog_17_method_4_code_369 rfl rfl rfl ?_
  refine k_iload C X d_prog_17_method_4_code_371 rfl rfl ?_
  refine k_daload C X d_prog_17_method_4_code_373 rfl (ix := 3) (i := 1) rfl (by decide) (by decide) rfl ?_
  refine k_dload C X d_prog_17_method_4_code_374 rfl rfl ?_
  refine k_ddiv C X d_prog_17_method_4_code_376 rfl ((own_DB.div i_d54_3 i_d122_10 (by decide)).nn) (fun d376_33 ed376_33 => ?_)
  have i_d376_33 : own_DB 0 (0) d376_33 := by rw [ed376_33]; exact own_DB.div i_d54_3 i_d122_10 (by decide)
  refine k_dmul C X d_prog_17_method_4_code_377 rfl ((own_DB.mul i_d368_32 i_d376_33 (r := (0)) (by omega) (D := 0) rfl (by decide)).nn) (fun d377_34 ed377_34 => ?_)
  have i_d377_34 : own_DB 0 (0) d377_34 := by rw [ed377_34]; exact own_DB.mul i_d368_32 i_d376_33 (r := (0)) (by omega) (D := 0) rfl (by decide)
  refine k_aload C X d_prog_17_method_4_code_378 rfl rfl rfl ?_
  refine k_iload C X d_prog_17_method_4_code_380 rfl rfl ?_
  refine k_daload C X d_prog_17_method_4_code_382 rfl (ix := 3) (i := 1) rfl (by decide) (by decide) rfl ?_
  refine k_dmul C X d_prog_17_method_4_code_383 rfl ((own_DB.mul i_d377_34 i_d54_3 (r := (0)) (by omega) (D := 0) rfl (by decide)).nn) (fun d383_35 ed383_35 => ?_)
  have i_d383_35 : own_DB 0 (0) d383_35 := by rw [ed383_35]; exact own_DB.mul i_d377_34 i_d54_3 (r := (0)) (by omega) (D := 0) rfl (by decide)
  refine k_dsub C X d_prog_17_method_4_code_384 rfl ((own_DB.sub i_d363_31 i_d383_35 (r := (0)) (by omega) (D := 0) rfl (by decide)).nn) (fun d384_36 ed384_36 => ?_)
  have i_d384_36 : own_DB 0 (0) d384_36 := by rw [ed384_36]; exact own_DB.sub i_d363_31 i_d383_35 (r := (0)) (by omega) (D := 0) rfl (by decide)
  refine k_dadd C X d_prog_17_method_4_code_385 rfl ((own_DB.add own_DB.z i_d384_36 (r := (0)) (by omega) (D := 0) rfl (by decide)).nn) (fun d385_37 ed385_37 => ?_)
  have i_d385_37 : own_DB 0 (0) d385_37 := by rw [ed385_37]; exact own_DB.add own_DB.z i_d384_36 (r := (0)) (by omega) (D := 0) rfl (by decide)
  refine k_dastore C X d_prog_17_method_4_code_386 rfl (ix := 7) (i := 1) rfl (by decide) (by decide) (Nat.le_of_ble_eq_true rfl) (vs' := [(.double d385_27), (.double d385_37)]) rfl (L' := (o252, own_ar Z .double [(.double d283), (.double d283_15)]) :: (o18, own_ar Z .double [(.double d102_2), (.double d102_8)]) :: (o12, own_ar Z .double [(.double d69), (.double d69_4)]) :: (o6, own_ar Z .double [(.double d54), (.double d54_3)]) :: (a, own_ob Z "com/example/residuum/residuum/SecondOrderTerm" [("term", "[[D", (.ref g))]) :: (g, own_ar Z (.array .double) [(.ref r0), (.ref r1)]) :: (r0, own_ar Z .double [(.double d385), (.double d385_27)]) :: (r1, own_ar Z .double [(.double d385_27), (.double d385_37)]) :: (qs, own_ar Z .double [(.double 4607182418800017408), (.double 0)]) :: (qg, own_ar Z .double [(.double 4607182418800017408), (.double 0)]) :: (qo, own_ar Z .double [(.double xa), (.double 0)]) :: (qn, own_ar Z .double [(.double 0), (.double 0)]) :: L) rfl (fun T X => ?_)
  refine k_aloadN C X d_prog_17_method_4_code_387 rfl rfl rfl ?_
  refine k_getfield C X d_prog_17_method_4_code_388 rfl (host := "") (Or.inl (hw _ (List.mem_of_getElem? (i := 16) rfl))) (own_fL (ix := 4) (j := 0) rfl rfl) (fun T X => ?_)
  refine k_iload C X d_prog_17_method_4_code_391 rfl rfl ?_
  refine k_aaload C X d_prog_17_method_4_code_393 rfl (ix := 5) (i := 1) rfl rfl (by decide) (by decide) rfl ?_
  refine k_iload C X d_prog_17_method_4_code_394 rfl rfl ?_
  refine k_aloadN C X d_prog_17_method_4_code_396 rfl rfl rfl ?_
  refine k_getfield C X d_prog_17_method_4_code_397 rfl (host := "") (Or.inl (hw _ (List.mem_of_getElem? (i := 16) rfl))) (own_fL (ix := 4) (j := 0) rfl rfl) (fun T X => ?_)
  refine k_iload C X d_prog_17_method_4_code_400 rfl rfl ?_
  refine k_aaload C X d_prog_17_method_4_code_402 rfl (ix := 5) (i := 1) rfl rfl (by decide) (by decide) rfl ?_
  refine k_iload C X d_prog_17_method_4_code_403 rfl rfl ?_
  refine k_daload C X d_prog_17_method_4_code_405 rfl (ix := 7) (i := 1) rfl (by decide) (by decide) rfl ?_
  refine k_dastore C X d_prog_17_method_4_code_406 rfl (ix := 7) (i := 1) rfl (by decide) (by decide) (Nat.le_of_ble_eq_true rfl) (vs' := [(.double d385_27), (.double d385_37)]) rfl (L' := (o252, own_ar Z .double [(.double d283), (.double d283_15)]) :: (o18, own_ar Z .double [(.double d102_2), (.double d102_8)]) :: (o12, own_ar Z .double [(.double d69), (.double d69_4)]) :: (o6, own_ar Z .double [(.double d54), (.double d54_3)]) :: (a, own_ob Z "com/example/residuum/residuum/SecondOrderTerm" [("term", "[[D", (.ref g))]) :: (g, own_ar Z (.array .double) [(.ref r0), (.ref r1)]) :: (r0, own_ar Z .double [(.double d385), (.double d385_27)]) :: (r1, own_ar Z .double [(.double d385_27), (.double d385_37)]) :: (qs, own_ar Z .double [(.double 4607182418800017408), (.double 0)]) :: (qg, own_ar Z .double [(.double 4607182418800017408), (.double 0)]) :: (qo, own_ar Z .double [(.double xa), (.double 0)]) :: (qn, own_ar Z .double [(.double 0), (.double 0)]) :: L) rfl (fun T X => ?_)
  refine k_iinc C X d_prog_17_method_4_code_407 rfl (v := 1) rfl rfl (l' := #[.val (.ref a), .val (.ref qs), .val (.ref qg), .val (.ref qo), .val (.ref qn), .val (.int (2)), .val (.ref o6), .val (.ref o12), .val (.ref o18), .val (.double d122_10), .second, .val (.double d137_12), .second, .val (.double d152_14), .second, .val (.ref o252), .val (.double d297_17), .second, .val (.int (1)), .val (.int (2))]) rfl ?_
  refine k_goto C X d_prog_17_method_4_code_410 (tpc := 320) rfl ?_
  refine k_iload C X d_prog_17_method_4_code_320 rfl rfl ?_
  refine k_iload C X d_prog_17_method_4_code_322 rfl rfl ?_
  refine k_icmp_ge C X d_prog_17_method_4_code_324 rfl (tpc := 413) rfl (fun _ => ?_) (fun hc => (absurd hc (by decide) : False).elim)
  refine k_iinc C X d_prog_17_method_4_code_413 rfl (v := 1) rfl rfl (l' := #[.val (.ref a), .val (.ref qs), .val (.ref qg), .val (.ref qo), .val (.ref qn), .val (.int (2)), .val (.ref o6), .val (.ref o12), .val (.ref o18), .val (.double d122_10), .second, .val (.double d137_12), .second, .val (.double d152_14), .second, .val (.ref o252), .val (.double d297_17), .second, .val (.int (2)), .val (.int (2))]) rfl ?_
  refine k_goto C X d_prog_17_method_4_code_416 (tpc := 309) rfl ?_
  refine k_iload C X d_prog_17_method_4_code_309 rfl rfl ?_
  refine k_iload C X d_prog_17_method_4_code_311 rfl rfl ?_
  refine k_icmp_ge C X d_prog_17_method_4_code_313 rfl (tpc := 419) rfl (fun _ => ?_) (fun hc => (absurd hc (by decide) : False).elim)
  replace X := X.drop1
  replace X := X.drop1
  replace X := X.drop1
  replace X := X.drop1
  exact k_return C X d_prog_17_method_4_code_419 ⟨d385, d385_27, d385_37, rfl, i_d385, i_d385_27, i_d385_37, rfl⟩ (by decide) (by decide)
def rm_own_up2 : Room := { frames := 0, cells := 4, slots := 8, locals := 0 }
set_option maxRecDepth 65536 in
set_option maxHeartbeats 40000000 in
theorem own_up2 (l : Launch) (Z : State) (a0 : Array Value) (hw : ∀ d ∈ tables_1, d.before a0 Z = true) (a g r0 r1 qs qg qo qn : Addr) (a_ c_ d_ : Int) (xc xd t0 t1 t2 : UInt64) (hc_ : own_DB 32768 c_ xc) (hd_ : own_DB 32768 d_ xd) (h0 : own_DB 98304 a_ t0) (h1 : own_DB 0 (0) t1) (h2 : own_DB 0 (0) t2) (L : List (Addr × (Cell → Prop))) :
    own_Con l Z (⟨"com/example/residuum/residuum/SecondOrderTerm", "update", "([D[D[D[D)V"⟩ : MethodName) prog_17_method_4_code 20 none rm_own_up2 #[(.ref a), (.ref qs), (.ref qg), (.ref qo), (.ref qn)] ((a, own_ob Z "com/example/residuum/residuum/SecondOrderTerm" [("term", "[[D", (.ref g))]) :: (g, own_ar Z (.array .double) [(.ref r0), (.ref r1)]) :: (r0, own_ar Z .double [(.double t0), (.double t1)]) :: (r1, own_ar Z .double [(.double t1), (.double t2)]) :: (qs, own_ar Z .double [(.double 0), (.double 4607182418800017408)]) :: (qg, own_ar Z .double [(.double 0), (.double 4607182418800017408)]) :: (qo, own_ar Z .double [(.double xc), (.double xd)]) :: (qn, own_ar Z .double [(.double 0), (.double 0)]) :: L) (fun v M => ∃ x0 x1 x2, v = none ∧ own_DB 98304 (a_) x0 ∧ own_DB 32768 (c_) x1 ∧ own_DB 98304 (d_) x2 ∧ M = (a, own_ob Z "com/example/residuum/residuum/SecondOrderTerm" [("term", "[[D", (.ref g))]) :: (g, own_ar Z (.array .double) [(.ref r0), (.ref r1)]) :: (r0, own_ar Z .double [(.double x0), (.double x1)]) :: (r1, own_ar Z .double [(.double x1), (.double x2)]) :: (qs, own_ar Z .double [(.double 0), (.double 4607182418800017408)]) :: (qg, own_ar Z .double [(.double 0), (.double 4607182418800017408)]) :: (qo, own_ar Z .double [(.double xc), (.double xd)]) :: (qn, own_ar Z .double [(.double 0), (.double 0)]) :: L) := by
  refine own_con (ls := #[.val (.ref a), .val (.ref qs), .val (.ref qg), .val (.ref qo), .val (.ref qn), .unset, .unset, .unset, .unset, .unset, .unset, .unset, .unset, .unset, .unset, .unset, .unset, .unset, .unset, .unset]) (plainFor_of_name own_pn1) (fun m => own_ent m rfl) ?_
  intro p e s m below meth c T C X
  refine k_aloadN C X d_prog_17_method_4_code_0 rfl rfl rfl ?_
  refine k_arraylength C X d_prog_17_method_4_code_1 rfl (ix := 4) rfl (z := (2)) rfl ?_
  refine k_istore C X d_prog_17_method_4_code_2 rfl (l' := #[.val (.ref a), .val (.ref qs), .val (.ref qg), .val (.ref qo), .val (.ref qn), .val (.int (2)), .unset, .unset, .unset, .unset, .unset, .unset, .unset, .unset, .unset, .unset, .unset, .unset, .unset, .unset]) rfl ?_
  refine k_iload C X d_prog_17_method_4_code_4 rfl rfl ?_
  refine k_newarray C X d_prog_17_method_4_code_6 rfl (ty := .double) rfl (hw _ (List.mem_of_getElem? (i := 4) rfl)) (by decide) (cap := 2) (by decide) (by decide) (by decide) (by decide) (vs := [(.double 0), (.double 0)]) rfl (fun T o6 X => ?_)
  refine k_astore C X d_prog_17_method_4_code_8 rfl rfl (l' := #[.val (.ref a), .val (.ref qs), .val (.ref qg), .val (.ref qo), .val (.ref qn), .val (.int (2)), .val (.ref o6), .unset, .unset, .unset, .unset, .unset, .unset, .unset, .unset, .unset, .unset, .unset, .unset, .unset]) rfl ?_
  refine k_iload C X d_prog_17_method_4_code_10 rfl rfl ?_
  refine k_newarray C X d_prog_17_method_4_code_12 rfl (ty := .double) rfl (hw _ (List.mem_of_getElem? (i := 4) rfl)) (by decide) (cap := 2) (by decide) (by decide) (by decide) (by decide) (vs := [(.double 0), (.double 0)]) rfl (fun T o12 X => ?_)
  refine k_astore C X d_prog_17_method_4_code_14 rfl rfl (l' := #[.val (.ref a), .val (.ref qs), .val (.ref qg), .val (.ref qo), .val (.ref qn), .val (.int (2)), .val (.ref o6), .val (.ref o12), .unset, .unset, .unset, .unset, .unset, .unset, .unset, .unset, .unset, .unset, .unset, .unset]) rfl ?_
  refine k_iload C X d_prog_17_method_4_code_16 rfl rfl ?_
  refine k_newarray C X d_prog_17_method_4_code_18 rfl (ty := .double) rfl (hw _ (List.mem_of_getElem? (i := 4) rfl)) (by decide) (cap := 2) (by decide) (by decide) (by decide) (by decide) (vs := [(.double 0), (.double 0)]) rfl (fun T o18 X => ?_)
  refine k_astore C X d_prog_17_method_4_code_20 rfl rfl (l' := #[.val (.ref a), .val (.ref qs), .val (.ref qg), .val (.ref qo), .val (.ref qn), .val (.int (2)), .val (.ref o6), .val (.ref o12), .val (.ref o18), .unset, .unset, .unset, .unset, .unset, .unset, .unset, .unset, .unset, .unset, .unset]) rfl ?_
  refine k_dconst0 C X d_prog_17_method_4_code_22 rfl ?_
  refine k_dstore C X d_prog_17_method_4_code_23 rfl (l' := #[.val (.ref a), .val (.ref qs), .val (.ref qg), .val (.ref qo), .val (.ref qn), .val (.int (2)), .val (.ref o6), .val (.ref o12), .val (.ref o18), .val (.double 0), .second, .unset, .unset, .unset, .unset, .unset, .unset, .unset, .unset, .unset]) rfl ?_
  refine k_dconst0 C X d_prog_17_method_4_code_25 rfl ?_
  refine k_dstore C X d_prog_17_method_4_code_26 rfl (l' := #[.val (.ref a), .val (.ref qs), .val (.ref qg), .val (.ref qo), .val (.ref qn), .val (.int (2)), .val (.ref o6), .val (.ref o12), .val (.ref o18), .val (.double 0), .second, .val (.double 0), .second, .unset, .unset, .unset, .unset, .unset, .unset, .unset]) rfl ?_
  refine k_dconst0 C X d_prog_17_method_4_code_28 rfl ?_
  refine k_dstore C X d_prog_17_method_4_code_29 rfl (l' := #[.val (.ref a), .val (.ref qs), .val (.ref qg), .val (.ref qo), .val (.ref qn), .val (.int (2)), .val (.ref o6), .val (.ref o12), .val (.ref o18), .val (.double 0), .second, .val (.double 0), .second, .val (.double 0), .second, .unset, .unset, .unset, .unset, .unset]) rfl ?_
  refine k_iconst C X d_prog_17_method_4_code_31 rfl (v := 0) rfl ?_
  refine k_istore C X d_prog_17_method_4_code_32 rfl (l' := #[.val (.ref a), .val (.ref qs), .val (.ref qg), .val (.ref qo), .val (.ref qn), .val (.int (2)), .val (.ref o6), .val (.ref o12), .val (.ref o18), .val (.double 0), .second, .val (.double 0), .second, .val (.double 0), .second, .val (.int (0)), .unset, .unset, .unset, .unset]) rfl ?_
  refine k_iload C X d_prog_17_method_4_code_34 rfl rfl ?_
  refine k_iload C X d_prog_17_method_4_code_36 rfl rfl ?_
  refine k_icmp_ge C X d_prog_17_method_4_code_38 rfl (tpc := 161) rfl (fun hc => (absurd hc (by decide) : False).elim) (fun _ => ?_)
  refine k_aload C X d_prog_17_method_4_code_41 rfl rfl rfl ?_
  refine k_iload C X d_prog_17_method_4_code_43 rfl rfl ?_
  refine k_aloadN C X d_prog_17_method_4_code_45 rfl rfl rfl ?_
  refine k_iload C X d_prog_17_method_4_code_46 rfl rfl ?_
  refine k_daload C X d_prog_17_method_4_code_48 rfl (ix := 8) (i := 0) rfl (by decide) (by decide) rfl ?_
  refine k_aload C X d_prog_17_method_4_code_49 rfl rfl rfl ?_
  refine k_iload C X d_prog_17_method_4_code_51 rfl rfl ?_
  refine k_daload C X d_prog_17_method_4_code_53 rfl (ix := 10) (i := 0) rfl (by decide) (by decide) rfl ?_
  refine k_dsub C X d_prog_17_method_4_code_54 rfl ((own_DB.sub own_DB.z own_DB.z (r := (0)) (by omega) (D := 0) rfl (by decide)).nn) (fun d54 ed54 => ?_)
  have i_d54 : own_DB 0 (0) d54 := by rw [ed54]; exact own_DB.sub own_DB.z own_DB.z (r := (0)) (by omega) (D := 0) rfl (by decide)
  refine k_dastore C X d_prog_17_method_4_code_55 rfl (ix := 2) (i := 0) rfl (by decide) (by decide) (Nat.le_of_ble_eq_true rfl) (vs' := [(.double d54), (.double 0)]) rfl (L' := (o18, own_ar Z .double [(.double 0), (.double 0)]) :: (o12, own_ar Z .double [(.double 0), (.double 0)]) :: (o6, own_ar Z .double [(.double d54), (.double 0)]) :: (a, own_ob Z "com/example/residuum/residuum/SecondOrderTerm" [("term", "[[D", (.ref g))]) :: (g, own_ar Z (.array .double) [(.ref r0), (.ref r1)]) :: (r0, own_ar Z .double [(.double t0), (.double t1)]) :: (r1, own_ar Z .double [(.double t1), (.double t2)]) :: (qs, own_ar Z .double [(.double 0), (.double 4607182418800017408)]) :: (qg, own_ar Z .double [(.double 0), (.double 4607182418800017408)]) :: (qo, own_ar Z .double [(.double xc), (.double xd)]) :: (qn, own_ar Z .double [(.double 0), (.double 0)]) :: L) rfl (fun T X => ?_)
  refine k_aload C X d_prog_17_method_4_code_56 rfl rfl rfl ?_
  refine k_iload C X d_prog_17_method_4_code_58 rfl rfl ?_
  refine k_aloadN C X d_prog_17_method_4_code_60 rfl rfl rfl ?_
  refine k_iload C X d_prog_17_method_4_code_61 rfl rfl ?_
  refine k_daload C X d_prog_17_method_4_code_63 rfl (ix := 9) (i := 0) rfl (by decide) (by decide) rfl ?_
  refine k_aload C X d_prog_17_method_4_code_64 rfl rfl rfl ?_
  refine k_iload C X d_prog_17_method_4_code_66 rfl rfl ?_
  refine k_daload C X d_prog_17_method_4_code_68 rfl (ix := 10) (i := 0) rfl (by decide) (by decide) rfl ?_
  refine k_dsub C X d_prog_17_method_4_code_69 rfl ((own_DB.sub hc_ own_DB.z (r := (c_)) (by omega) (D := 32768) rfl (by decide)).nn) (fun d69 ed69 => ?_)
  have i_d69 : own_DB 32768 (c_) d69 := by rw [ed69]; exact own_DB.sub hc_ own_DB.z (r := (c_)) (by omega) (D := 32768) rfl (by decide)
  refine k_dastore C X d_prog_17_method_4_code_70 rfl (ix := 1) (i := 0) rfl (by decide) (by decide) (Nat.le_of_ble_eq_true rfl) (vs' := [(.double d69), (.double 0)]) rfl (L' := (o18, own_ar Z .double [(.double 0), (.double 0)]) :: (o12, own_ar Z .double [(.double d69), (.double 0)]) :: (o6, own_ar Z .double [(.double d54), (.double 0)]) :: (a, own_ob Z "com/example/residuum/residuum/SecondOrderTerm" [("term", "[[D", (.ref g))]) :: (g, own_ar Z (.array .double) [(.ref r0), (.ref r1)]) :: (r0, own_ar Z .double [(.double t0), (.double t1)]) :: (r1, own_ar Z .double [(.double t1), (.double t2)]) :: (qs, own_ar Z .double [(.double 0), (.double 4607182418800017408)]) :: (qg, own_ar Z .double [(.double 0), (.double 4607182418800017408)]) :: (qo, own_ar Z .double [(.double xc), (.double xd)]) :: (qn, own_ar Z .double [(.double 0), (.double 0)]) :: L) rfl (fun T X => ?_)
  refine k_iconst C X d_prog_17_method_4_code_71 rfl (v := 0) rfl ?_
  refine k_istore C X d_prog_17_method_4_code_72 rfl (l' := #[.val (.ref a), .val (.ref qs), .val (.ref qg), .val (.ref qo), .val (.ref qn), .val (.int (2)), .val (.ref o6), .val (.ref o12), .val (.ref o18), .val (.double 0), .second, .val (.double 0), .second, .val (.double 0), .second, .val (.int (0)), .val (.int (0)), .unset, .unset, .unset]) rfl ?_
  refine k_iload C X d_prog_17_method_4_code_74 rfl rfl ?_
  refine k_iload C X d_prog_17_method_4_code_76 rfl rfl ?_
  refine k_icmp_ge C X d_prog_17_method_4_code_78 rfl (tpc := 110) rfl (fun hc => (absurd hc (by decide) : False).elim) (fun _ => ?_)
  refine k_aload C X d_prog_17_method_4_code_81 rfl rfl rfl ?_
  refine k_iload C X d_prog_17_method_4_code_83 rfl rfl ?_
  refine k_dup2 C X d_prog_17_method_4_code_85 rfl rfl rfl ?_
  refine k_daload C X d_prog_17_method_4_code_86 rfl (ix := 0) (i := 0) rfl (by decide) (by decide) rfl ?_
  refine k_aloadN C X d_prog_17_method_4_code_87 rfl rfl rfl ?_
  refine k_getfield C X d_prog_17_method_4_code_88 rfl (host := "") (Or.inl (hw _ (List.mem_of_getElem? (i := 16) rfl))) (own_fL (ix := 3) (j := 0) rfl rfl) (fun T X => ?_)
  refine k_iload C X d_prog_17_method_4_code_91 rfl rfl ?_
  refine k_aaload C X d_prog_17_method_4_code_93 rfl (ix := 4) (i := 0) rfl rfl (by decide) (by decide) rfl ?_
  refine k_iload C X d_prog_17_method_4_code_94 rfl rfl ?_
  refine k_daload C X d_prog_17_method_4_code_96 rfl (ix := 5) (i := 0) rfl (by decide) (by decide) rfl ?_
  refine k_aloadN C X d_prog_17_method_4_code_97 rfl rfl rfl ?_
  refine k_iload C X d_prog_17_method_4_code_98 rfl rfl ?_
  refine k_daload C X d_prog_17_method_4_code_100 rfl (ix := 7) (i := 0) rfl (by decide) (by decide) rfl ?_
  refine k_dmul C X d_prog_17_method_4_code_101 rfl ((own_DB.mul h0 own_DB.z (r := (0)) (by omega) (D := 0) rfl (by decide)).nn) (fun d101 ed101 => ?_)
  have i_d101 : own_DB 0 (0) d101 := by rw [ed101]; exact own_DB.mul h0 own_DB.z (r := (0)) (by omega) (D := 0) rfl (by decide)
  refine k_dadd C X d_prog_17_method_4_code_102 rfl ((own_DB.add own_DB.z i_d101 (r := (0)) (by omega) (D := 0) rfl (by decide)).nn) (fun d102 ed102 => ?_)
  have i_d102 : own_DB 0 (0) d102 := by rw [ed102]; exact own_DB.add own_DB.z i_d101 (r := (0)) (by omega) (D := 0) rfl (by decide)
  refine k_dastore C X d_prog_17_method_4_code_103 rfl (ix := 0) (i := 0) rfl (by decide) (by decide) (Nat.le_of_ble_eq_true rfl) (vs' := [(.double d102), (.double 0)]) rfl (L' := (o18, own_ar Z .double [(.double d102), (.double 0)]) :: (o12, own_ar Z .double [(.double d69), (.double 0)]) :: (o6, own_ar Z .double [(.double d54), (.double 0)]) :: (a, own_ob Z "com/example/residuum/residuum/SecondOrderTerm" [("term", "[[D", (.ref g))]) :: (g, own_ar Z (.array .double) [(.ref r0), (.ref r1)]) :: (r0, own_ar Z .double [(.double t0), (.double t1)]) :: (r1, own_ar Z .double [(.double t1), (.double t2)]) :: (qs, own_ar Z .double [(.double 0), (.double 4607182418800017408)]) :: (qg, own_ar Z .double [(.double 0), (.double 4607182418800017408)]) :: (qo, own_ar Z .double [(.double xc), (.double xd)]) :: (qn, own_ar Z .double [(.double 0), (.double 0)]) :: L) rfl (fun T X => ?_)
  refine k_iinc C X d_prog_17_method_4_code_104 rfl (v := 1) rfl rfl (l' := #[.val (.ref a), .val (.ref qs), .val (.ref qg), .val (.ref qo), .val (.ref qn), .val (.int (2)), .val (.ref o6), .val (.ref o12), .val (.ref o18), .val (.double 0), .second, .val (.double 0), .second, .val (.double 0), .second, .val (.int (0)), .val (.int (1)), .unset, .unset, .unset]) rfl ?_
  refine k_goto C X d_prog_17_method_4_code_107 (tpc := 74) rfl ?_
  refine k_iload C X d_prog_17_method_4_code_74 rfl rfl ?_
  refine k_iload C X d_prog_17_method_4_code_76 rfl rfl ?_
  refine k_icmp_ge C X d_prog_17_method_4_code_78 rfl (tpc := 110) rfl (fun hc => (absurd hc (by decide) : False).elim) (fun _ => ?_)
  refine k_aload C X d_prog_17_method_4_code_81 rfl rfl rfl ?_
  refine k_iload C X d_prog_17_method_4_code_83 rfl rfl ?_
  refine k_dup2 C X d_prog_17_method_4_code_85 rfl rfl rfl ?_
  refine k_daload C X d_prog_17_method_4_code_86 rfl (ix := 0) (i := 0) rfl (by decide) (by decide) rfl ?_
  refine k_aloadN C X d_prog_17_method_4_code_87 rfl rfl rfl ?_
  refine k_getfield C X d_prog_17_method_4_code_88 rfl (host := "") (Or.inl (hw _ (List.mem_of_getElem? (i := 16) rfl))) (own_fL (ix := 3) (j := 0) rfl rfl) (fun T X => ?_)
  refine k_iload C X d_prog_17_method_4_code_91 rfl rfl ?_
  refine k_aaload C X d_prog_17_method_4_code_93 rfl (ix := 4) (i := 0) rfl rfl (by decide) (by decide) rfl ?_
  refine k_iload C X d_prog_17_method_4_code_94 rfl rfl ?_
  refine k_daload C X d_prog_17_method_4_code_96 rfl (ix := 5) (i := 1) rfl (by decide) (by decide) rfl ?_
  refine k_aloadN C X d_prog_17_method_4_code_97 rfl rfl rfl ?_
  refine k_iload C X d_prog_17_method_4_code_98 rfl rfl ?_
  refine k_daload C X d_prog_17_method_4_code_100 rfl (ix := 7) (i := 1) rfl (by decide) (by decide) rfl ?_
  refine k_dmul C X d_prog_17_method_4_code_101 rfl ((own_DB.mul h1 own_DB.o (r := (0)) (by omega) (D := 0) rfl (by decide)).nn) (fun d101_1 ed101_1 => ?_)
  have i_d101_1 : own_DB 0 (0) d101_1 := by rw [ed101_1]; exact own_DB.mul h1 own_DB.o (r := (0)) (by omega) (D := 0) rfl (by decide)
  refine k_dadd C X d_prog_17_method_4_code_102 rfl ((own_DB.add i_d102 i_d101_1 (r := (0)) (by omega) (D := 0) rfl (by decide)).nn) (fun d102_2 ed102_2 => ?_)
  have i_d102_2 : own_DB 0 (0) d102_2 := by rw [ed102_2]; exact own_DB.add i_d102 i_d101_1 (r := (0)) (by omega) (D := 0) rfl (by decide)
  refine k_dastore C X d_prog_17_method_4_code_103 rfl (ix := 0) (i := 0) rfl (by decide) (by decide) (Nat.le_of_ble_eq_true rfl) (vs' := [(.double d102_2), (.double 0)]) rfl (L' := (o18, own_ar Z .double [(.double d102_2), (.double 0)]) :: (o12, own_ar Z .double [(.double d69), (.double 0)]) :: (o6, own_ar Z .double [(.double d54), (.double 0)]) :: (a, own_ob Z "com/example/residuum/residuum/SecondOrderTerm" [("term", "[[D", (.ref g))]) :: (g, own_ar Z (.array .double) [(.ref r0), (.ref r1)]) :: (r0, own_ar Z .double [(.double t0), (.double t1)]) :: (r1, own_ar Z .double [(.double t1), (.double t2)]) :: (qs, own_ar Z .double [(.double 0), (.double 4607182418800017408)]) :: (qg, own_ar Z .double [(.double 0), (.double 4607182418800017408)]) :: (qo, own_ar Z .double [(.double xc), (.double xd)]) :: (qn, own_ar Z .double [(.double 0), (.double 0)]) :: L) rfl (fun T X => ?_)
  refine k_iinc C X d_prog_17_method_4_code_104 rfl (v := 1) rfl rfl (l' := #[.val (.ref a), .val (.ref qs), .val (.ref qg), .val (.ref qo), .val (.ref qn), .val (.int (2)), .val (.ref o6), .val (.ref o12), .val (.ref o18), .val (.double 0), .second, .val (.double 0), .second, .val (.double 0), .second, .val (.int (0)), .val (.int (2)), .unset, .unset, .unset]) rfl ?_
  refine k_goto C X d_prog_17_method_4_code_107 (tpc := 74) rfl ?_
  refine k_iload C X d_prog_17_method_4_code_74 rfl rfl ?_
  refine k_iload C X d_prog_17_method_4_code_76 rfl rfl ?_
  refine k_icmp_ge C X d_prog_17_method_4_code_78 rfl (tpc := 110) rfl (fun _ => ?_) (fun hc => (absurd hc (by decide) : False).elim)
  refine k_dload C X d_prog_17_method_4_code_110 rfl rfl ?_
  refine k_aload C X d_prog_17_method_4_code_112 rfl rfl rfl ?_
  refine k_iload C X d_prog_17_method_4_code_114 rfl rfl ?_
  refine k_daload C X d_prog_17_method_4_code_116 rfl (ix := 2) (i := 0) rfl (by decide) (by decide) rfl ?_
  refine k_aloadN C X d_prog_17_method_4_code_117 rfl rfl rfl ?_
  refine k_iload C X d_prog_17_method_4_code_118 rfl rfl ?_
  refine k_daload C X d_prog_17_method_4_code_120 rfl (ix := 7) (i := 0) rfl (by decide) (by decide) rfl ?_
  refine k_dmul C X d_prog_17_method_4_code_121 rfl ((own_DB.mul i_d54 own_DB.z (r := (0)) (by omega) (D := 0) rfl (by decide)).nn) (fun d121 ed121 => ?_)
  have i_d121 : own_DB 0 (0) d121 := by rw [ed121]; exact own_DB.mul i_d54 own_DB.z (r := (0)) (by omega) (D := 0) rfl (by decide)
  refine k_dadd C X d_prog_17_method_4_code_122 rfl ((own_DB.add own_DB.z i_d121 (r := (0)) (by omega) (D := 0) rfl (by decide)).nn) (fun d122 ed122 => ?_)
  have i_d122 : own_DB 0 (0) d122 := by rw [ed122]; exact own_DB.add own_DB.z i_d121 (r := (0)) (by omega) (D := 0) rfl (by decide)
  refine k_dstore C X d_prog_17_method_4_code_123 rfl (l' := #[.val (.ref a), .val (.ref qs), .val (.ref qg), .val (.ref qo), .val (.ref qn), .val (.int (2)), .val (.ref o6), .val (.ref o12), .val (.ref o18), .val (.double d122), .second, .val (.double 0), .second, .val (.double 0), .second, .val (.int (0)), .val (.int (2)), .unset, .unset, .unset]) rfl ?_
  refine k_dload C X d_prog_17_method_4_code_125 rfl rfl ?_
  refine k_aloadN C X d_prog_17_method_4_code_127 rfl rfl rfl ?_
  refine k_iload C X d_prog_17_method_4_code_128 rfl rfl ?_
  refine k_daload C X d_prog_17_method_4_code_130 rfl (ix := 7) (i := 0) rfl (by decide) (by decide) rfl ?_
  refine k_aload C X d_prog_17_method_4_code_131 rfl rfl rfl ?_
  refine k_iload C X d_prog_17_method_4_code_133 rfl rfl ?_
  refine k_daload C X d_prog_17_method_4_code_135 rfl (ix := 1) (i := 0) rfl (by decide) (by decide) rfl ?_
  refine k_dmul C X d_prog_17_method_4_code_136 rfl ((own_DB.mul own_DB.z i_d69 (r := (0)) (by omega) (D := 0) rfl (by decide)).nn) (fun d136 ed136 => ?_)
  have i_d136 : own_DB 0 (0) d136 := by rw [ed136]; exact own_DB.mul own_DB.z i_d69 (r := (0)) (by omega) (D := 0) rfl (by decide)
  refine k_dadd C X d_prog_17_method_4_code_137 rfl ((own_DB.add own_DB.z i_d136 (r := (0)) (by omega) (D := 0) rfl (by decide)).nn) (fun d137 ed137 => ?_)
  have i_d137 : own_DB 0 (0) d137 := by rw [ed137]; exact own_DB.add own_DB.z i_d136 (r := (0)) (by omega) (D := 0) rfl (by decide)
  refine k_dstore C X d_prog_17_method_4_code_138 rfl (l' := #[.val (.ref a), .val (.ref qs), .val (.ref qg), .val (.ref qo), .val (.ref qn), .val (.int (2)), .val (.ref o6), .val (.ref o12), .val (.ref o18), .val (.double d122), .second, .val (.double d137), .second, .val (.double 0), .second, .val (.int (0)), .val (.int (2)), .unset, .unset, .unset]) rfl ?_
  refine k_dload C X d_prog_17_method_4_code_140 rfl rfl ?_
  refine k_aloadN C X d_prog_17_method_4_code_142 rfl rfl rfl ?_
  refine k_iload C X d_prog_17_method_4_code_143 rfl rfl ?_
  refine k_daload C X d_prog_17_method_4_code_145 rfl (ix := 7) (i := 0) rfl (by decide) (by decide) rfl ?_
  refine k_aload C X d_prog_17_method_4_code_146 rfl rfl rfl ?_
  refine k_iload C X d_prog_17_method_4_code_148 rfl rfl ?_
  refine k_daload C X d_prog_17_method_4_code_150 rfl (ix := 0) (i := 0) rfl (by decide) (by decide) rfl ?_
  refine k_dmul C X d_prog_17_method_4_code_151 rfl ((own_DB.mul own_DB.z i_d102_2 (r := (0)) (by omega) (D := 0) rfl (by decide)).nn) (fun d151 ed151 => ?_)
  have i_d151 : own_DB 0 (0) d151 := by rw [ed151]; exact own_DB.mul own_DB.z i_d102_2 (r := (0)) (by omega) (D := 0) rfl (by decide)
  refine k_dadd C X d_prog_17_method_4_code_152 rfl ((own_DB.add own_DB.z i_d151 (r := (0)) (by omega) (D := 0) rfl (by decide)).nn) (fun d152 ed152 => ?_)
  have i_d152 : own_DB 0 (0) d152 := by rw [ed152]; exact own_DB.add own_DB.z i_d151 (r := (0)) (by omega) (D := 0) rfl (by decide)
  refine k_dstore C X d_prog_17_method_4_code_153 rfl (l' := #[.val (.ref a), .val (.ref qs), .val (.ref qg), .val (.ref qo), .val (.ref qn), .val (.int (2)), .val (.ref o6), .val (.ref o12), .val (.ref o18), .val (.double d122), .second, .val (.double d137), .second, .val (.double d152), .second, .val (.int (0)), .val (.int (2)), .unset, .unset, .unset]) rfl ?_
  refine k_iinc C X d_prog_17_method_4_code_155 rfl (v := 1) rfl rfl (l' := #[.val (.ref a), .val (.ref qs), .val (.ref qg), .val (.ref qo), .val (.ref qn), .val (.int (2)), .val (.ref o6), .val (.ref o12), .val (.ref o18), .val (.double d122), .second, .val (.double d137), .second, .val (.double d152), .second, .val (.int (1)), .val (.int (2)), .unset, .unset, .unset]) rfl ?_
  refine k_goto C X d_prog_17_method_4_code_158 (tpc := 34) rfl ?_
  refine k_iload C X d_prog_17_method_4_code_34 rfl rfl ?_
  refine k_iload C X d_prog_17_method_4_code_36 rfl rfl ?_
  refine k_icmp_ge C X d_prog_17_method_4_code_38 rfl (tpc := 161) rfl (fun hc => (absurd hc (by decide) : False).elim) (fun _ => ?_)
  refine k_aload C X d_prog_17_method_4_code_41 rfl rfl rfl ?_
  refine k_iload C X d_prog_17_method_4_code_43 rfl rfl ?_
  refine k_aloadN C X d_prog_17_method_4_code_45 rfl rfl rfl ?_
  refine k_iload C X d_prog_17_method_4_code_46 rfl rfl ?_
  refine k_daload C X d_prog_17_method_4_code_48 rfl (ix := 8) (i := 1) rfl (by decide) (by decide) rfl ?_
  refine k_aload C X d_prog_17_method_4_code_49 rfl rfl rfl ?_
  refine k_iload C X d_prog_17_method_4_code_51 rfl rfl ?_
  refine k_daload C X d_prog_17_method_4_code_53 rfl (ix := 10) (i := 1) rfl (by decide) (by decide) rfl ?_
  refine k_dsub C X d_prog_17_method_4_code_54 rfl ((own_DB.sub own_DB.o own_DB.z (r := ((1))) (by omega) (D := 1) rfl (by decide)).nn) (fun d54_3 ed54_3 => ?_)
  have i_d54_3 : own_DB 1 ((1)) d54_3 := by rw [ed54_3]; exact own_DB.sub own_DB.o own_DB.z (r := ((1))) (by omega) (D := 1) rfl (by decide)
  refine k_dastore C X d_prog_17_method_4_code_55 rfl (ix := 2) (i := 1) rfl (by decide) (by decide) (Nat.le_of_ble_eq_true rfl) (vs' := [(.double d54), (.double d54_3)]) rfl (L' := (o18, own_ar Z .double [(.double d102_2), (.double 0)]) :: (o12, own_ar Z .double [(.double d69), (.double 0)]) :: (o6, own_ar Z .double [(.double d54), (.double d54_3)]) :: (a, own_ob Z "com/example/residuum/residuum/SecondOrderTerm" [("term", "[[D", (.ref g))]) :: (g, own_ar Z (.array .double) [(.ref r0), (.ref r1)]) :: (r0, own_ar Z .double [(.double t0), (.double t1)]) :: (r1, own_ar Z .double [(.double t1), (.double t2)]) :: (qs, own_ar Z .double [(.double 0), (.double 4607182418800017408)]) :: (qg, own_ar Z .double [(.double 0), (.double 4607182418800017408)]) :: (qo, own_ar Z .double [(.double xc), (.double xd)]) :: (qn, own_ar Z .double [(.double 0), (.double 0)]) :: L) rfl (fun T X => ?_)
  refine k_aload C X d_prog_17_method_4_code_56 rfl rfl rfl ?_
  refine k_iload C X d_prog_17_method_4_code_58 rfl rfl ?_
  refine k_aloadN C X d_prog_17_method_4_code_60 rfl rfl rfl ?_
  refine k_iload C X d_prog_17_method_4_code_61 rfl rfl ?_
  refine k_daload C X d_prog_17_method_4_code_63 rfl (ix := 9) (i := 1) rfl (by decide) (by decide) rfl ?_
  refine k_aload C X d_prog_17_method_4_code_64 rfl rfl rfl ?_
  refine k_iload C X d_prog_17_method_4_code_66 rfl rfl ?_
  refine k_daload C X d_prog_17_method_4_code_68 rfl (ix := 10) (i := 1) rfl (by decide) (by decide) rfl ?_
  refine k_dsub C X d_prog_17_method_4_code_69 rfl ((own_DB.sub hd_ own_DB.z (r := (d_)) (by omega) (D := 32768) rfl (by decide)).nn) (fun d69_4 ed69_4 => ?_)
  have i_d69_4 : own_DB 32768 (d_) d69_4 := by rw [ed69_4]; exact own_DB.sub hd_ own_DB.z (r := (d_)) (by omega) (D := 32768) rfl (by decide)
  refine k_dastore C X d_prog_17_method_4_code_70 rfl (ix := 1) (i := 1) rfl (by decide) (by decide) (Nat.le_of_ble_eq_true rfl) (vs' := [(.double d69), (.double d69_4)]) rfl (L' := (o18, own_ar Z .double [(.double d102_2), (.double 0)]) :: (o12, own_ar Z .double [(.double d69), (.double d69_4)]) :: (o6, own_ar Z .double [(.double d54), (.double d54_3)]) :: (a, own_ob Z "com/example/residuum/residuum/SecondOrderTerm" [("term", "[[D", (.ref g))]) :: (g, own_ar Z (.array .double) [(.ref r0), (.ref r1)]) :: (r0, own_ar Z .double [(.double t0), (.double t1)]) :: (r1, own_ar Z .double [(.double t1), (.double t2)]) :: (qs, own_ar Z .double [(.double 0), (.double 4607182418800017408)]) :: (qg, own_ar Z .double [(.double 0), (.double 4607182418800017408)]) :: (qo, own_ar Z .double [(.double xc), (.double xd)]) :: (qn, own_ar Z .double [(.double 0), (.double 0)]) :: L) rfl (fun T X => ?_)
  refine k_iconst C X d_prog_17_method_4_code_71 rfl (v := 0) rfl ?_
  refine k_istore C X d_prog_17_method_4_code_72 rfl (l' := #[.val (.ref a), .val (.ref qs), .val (.ref qg), .val (.ref qo), .val (.ref qn), .val (.int (2)), .val (.ref o6), .val (.ref o12), .val (.ref o18), .val (.double d122), .second, .val (.double d137), .second, .val (.double d152), .second, .val (.int (1)), .val (.int (0)), .unset, .unset, .unset]) rfl ?_
  refine k_iload C X d_prog_17_method_4_code_74 rfl rfl ?_
  refine k_iload C X d_prog_17_method_4_code_76 rfl rfl ?_
  refine k_icmp_ge C X d_prog_17_method_4_code_78 rfl (tpc := 110) rfl (fun hc => (absurd hc (by decide) : False).elim) (fun _ => ?_)
  refine k_aload C X d_prog_17_method_4_code_81 rfl rfl rfl ?_
  refine k_iload C X d_prog_17_method_4_code_83 rfl rfl ?_
  refine k_dup2 C X d_prog_17_method_4_code_85 rfl rfl rfl ?_
  refine k_daload C X d_prog_17_method_4_code_86 rfl (ix := 0) (i := 1) rfl (by decide) (by decide) rfl ?_
  refine k_aloadN C X d_prog_17_method_4_code_87 rfl rfl rfl ?_
  refine k_getfield C X d_prog_17_method_4_code_88 rfl (host := "") (Or.inl (hw _ (List.mem_of_getElem? (i := 16) rfl))) (own_fL (ix := 3) (j := 0) rfl rfl) (fun T X => ?_)
  refine k_iload C X d_prog_17_method_4_code_91 rfl rfl ?_
  refine k_aaload C X d_prog_17_method_4_code_93 rfl (ix := 4) (i := 1) rfl rfl (by decide) (by decide) rfl ?_
  refine k_iload C X d_prog_17_method_4_code_94 rfl rfl ?_
  refine k_daload C X d_prog_17_method_4_code_96 rfl (ix := 6) (i := 0) rfl (by decide) (by decide) rfl ?_
  refine k_aloadN C X d_prog_17_method_4_code_97 rfl rfl rfl ?_
  refine k_iload C X d_prog_17_method_4_code_98 rfl rfl ?_
  refine k_daload C X d_prog_17_method_4_code_100 rfl (ix := 7) (i := 0) rfl (by decide) (by decide) rfl ?_
  refine k_dmul C X d_prog_17_method_4_code_101 rfl ((own_DB.mul h1 own_DB.z (r := (0)) (by omega) (D := 0) rfl (by decide)).nn) (fun d101_5 ed101_5 => ?_)
  have i_d101_5 : own_DB 0 (0) d101_5 := by rw [ed101_5]; exact own_DB.mul h1 own_DB.z (r := (0)) (by omega) (D := 0) rfl (by decide)
  refine k_dadd C X d_prog_17_method_4_code_102 rfl ((own_DB.add own_DB.z i_d101_5 (r := (0)) (by omega) (D := 0) rfl (by decide)).nn) (fun d102_6 ed102_6 => ?_)
  have i_d102_6 : own_DB 0 (0) d102_6 := by rw [ed102_6]; exact own_DB.add own_DB.z i_d101_5 (r := (0)) (by omega) (D := 0) rfl (by decide)
  refine k_dastore C X d_prog_17_method_4_code_103 rfl (ix := 0) (i := 1) rfl (by decide) (by decide) (Nat.le_of_ble_eq_true rfl) (vs' := [(.double d102_2), (.double d102_6)]) rfl (L' := (o18, own_ar Z .double [(.double d102_2), (.double d102_6)]) :: (o12, own_ar Z .double [(.double d69), (.double d69_4)]) :: (o6, own_ar Z .double [(.double d54), (.double d54_3)]) :: (a, own_ob Z "com/example/residuum/residuum/SecondOrderTerm" [("term", "[[D", (.ref g))]) :: (g, own_ar Z (.array .double) [(.ref r0), (.ref r1)]) :: (r0, own_ar Z .double [(.double t0), (.double t1)]) :: (r1, own_ar Z .double [(.double t1), (.double t2)]) :: (qs, own_ar Z .double [(.double 0), (.double 4607182418800017408)]) :: (qg, own_ar Z .double [(.double 0), (.double 4607182418800017408)]) :: (qo, own_ar Z .double [(.double xc), (.double xd)]) :: (qn, own_ar Z .double [(.double 0), (.double 0)]) :: L) rfl (fun T X => ?_)
  refine k_iinc C X d_prog_17_method_4_code_104 rfl (v := 1) rfl rfl (l' := #[.val (.ref a), .val (.ref qs), .val (.ref qg), .val (.ref qo), .val (.ref qn), .val (.int (2)), .val (.ref o6), .val (.ref o12), .val (.ref o18), .val (.double d122), .second, .val (.double d137), .second, .val (.double d152), .second, .val (.int (1)), .val (.int (1)), .unset, .unset, .unset]) rfl ?_
  refine k_goto C X d_prog_17_method_4_code_107 (tpc := 74) rfl ?_
  refine k_iload C X d_prog_17_method_4_code_74 rfl rfl ?_
  refine k_iload C X d_prog_17_method_4_code_76 rfl rfl ?_
  refine k_icmp_ge C X d_prog_17_method_4_code_78 rfl (tpc := 110) rfl (fun hc => (absurd hc (by decide) : False).elim) (fun _ => ?_)
  refine k_aload C X d_prog_17_method_4_code_81 rfl rfl rfl ?_
  refine k_iload C X d_prog_17_method_4_code_83 rfl rfl ?_
  refine k_dup2 C X d_prog_17_method_4_code_85 rfl rfl rfl ?_
  refine k_daload C X d_prog_17_method_4_code_86 rfl (ix := 0) (i := 1) rfl (by decide) (by decide) rfl ?_
  refine k_aloadN C X d_prog_17_method_4_code_87 rfl rfl rfl ?_
  refine k_getfield C X d_prog_17_method_4_code_88 rfl (host := "") (Or.inl (hw _ (List.mem_of_getElem? (i := 16) rfl))) (own_fL (ix := 3) (j := 0) rfl rfl) (fun T X => ?_)
  refine k_iload C X d_prog_17_method_4_code_91 rfl rfl ?_
  refine k_aaload C X d_prog_17_method_4_code_93 rfl (ix := 4) (i := 1) rfl rfl (by decide) (by decide) rfl ?_
  refine k_iload C X d_prog_17_method_4_code_94 rfl rfl ?_
  refine k_daload C X d_prog_17_method_4_code_96 rfl (ix := 6) (i := 1) rfl (by decide) (by decide) rfl ?_
  refine k_aloadN C X d_prog_17_method_4_code_97 rfl rfl rfl ?_
  refine k_iload C X d_prog_17_method_4_code_98 rfl rfl ?_
  refine k_daload C X d_prog_17_method_4_code_100 rfl (ix := 7) (i := 1) rfl (by decide) (by decide) rfl ?_
  refine k_dmul C X d_prog_17_method_4_code_101 rfl ((own_DB.mul h2 own_DB.o (r := (0)) (by omega) (D := 0) rfl (by decide)).nn) (fun d101_7 ed101_7 => ?_)
  have i_d101_7 : own_DB 0 (0) d101_7 := by rw [ed101_7]; exact own_DB.mul h2 own_DB.o (r := (0)) (by omega) (D := 0) rfl (by decide)
  refine k_dadd C X d_prog_17_method_4_code_102 rfl ((own_DB.add i_d102_6 i_d101_7 (r := (0)) (by omega) (D := 0) rfl (by decide)).nn) (fun d102_8 ed102_8 => ?_)
  have i_d102_8 : own_DB 0 (0) d102_8 := by rw [ed102_8]; exact own_DB.add i_d102_6 i_d101_7 (r := (0)) (by omega) (D := 0) rfl (by decide)
  refine k_dastore C X d_prog_17_method_4_code_103 rfl (ix := 0) (i := 1) rfl (by decide) (by decide) (Nat.le_of_ble_eq_true rfl) (vs' := [(.double d102_2), (.double d102_8)]) rfl (L' := (o18, own_ar Z .double [(.double d102_2), (.double d102_8)]) :: (o12, own_ar Z .double [(.double d69), (.double d69_4)]) :: (o6, own_ar Z .double [(.double d54), (.double d54_3)]) :: (a, own_ob Z "com/example/residuum/residuum/SecondOrderTerm" [("term", "[[D", (.ref g))]) :: (g, own_ar Z (.array .double) [(.ref r0), (.ref r1)]) :: (r0, own_ar Z .double [(.double t0), (.double t1)]) :: (r1, own_ar Z .double [(.double t1), (.double t2)]) :: (qs, own_ar Z .double [(.double 0), (.double 4607182418800017408)]) :: (qg, own_ar Z .double [(.double 0), (.double 4607182418800017408)]) :: (qo, own_ar Z .double [(.double xc), (.double xd)]) :: (qn, own_ar Z .double [(.double 0), (.double 0)]) :: L) rfl (fun T X => ?_)
  refine k_iinc C X d_prog_17_method_4_code_104 rfl (v := 1) rfl rfl (l' := #[.val (.ref a), .val (.ref qs), .val (.ref qg), .val (.ref qo), .val (.ref qn), .val (.int (2)), .val (.ref o6), .val (.ref o12), .val (.ref o18), .val (.double d122), .second, .val (.double d137), .second, .val (.double d152), .second, .val (.int (1)), .val (.int (2)), .unset, .unset, .unset]) rfl ?_
  refine k_goto C X d_prog_17_method_4_code_107 (tpc := 74) rfl ?_
  refine k_iload C X d_prog_17_method_4_code_74 rfl rfl ?_
  refine k_iload C X d_prog_17_method_4_code_76 rfl rfl ?_
  refine k_icmp_ge C X d_prog_17_method_4_code_78 rfl (tpc := 110) rfl (fun _ => ?_) (fun hc => (absurd hc (by decide) : False).elim)
  refine k_dload C X d_prog_17_method_4_code_110 rfl rfl ?_
  refine k_aload C X d_prog_17_method_4_code_112 rfl rfl rfl ?_
  refine k_iload C X d_prog_17_method_4_code_114 rfl rfl ?_
  refine k_daload C X d_prog_17_method_4_code_116 rfl (ix := 2) (i := 1) rfl (by decide) (by decide) rfl ?_
  refine k_aloadN C X d_prog_17_method_4_code_117 rfl rfl rfl ?_
  refine k_iload C X d_prog_17_method_4_code_118 rfl rfl ?_
  refine k_daload C X d_prog_17_method_4_code_120 rfl (ix := 7) (i := 1) rfl (by decide) (by decide) rfl ?_
  refine k_dmul C X d_prog_17_method_4_code_121 rfl ((own_DB.mul i_d54_3 own_DB.o (r := ((1))) (by omega) (D := 1) rfl (by decide)).nn) (fun d121_9 ed121_9 => ?_)
  have i_d121_9 : own_DB 1 ((1)) d121_9 := by rw [ed121_9]; exact own_DB.mul i_d54_3 own_DB.o (r := ((1))) (by omega) (D := 1) rfl (by decide)
  refine k_dadd C X d_prog_17_method_4_code_122 rfl ((own_DB.add i_d122 i_d121_9 (r := ((1))) (by omega) (D := 1) rfl (by decide)).nn) (fun d122_10 ed122_10 => ?_)
  have i_d122_10 : own_DB 1 ((1)) d122_10 := by rw [ed122_10]; exact own_DB.add i_d122 i_d121_9 (r := ((1))) (by omega) (D := 1) rfl (by decide)
  refine k_dstore C X d_prog_17_method_4_code_123 rfl (l' := #[.val (.ref a), .val (.ref qs), .val (.ref qg), .val (.ref qo), .val (.ref qn), .val (.int (2)), .val (.ref o6), .val (.ref o12), .val (.ref o18), .val (.double d122_10), .second, .val (.double d137), .second, .val (.double d152), .second, .val (.int (1)), .val (.int (2)), .unset, .unset, .unset]) rfl ?_
  refine k_dload C X d_prog_17_method_4_code_125 rfl rfl ?_
  refine k_aloadN C X d_prog_17_method_4_code_127 rfl rfl rfl ?_
  refine k_iload C X d_prog_17_method_4_code_128 rfl rfl ?_
  refine k_daload C X d_prog_17_method_4_code_130 rfl (ix := 7) (i := 1) rfl (by decide) (by decide) rfl ?_
  refine k_aload C X d_prog_17_method_4_code_131 rfl rfl rfl ?_
  refine k_iload C X d_prog_17_method_4_code_133 rfl rfl ?_
  refine k_daload C X d_prog_17_method_4_code_135 rfl (ix := 1) (i := 1) rfl (by decide) (by decide) rfl ?_
  refine k_dmul C X d_prog_17_method_4_code_136 rfl ((own_DB.mul own_DB.o i_d69_4 (r := (d_)) (by omega) (D := 32768) rfl (by decide)).nn) (fun d136_11 ed136_11 => ?_)
  have i_d136_11 : own_DB 32768 (d_) d136_11 := by rw [ed136_11]; exact own_DB.mul own_DB.o i_d69_4 (r := (d_)) (by omega) (D := 32768) rfl (by decide)
  refine k_dadd C X d_prog_17_method_4_code_137 rfl ((own_DB.add i_d137 i_d136_11 (r := (d_)) (by omega) (D := 32768) rfl (by decide)).nn) (fun d137_12 ed137_12 => ?_)
  have i_d137_12 : own_DB 32768 (d_) d137_12 := by rw [ed137_12]; exact own_DB.add i_d137 i_d136_11 (r := (d_)) (by omega) (D := 32768) rfl (by decide)
  refine k_dstore C X d_prog_17_method_4_code_138 rfl (l' := #[.val (.ref a), .val (.ref qs), .val (.ref qg), .val (.ref qo), .val (.ref qn), .val (.int (2)), .val (.ref o6), .val (.ref o12), .val (.ref o18), .val (.double d122_10), .second, .val (.double d137_12), .second, .val (.double d152), .second, .val (.int (1)), .val (.int (2)), .unset, .unset, .unset]) rfl ?_
  refine k_dload C X d_prog_17_method_4_code_140 rfl rfl ?_
  refine k_aloadN C X d_prog_17_method_4_code_142 rfl rfl rfl ?_
  refine k_iload C X d_prog_17_method_4_code_143 rfl rfl ?_
  refine k_daload C X d_prog_17_method_4_code_145 rfl (ix := 7) (i := 1) rfl (by decide) (by decide) rfl ?_
  refine k_aload C X d_prog_17_method_4_code_146 rfl rfl rfl ?_
  refine k_iload C X d_prog_17_method_4_code_148 rfl rfl ?_
  refine k_daload C X d_prog_17_method_4_code_150 rfl (ix := 0) (i := 1) rfl (by decide) (by decide) rfl ?_
  refine k_dmul C X d_prog_17_method_4_code_151 rfl ((own_DB.mul own_DB.o i_d102_8 (r := (0)) (by omega) (D := 0) rfl (by decide)).nn) (fun d151_13 ed151_13 => ?_)
  have i_d151_13 : own_DB 0 (0) d151_13 := by rw [ed151_13]; exact own_DB.mul own_DB.o i_d102_8 (r := (0)) (by omega) (D := 0) rfl (by decide)
  refine k_dadd C X d_prog_17_method_4_code_152 rfl ((own_DB.add i_d152 i_d151_13 (r := (0)) (by omega) (D := 0) rfl (by decide)).nn) (fun d152_14 ed152_14 => ?_)
  have i_d152_14 : own_DB 0 (0) d152_14 := by rw [ed152_14]; exact own_DB.add i_d152 i_d151_13 (r := (0)) (by omega) (D := 0) rfl (by decide)
  refine k_dstore C X d_prog_17_method_4_code_153 rfl (l' := #[.val (.ref a), .val (.ref qs), .val (.ref qg), .val (.ref qo), .val (.ref qn), .val (.int (2)), .val (.ref o6), .val (.ref o12), .val (.ref o18), .val (.double d122_10), .second, .val (.double d137_12), .second, .val (.double d152_14), .second, .val (.int (1)), .val (.int (2)), .unset, .unset, .unset]) rfl ?_
  refine k_iinc C X d_prog_17_method_4_code_155 rfl (v := 1) rfl rfl (l' := #[.val (.ref a), .val (.ref qs), .val (.ref qg), .val (.ref qo), .val (.ref qn), .val (.int (2)), .val (.ref o6), .val (.ref o12), .val (.ref o18), .val (.double d122_10), .second, .val (.double d137_12), .second, .val (.double d152_14), .second, .val (.int (2)), .val (.int (2)), .unset, .unset, .unset]) rfl ?_
  refine k_goto C X d_prog_17_method_4_code_158 (tpc := 34) rfl ?_
  refine k_iload C X d_prog_17_method_4_code_34 rfl rfl ?_
  refine k_iload C X d_prog_17_method_4_code_36 rfl rfl ?_
  refine k_icmp_ge C X d_prog_17_method_4_code_38 rfl (tpc := 161) rfl (fun _ => ?_) (fun hc => (absurd hc (by decide) : False).elim)
  refine k_dload C X d_prog_17_method_4_code_161 rfl rfl ?_
  refine k_dconst0 C X d_prog_17_method_4_code_163 rfl ?_
  refine k_dcmpl C X d_prog_17_method_4_code_164 rfl ?_
  refine k_ifdl_eq C X d_prog_17_method_4_code_165 rfl (tpc := 242) rfl (fun _ => ?_) (fun hc => (hc (i_d152_14.1.eqv own_DB.z.1 rfl) : False).elim)
  refine k_dload C X d_prog_17_method_4_code_242 rfl rfl ?_
  refine k_dconst0 C X d_prog_17_method_4_code_244 rfl ?_
  refine k_dcmpl C X d_prog_17_method_4_code_245 rfl ?_
  refine k_ifdl_gt C X d_prog_17_method_4_code_246 rfl (tpc := 250) rfl (fun _ => ?_) (fun hc => (hc (by rw [i_d122_10.1.cmp own_DB.z.1]; rfl) : False).elim)
  refine k_iload C X d_prog_17_method_4_code_250 rfl rfl ?_
  refine k_newarray C X d_prog_17_method_4_code_252 rfl (ty := .double) rfl (hw _ (List.mem_of_getElem? (i := 4) rfl)) (by decide) (cap := 2) (by decide) (by decide) (by decide) (by decide) (vs := [(.double 0), (.double 0)]) rfl (fun T o252 X => ?_)
  refine k_astore C X d_prog_17_method_4_code_254 rfl rfl (l' := #[.val (.ref a), .val (.ref qs), .val (.ref qg), .val (.ref qo), .val (.ref qn), .val (.int (2)), .val (.ref o6), .val (.ref o12), .val (.ref o18), .val (.double d122_10), .second, .val (.double d137_12), .second, .val (.double d152_14), .second, .val (.ref o252), .val (.int (2)), .unset, .unset, .unset]) rfl ?_
  refine k_dconst0 C X d_prog_17_method_4_code_256 rfl ?_
  refine k_dstore C X d_prog_17_method_4_code_257 rfl (l' := #[.val (.ref a), .val (.ref qs), .val (.ref qg), .val (.ref qo), .val (.ref qn), .val (.int (2)), .val (.ref o6), .val (.ref o12), .val (.ref o18), .val (.double d122_10), .second, .val (.double d137_12), .second, .val (.double d152_14), .second, .val (.ref o252), .val (.double 0), .second, .unset, .unset]) rfl ?_
  refine k_iconst C X d_prog_17_method_4_code_259 rfl (v := 0) rfl ?_
  refine k_istore C X d_prog_17_method_4_code_260 rfl (l' := #[.val (.ref a), .val (.ref qs), .val (.ref qg), .val (.ref qo), .val (.ref qn), .val (.int (2)), .val (.ref o6), .val (.ref o12), .val (.ref o18), .val (.double d122_10), .second, .val (.double d137_12), .second, .val (.double d152_14), .second, .val (.ref o252), .val (.double 0), .second, .val (.int (0)), .unset]) rfl ?_
  refine k_iload C X d_prog_17_method_4_code_262 rfl rfl ?_
  refine k_iload C X d_prog_17_method_4_code_264 rfl rfl ?_
  refine k_icmp_ge C X d_prog_17_method_4_code_266 rfl (tpc := 306) rfl (fun hc => (absurd hc (by decide) : False).elim) (fun _ => ?_)
  refine k_aload C X d_prog_17_method_4_code_269 rfl rfl rfl ?_
  refine k_iload C X d_prog_17_method_4_code_271 rfl rfl ?_
  refine k_aload C X d_prog_17_method_4_code_273 rfl rfl rfl ?_
  refine k_iload C X d_prog_17_method_4_code_275 rfl rfl ?_
  refine k_daload C X d_prog_17_method_4_code_277 rfl (ix := 2) (i := 0) rfl (by decide) (by decide) rfl ?_
  refine k_aload C X d_prog_17_method_4_code_278 rfl rfl rfl ?_
  refine k_iload C X d_prog_17_method_4_code_280 rfl rfl ?_
  refine k_daload C X d_prog_17_method_4_code_282 rfl (ix := 1) (i := 0) rfl (by decide) (by decide) rfl ?_
  refine k_dsub C X d_prog_17_method_4_code_283 rfl ((own_DB.sub i_d69 i_d102_2 (r := (c_)) (by omega) (D := 32768) rfl (by decide)).nn) (fun d283 ed283 => ?_)
  have i_d283 : own_DB 32768 (c_) d283 := by rw [ed283]; exact own_DB.sub i_d69 i_d102_2 (r := (c_)) (by omega) (D := 32768) rfl (by decide)
  refine k_dastore C X d_prog_17_method_4_code_284 rfl (ix := 0) (i := 0) rfl (by decide) (by decide) (Nat.le_of_ble_eq_true rfl) (vs' := [(.double d283), (.double 0)]) rfl (L' := (o252, own_ar Z .double [(.double d283), (.double 0)]) :: (o18, own_ar Z .double [(.double d102_2), (.double d102_8)]) :: (o12, own_ar Z .double [(.double d69), (.double d69_4)]) :: (o6, own_ar Z .double [(.double d54), (.double d54_3)]) :: (a, own_ob Z "com/example/residuum/residuum/SecondOrderTerm" [("term", "[[D", (.ref g))]) :: (g, own_ar Z (.array .double) [(.ref r0), (.ref r1)]) :: (r0, own_ar Z .double [(.double t0), (.double t1)]) :: (r1, own_ar Z .double [(.double t1), (.double t2)]) :: (qs, own_ar Z .double [(.double 0), (.double 4607182418800017408)]) :: (qg, own_ar Z .double [(.double 0), (.double 4607182418800017408)]) :: (qo, own_ar Z .double [(.double xc), (.double xd)]) :: (qn, own_ar Z .double [(.double 0), (.double 0)]) :: L) rfl (fun T X => ?_)
  refine k_dload C X d_prog_17_method_4_code_285 rfl rfl ?_
  refine k_aload C X d_prog_17_method_4_code_287 rfl rfl rfl ?_
  refine k_iload C X d_prog_17_method_4_code_289 rfl rfl ?_
  refine k_daload C X d_prog_17_method_4_code_291 rfl (ix := 0) (i := 0) rfl (by decide) (by decide) rfl ?_
  refine k_aloadN C X d_prog_17_method_4_code_292 rfl rfl rfl ?_
  refine k_iload C X d_prog_17_method_4_code_293 rfl rfl ?_
  refine k_daload C X d_prog_17_method_4_code_295 rfl (ix := 8) (i := 0) rfl (by decide) (by decide) rfl ?_
  refine k_dmul C X d_prog_17_method_4_code_296 rfl ((own_DB.mul i_d283 own_DB.z (r := (0)) (by omega) (D := 0) rfl (by decide)).nn) (fun d296 ed296 => ?_)
  have i_d296 : own_DB 0 (0) d296 := by rw [ed296]; exact own_DB.mul i_d283 own_DB.z (r := (0)) (by omega) (D := 0) rfl (by decide)
  refine k_dadd C X d_prog_17_method_4_code_297 rfl ((own_DB.add own_DB.z i_d296 (r := (0)) (by omega) (D := 0) rfl (by decide)).nn) (fun d297 ed297 => ?_)
  have i_d297 : own_DB 0 (0) d297 := by rw [ed297]; exact own_DB.add own_DB.z i_d296 (r := (0)) (by omega) (D := 0) rfl (by decide)
  refine k_dstore C X d_prog_17_method_4_code_298 rfl (l' := #[.val (.ref a), .val (.ref qs), .val (.ref qg), .val (.ref qo), .val (.ref qn), .val (.int (2)), .val (.ref o6), .val (.ref o12), .val (.ref o18), .val (.double d122_10), .second, .val (.double d137_12), .second, .val (.double d152_14), .second, .val (.ref o252), .val (.double d297), .second, .val (.int (0)), .unset]) rfl ?_
  refine k_iinc C X d_prog_17_method_4_code_300 rfl (v := 1) rfl rfl (l' := #[.val (.ref a), .val (.ref qs), .val (.ref qg), .val (.ref qo), .val (.ref qn), .val (.int (2)), .val (.ref o6), .val (.ref o12), .val (.ref o18), .val (.double d122_10), .second, .val (.double d137_12), .second, .val (.double d152_14), .second, .val (.ref o252), .val (.double d297), .second, .val (.int (1)), .unset]) rfl ?_
  refine k_goto C X d_prog_17_method_4_code_303 (tpc := 262) rfl ?_
  refine k_iload C X d_prog_17_method_4_code_262 rfl rfl ?_
  refine k_iload C X d_prog_17_method_4_code_264 rfl rfl ?_
  refine k_icmp_ge C X d_prog_17_method_4_code_266 rfl (tpc := 306) rfl (fun hc => (absurd hc (by decide) : False).elim) (fun _ => ?_)
  refine k_aload C X d_prog_17_method_4_code_269 rfl rfl rfl ?_
  refine k_iload C X d_prog_17_method_4_code_271 rfl rfl ?_
  refine k_aload C X d_prog_17_method_4_code_273 rfl rfl rfl ?_
  refine k_iload C X d_prog_17_method_4_code_275 rfl rfl ?_
  refine k_daload C X d_prog_17_method_4_code_277 rfl (ix := 2) (i := 1) rfl (by decide) (by decide) rfl ?_
  refine k_aload C X d_prog_17_method_4_code_278 rfl rfl rfl ?_
  refine k_iload C X d_prog_17_method_4_code_280 rfl rfl ?_
  refine k_daload C X d_prog_17_method_4_code_282 rfl (ix := 1) (i := 1) rfl (by decide) (by decide) rfl ?_
  refine k_dsub C X d_prog_17_method_4_code_283 rfl ((own_DB.sub i_d69_4 i_d102_8 (r := (d_)) (by omega) (D := 32768) rfl (by decide)).nn) (fun d283_15 ed283_15 => ?_)
  have i_d283_15 : own_DB 32768 (d_) d283_15 := by rw [ed283_15]; exact own_DB.sub i_d69_4 i_d102_8 (r := (d_)) (by omega) (D := 32768) rfl (by decide)
  refine k_dastore C X d_prog_17_method_4_code_284 rfl (ix := 0) (i := 1) rfl (by decide) (by decide) (Nat.le_of_ble_eq_true rfl) (vs' := [(.double d283), (.double d283_15)]) rfl (L' := (o252, own_ar Z .double [(.double d283), (.double d283_15)]) :: (o18, own_ar Z .double [(.double d102_2), (.double d102_8)]) :: (o12, own_ar Z .double [(.double d69), (.double d69_4)]) :: (o6, own_ar Z .double [(.double d54), (.double d54_3)]) :: (a, own_ob Z "com/example/residuum/residuum/SecondOrderTerm" [("term", "[[D", (.ref g))]) :: (g, own_ar Z (.array .double) [(.ref r0), (.ref r1)]) :: (r0, own_ar Z .double [(.double t0), (.double t1)]) :: (r1, own_ar Z .double [(.double t1), (.double t2)]) :: (qs, own_ar Z .double [(.double 0), (.double 4607182418800017408)]) :: (qg, own_ar Z .double [(.double 0), (.double 4607182418800017408)]) :: (qo, own_ar Z .double [(.double xc), (.double xd)]) :: (qn, own_ar Z .double [(.double 0), (.double 0)]) :: L) rfl (fun T X => ?_)
  refine k_dload C X d_prog_17_method_4_code_285 rfl rfl ?_
  refine k_aload C X d_prog_17_method_4_code_287 rfl rfl rfl ?_
  refine k_iload C X d_prog_17_method_4_code_289 rfl rfl ?_
  refine k_daload C X d_prog_17_method_4_code_291 rfl (ix := 0) (i := 1) rfl (by decide) (by decide) rfl ?_
  refine k_aloadN C X d_prog_17_method_4_code_292 rfl rfl rfl ?_
  refine k_iload C X d_prog_17_method_4_code_293 rfl rfl ?_
  refine k_daload C X d_prog_17_method_4_code_295 rfl (ix := 8) (i := 1) rfl (by decide) (by decide) rfl ?_
  refine k_dmul C X d_prog_17_method_4_code_296 rfl ((own_DB.mul i_d283_15 own_DB.o (r := (d_)) (by omega) (D := 32768) rfl (by decide)).nn) (fun d296_16 ed296_16 => ?_)
  have i_d296_16 : own_DB 32768 (d_) d296_16 := by rw [ed296_16]; exact own_DB.mul i_d283_15 own_DB.o (r := (d_)) (by omega) (D := 32768) rfl (by decide)
  refine k_dadd C X d_prog_17_method_4_code_297 rfl ((own_DB.add i_d297 i_d296_16 (r := (d_)) (by omega) (D := 32768) rfl (by decide)).nn) (fun d297_17 ed297_17 => ?_)
  have i_d297_17 : own_DB 32768 (d_) d297_17 := by rw [ed297_17]; exact own_DB.add i_d297 i_d296_16 (r := (d_)) (by omega) (D := 32768) rfl (by decide)
  refine k_dstore C X d_prog_17_method_4_code_298 rfl (l' := #[.val (.ref a), .val (.ref qs), .val (.ref qg), .val (.ref qo), .val (.ref qn), .val (.int (2)), .val (.ref o6), .val (.ref o12), .val (.ref o18), .val (.double d122_10), .second, .val (.double d137_12), .second, .val (.double d152_14), .second, .val (.ref o252), .val (.double d297_17), .second, .val (.int (1)), .unset]) rfl ?_
  refine k_iinc C X d_prog_17_method_4_code_300 rfl (v := 1) rfl rfl (l' := #[.val (.ref a), .val (.ref qs), .val (.ref qg), .val (.ref qo), .val (.ref qn), .val (.int (2)), .val (.ref o6), .val (.ref o12), .val (.ref o18), .val (.double d122_10), .second, .val (.double d137_12), .second, .val (.double d152_14), .second, .val (.ref o252), .val (.double d297_17), .second, .val (.int (2)), .unset]) rfl ?_
  refine k_goto C X d_prog_17_method_4_code_303 (tpc := 262) rfl ?_
  refine k_iload C X d_prog_17_method_4_code_262 rfl rfl ?_
  refine k_iload C X d_prog_17_method_4_code_264 rfl rfl ?_
  refine k_icmp_ge C X d_prog_17_method_4_code_266 rfl (tpc := 306) rfl (fun _ => ?_) (fun hc => (absurd hc (by decide) : False).elim)
  refine k_iconst C X d_prog_17_method_4_code_306 rfl (v := 0) rfl ?_
  refine k_istore C X d_prog_17_method_4_code_307 rfl (l' := #[.val (.ref a), .val (.ref qs), .val (.ref qg), .val (.ref qo), .val (.ref qn), .val (.int (2)), .val (.ref o6), .val (.ref o12), .val (.ref o18), .val (.double d122_10), .second, .val (.double d137_12), .second, .val (.double d152_14), .second, .val (.ref o252), .val (.double d297_17), .second, .val (.int (0)), .unset]) rfl ?_
  refine k_iload C X d_prog_17_method_4_code_309 rfl rfl ?_
  refine k_iload C X d_prog_17_method_4_code_311 rfl rfl ?_
  refine k_icmp_ge C X d_prog_17_method_4_code_313 rfl (tpc := 419) rfl (fun hc => (absurd hc (by decide) : False).elim) (fun _ => ?_)
  refine k_iload C X d_prog_17_method_4_code_316 rfl rfl ?_
  refine k_istore C X d_prog_17_method_4_code_318 rfl (l' := #[.val (.ref a), .val (.ref qs), .val (.ref qg), .val (.ref qo), .val (.ref qn), .val (.int (2)), .val (.ref o6), .val (.ref o12), .val (.ref o18), .val (.double d122_10), .second, .val (.double d137_12), .second, .val (.double d152_14), .second, .val (.ref o252), .val (.double d297_17), .second, .val (.int (0)), .val (.int (0))]) rfl ?_
  refine k_iload C X d_prog_17_method_4_code_320 rfl rfl ?_
  refine k_iload C X d_prog_17_method_4_code_322 rfl rfl ?_
  refine k_icmp_ge C X d_prog_17_method_4_code_324 rfl (tpc := 413) rfl (fun hc => (absurd hc (by decide) : False).elim) (fun _ => ?_)
  refine k_aloadN C X d_prog_17_method_4_code_327 rfl rfl rfl ?_
  refine k_getfield C X d_prog_17_method_4_code_328 rfl (host := "") (Or.inl (hw _ (List.mem_of_getElem? (i := 16) rfl))) (own_fL (ix := 4) (j := 0) rfl rfl) (fun T X => ?_)
  refine k_iload C X d_prog_17_method_4_code_331 rfl rfl ?_
  refine k_aaload C X d_prog_17_method_4_code_333 rfl (ix := 5) (i := 0) rfl rfl (by decide) (by decide) rfl ?_
  refine k_iload C X d_prog_17_method_4_code_334 rfl rfl ?_
  refine k_dup2 C X d_prog_17_method_4_code_336 rfl rfl rfl ?_
  refine k_daload C X d_prog_17_method_4_code_337 rfl (ix := 6) (i := 0) rfl (by decide) (by decide) rfl ?_
  refine k_aload C X d_prog_17_method_4_code_338 rfl rfl rfl ?_
  refine k_iload C X d_prog_17_method_4_code_340 rfl rfl ?_
  refine k_daload C X d_prog_17_method_4_code_342 rfl (ix := 0) (i := 0) rfl (by decide) (by decide) rfl ?_
  refine k_aload C X d_prog_17_method_4_code_343 rfl rfl rfl ?_
  refine k_iload C X d_prog_17_method_4_code_345 rfl rfl ?_
  refine k_daload C X d_prog_17_method_4_code_347 rfl (ix := 3) (i := 0) rfl (by decide) (by decide) rfl ?_
  refine k_dmul C X d_prog_17_method_4_code_348 rfl ((own_DB.mul i_d283 i_d54 (r := (0)) (by omega) (D := 0) rfl (by decide)).nn) (fun d348 ed348 => ?_)
  have i_d348 : own_DB 0 (0) d348 := by rw [ed348]; exact own_DB.mul i_d283 i_d54 (r := (0)) (by omega) (D := 0) rfl (by decide)
  refine k_aload C X d_prog_17_method_4_code_349 rfl rfl rfl ?_
  refine k_iload C X d_prog_17_method_4_code_351 rfl rfl ?_
  refine k_daload C X d_prog_17_method_4_code_353 rfl (ix := 3) (i := 0) rfl (by decide) (by decide) rfl ?_
  refine k_aload C X d_prog_17_method_4_code_354 rfl rfl rfl ?_
  refine k_iload C X d_prog_17_method_4_code_356 rfl rfl ?_
  refine k_daload C X d_prog_17_method_4_code_358 rfl (ix := 0) (i := 0) rfl (by decide) (by decide) rfl ?_
  refine k_dmul C X d_prog_17_method_4_code_359 rfl ((own_DB.mul i_d54 i_d283 (r := (0)) (by omega) (D := 0) rfl (by decide)).nn) (fun d359 ed359 => ?_)
  have i_d359 : own_DB 0 (0) d359 := by rw [ed359]; exact own_DB.mul i_d54 i_d283 (r := (0)) (by omega) (D := 0) rfl (by decide)
  refine k_dadd C X d_prog_17_method_4_code_360 rfl ((own_DB.add i_d348 i_d359 (r := (0)) (by omega) (D := 0) rfl (by decide)).nn) (fun d360 ed360 => ?_)
  have i_d360 : own_DB 0 (0) d360 := by rw [ed360]; exact own_DB.add i_d348 i_d359 (r := (0)) (by omega) (D := 0) rfl (by decide)
  refine k_dload C X d_prog_17_method_4_code_361 rfl rfl ?_
  refine k_ddiv C X d_prog_17_method_4_code_363 rfl ((own_DB.div i_d360 i_d122_10 (by decide)).nn) (fun d363 ed363 => ?_)
  have i_d363 : own_DB 0 (0) d363 := by rw [ed363]; exact own_DB.div i_d360 i_d122_10 (by decide)
  refine k_dload C X d_prog_17_method_4_code_364 rfl rfl ?_
  refine k_dload C X d_prog_17_method_4_code_366 rfl rfl ?_
  refine k_ddiv C X d_prog_17_method_4_code_368 rfl ((own_DB.div i_d297_17 i_d122_10 (by decide)).nn) (fun d368 ed368 => ?_)
  have i_d368 : own_DB 32768 (d_) d368 := by rw [ed368]; exact own_DB.div i_d297_17 i_d122_10 (by decide)
  refine k_aload C X d_prog_17_method_4_code_369 rfl rfl rfl ?_
  refine k_iload C X d_prog_17_method_4_code_371 rfl rfl ?_
  refine k_daload C X d_prog_17_method_4_code_373 rfl (ix := 3) (i := 0) rfl (by decide) (by decide) rfl ?_
  refine k_dload C X d_prog_17_method_4_code_374 rfl rfl ?_
  refine k_ddiv C X d_prog_17_method_4_code_376 rfl ((own_DB.div i_d54 i_d122_10 (by decide)).nn) (fun d376 ed376 => ?_)
  have i_d376 : own_DB 0 (0) d376 := by rw [ed376]; exact own_DB.div i_d54 i_d122_10 (by decide)
  refine k_dmul C X d_prog_17_method_4_code_377 rfl ((own_DB.mul i_d368 i_d376 (r := (0)) (by omega) (D := 0) rfl (by decide)).nn) (fun d377 ed377 => ?_)
  have i_d377 : own_DB 0 (0) d377 := by rw [ed377]; exact own_DB.mul i_d368 i_d376 (r := (0)) (by omega) (D := 0) rfl (by decide)
  refine k_aload C X d_prog_17_method_4_code_378 rfl rfl rfl ?_
  refine k_iload C X d_prog_17_method_4_code_380 rfl rfl ?_
  refine k_daload C X d_prog_17_method_4_code_382 rfl (ix := 3) (i := 0) rfl (by decide) (by decide) rfl ?_
  refine k_dmul C X d_prog_17_method_4_code_383 rfl ((own_DB.mul i_d377 i_d54 (r := (0)) (by omega) (D := 0) rfl (by decide)).nn) (fun d383 ed383 => ?_)
  have i_d383 : own_DB 0 (0) d383 := by rw [ed383]; exact own_DB.mul i_d377 i_d54 (r := (0)) (by omega) (D := 0) rfl (by decide)
  refine k_dsub C X d_prog_17_method_4_code_384 rfl ((own_DB.sub i_d363 i_d383 (r := (0)) (by omega) (D := 0) rfl (by decide)).nn) (fun d384 ed384 => ?_)
  have i_d384 : own_DB 0 (0) d384 := by rw [ed384]; exact own_DB.sub i_d363 i_d383 (r := (0)) (by omega) (D := 0) rfl (by decide)
  refine k_dadd C X d_prog_17_method_4_code_385 rfl ((own_DB.add h0 i_d384 (r := (a_)) (by omega) (D := 98304) rfl (by decide)).nn) (fun d385 ed385 => ?_)
  have i_d385 : own_DB 98304 (a_) d385 := by rw [ed385]; exact own_DB.add h0 i_d384 (r := (a_)) (by omega) (D := 98304) rfl (by decide)
  refine k_dastore C X d_prog_17_method_4_code_386 rfl (ix := 6) (i := 0) rfl (by decide) (by decide) (Nat.le_of_ble_eq_true rfl) (vs' := [(.double d385), (.double t1)]) rfl (L' := (o252, own_ar Z .double [(.double d283), (.double d283_15)]) :: (o18, own_ar Z .double [(.double d102_2), (.double d102_8)]) :: (o12, own_ar Z .double [(.double d69), (.double d69_4)]) :: (o6, own_ar Z .double [(.double d54), (.double d54_3)]) :: (a, own_ob Z "com/example/residuum/residuum/SecondOrderTerm" [("term", "[[D", (.ref g))]) :: (g, own_ar Z (.array .double) [(.ref r0), (.ref r1)]) :: (r0, own_ar Z .double [(.double d385), (.double t1)]) :: (r1, own_ar Z .double [(.double t1), (.double t2)]) :: (qs, own_ar Z .double [(.double 0), (.double 4607182418800017408)]) :: (qg, own_ar Z .double [(.double 0), (.double 4607182418800017408)]) :: (qo, own_ar Z .double [(.double xc), (.double xd)]) :: (qn, own_ar Z .double [(.double 0), (.double 0)]) :: L) rfl (fun T X => ?_)
  refine k_aloadN C X d_prog_17_method_4_code_387 rfl rfl rfl ?_
  refine k_getfield C X d_prog_17_method_4_code_388 rfl (host := "") (Or.inl (hw _ (List.mem_of_getElem? (i := 16) rfl))) (own_fL (ix := 4) (j := 0) rfl rfl) (fun T X => ?_)
  refine k_iload C X d_prog_17_method_4_code_391 rfl rfl ?_
  refine k_aaload C X d_prog_17_method_4_code_393 rfl (ix := 5) (i := 0) rfl rfl (by decide) (by decide) rfl ?_
  refine k_iload C X d_prog_17_method_4_code_394 rfl rfl ?_
  refine k_aloadN C X d_prog_17_method_4_code_396 rfl rfl rfl ?_
  refine k_getfield C X d_prog_17_method_4_code_397 rfl (host := "") (Or.inl (hw _ (List.mem_of_getElem? (i := 16) rfl))) (own_fL (ix := 4) (j := 0) rfl rfl) (fun T X => ?_)
  refine k_iload C X d_prog_17_method_4_code_400 rfl rfl ?_
  refine k_aaload C X d_prog_17_method_4_code_402 rfl (ix := 5) (i := 0) rfl rfl (by decide) (by decide) rfl ?_
  refine k_iload C X d_prog_17_method_4_code_403 rfl rfl ?_
  refine k_daload C X d_prog_17_method_4_code_405 rfl (ix := 6) (i := 0) rfl (by decide) (by decide) rfl ?_
  refine k_dastore C X d_prog_17_method_4_code_406 rfl (ix := 6) (i := 0) rfl (by decide) (by decide) (Nat.le_of_ble_eq_true rfl) (vs' := [(.double d385), (.double t1)]) rfl (L' := (o252, own_ar Z .double [(.double d283), (.double d283_15)]) :: (o18, own_ar Z .double [(.double d102_2), (.double d102_8)]) :: (o12, own_ar Z .double [(.double d69), (.double d69_4)]) :: (o6, own_ar Z .double [(.double d54), (.double d54_3)]) :: (a, own_ob Z "com/example/residuum/residuum/SecondOrderTerm" [("term", "[[D", (.ref g))]) :: (g, own_ar Z (.array .double) [(.ref r0), (.ref r1)]) :: (r0, own_ar Z .double [(.double d385), (.double t1)]) :: (r1, own_ar Z .double [(.double t1), (.double t2)]) :: (qs, own_ar Z .double [(.double 0), (.double 4607182418800017408)]) :: (qg, own_ar Z .double [(.double 0), (.double 4607182418800017408)]) :: (qo, own_ar Z .double [(.double xc), (.double xd)]) :: (qn, own_ar Z .double [(.double 0), (.double 0)]) :: L) rfl (fun T X => ?_)
  refine k_iinc C X d_prog_17_method_4_code_407 rfl (v := 1) rfl rfl (l' := #[.val (.ref a), .val (.ref qs), .val (.ref qg), .val (.ref qo), .val (.ref qn), .val (.int (2)), .val (.ref o6), .val (.ref o12), .val (.ref o18), .val (.double d122_10), .second, .val (.double d137_12), .second, .val (.double d152_14), .second, .val (.ref o252), .val (.double d297_17), .second, .val (.int (0)), .val (.int (1))]) rfl ?_
  refine k_goto C X d_prog_17_method_4_code_410 (tpc := 320) rfl ?_
  refine k_iload C X d_prog_17_method_4_code_320 rfl rfl ?_
  refine k_iload C X d_prog_17_method_4_code_322 rfl rfl ?_
  refine k_icmp_ge C X d_prog_17_method_4_code_324 rfl (tpc := 413) rfl (fun hc => (absurd hc (by decide) : False).elim) (fun _ => ?_)
  refine k_aloadN C X d_prog_17_method_4_code_327 rfl rfl rfl ?_
  refine k_getfield C X d_prog_17_method_4_code_328 rfl (host := "") (Or.inl (hw _ (List.mem_of_getElem? (i := 16) rfl))) (own_fL (ix := 4) (j := 0) rfl rfl) (fun T X => ?_)
  refine k_iload C X d_prog_17_method_4_code_331 rfl rfl ?_
  refine k_aaload C X d_prog_17_method_4_code_333 rfl (ix := 5) (i := 0) rfl rfl (by decide) (by decide) rfl ?_
  refine k_iload C X d_prog_17_method_4_code_334 rfl rfl ?_
  refine k_dup2 C X d_prog_17_method_4_code_336 rfl rfl rfl ?_
  refine k_daload C X d_prog_17_method_4_code_337 rfl (ix := 6) (i := 1) rfl (by decide) (by decide) rfl ?_
  refine k_aload C X d_prog_17_method_4_code_338 rfl rfl rfl ?_
  refine k_iload C X d_prog_17_method_4_code_340 rfl rfl ?_
  refine k_daload C X d_prog_17_method_4_code_342 rfl (ix := 0) (i := 0) rfl (by decide) (by decide) rfl ?_
  refine k_aload C X d_prog_17_method_4_code_343 rfl rfl rfl ?_
  refine k_iload C X d_prog_17_method_4_code_345 rfl rfl ?_
  refine k_daload C X d_prog_17_method_4_code_347 rfl (ix := 3) (i := 1) rfl (by decide) (by decide) rfl ?_
  refine k_dmul C X d_prog_17_method_4_code_348 rfl ((own_DB.mul i_d283 i_d54_3 (r := (c_)) (by omega) (D := 32768) rfl (by decide)).nn) (fun d348_18 ed348_18 => ?_)
  have i_d348_18 : own_DB 32768 (c_) d348_18 := by rw [ed348_18]; exact own_DB.mul i_d283 i_d54_3 (r := (c_)) (by omega) (D := 32768) rfl (by decide)
  refine k_aload C X d_prog_17_method_4_code_349 rfl rfl rfl ?_
  refine k_iload C X d_prog_17_method_4_code_351 rfl rfl ?_
  refine k_daload C X d_prog_17_method_4_code_353 rfl (ix := 3) (i := 0) rfl (by decide) (by decide) rfl ?_
  refine k_aload C X d_prog_17_method_4_code_354 rfl rfl rfl ?_
  refine k_iload C X d_prog_17_method_4_code_356 rfl rfl ?_
  refine k_daload C X d_prog_17_method_4_code_358 rfl (ix := 0) (i := 1) rfl (by decide) (by decide) rfl ?_
  refine k_dmul C X d_prog_17_method_4_code_359 rfl ((own_DB.mul i_d54 i_d283_15 (r := (0)) (by omega) (D := 0) rfl (by decide)).nn) (fun d359_19 ed359_19 => ?_)
  have i_d359_19 : own_DB 0 (0) d359_19 := by rw [ed359_19]; exact own_DB.mul i_d54 i_d283_15 (r := (0)) (by omega) (D := 0) rfl (by decide)
  refine k_dadd C X d_prog_17_method_4_code_360 rfl ((own_DB.add i_d348_18 i_d359_19 (r := (c_)) (by omega) (D := 32768) rfl (by decide)).nn) (fun d360_20 ed360_20 => ?_)
  have i_d360_20 : own_DB 32768 (c_) d360_20 := by rw [ed360_20]; exact own_DB.add i_d348_18 i_d359_19 (r := (c_)) (by omega) (D := 32768) rfl (by decide)
  refine k_dload C X d_prog_17_method_4_code_361 rfl rfl ?_
  refine k_ddiv C X d_prog_17_method_4_code_363 rfl ((own_DB.div i_d360_20 i_d122_10 (by decide)).nn) (fun d363_21 ed363_21 => ?_)
  have i_d363_21 : own_DB 32768 (c_) d363_21 := by rw [ed363_21]; exact own_DB.div i_d360_20 i_d122_10 (by decide)
  refine k_dload C X d_prog_17_method_4_code_364 rfl rfl ?_
  refine k_dload C X d_prog_17_method_4_code_366 rfl rfl ?_
  refine k_ddiv C X d_prog_17_method_4_code_368 rfl ((own_DB.div i_d297_17 i_d122_10 (by decide)).nn) (fun d368_22 ed368_22 => ?_)
  have i_d368_22 : own_DB 32768 (d_) d368_22 := by rw [ed368_22]; exact own_DB.div i_d297_17 i_d122_10 (by decide)
  refine k_aload C X d_prog_17_method_4_code_369 rfl rfl rfl ?_
  refine k_iload C X d_prog_17_method_4_code_371 rfl rfl ?_
  refine k_daload C X d_prog_17_method_4_code_373 rfl (ix := 3) (i := 0) rfl (by decide) (by decide) rfl ?_
  refine k_dload C X d_prog_17_method_4_code_374 rfl rfl ?_
  refine k_ddiv C X d_prog_17_method_4_code_376 rfl ((own_DB.div i_d54 i_d122_10 (by decide)).nn) (fun d376_23 ed376_23 => ?_)
  have i_d376_23 : own_DB 0 (0) d376_23 := by rw [ed376_23]; exact own_DB.div i_d54 i_d122_10 (by decide)
  refine k_dmul C X d_prog_17_method_4_code_377 rfl ((own_DB.mul i_d368_22 i_d376_23 (r := (0)) (by omega) (D := 0) rfl (by decide)).nn) (fun d377_24 ed377_24 => ?_)
  have i_d377_24 : own_DB 0 (0) d377_24 := by rw [ed377_24]; exact own_DB.mul i_d368_22 i_d376_23 (r := (0)) (by omega) (D := 0) rfl (by decide)
  refine k_aload C X d_prog_17_method_4_code_378 rfl rfl rfl ?_
  refine k_iload C X d_prog_17_method_4_code_380 rfl rfl ?_
  refine k_daload C X d_prog_17_method_4_code_382 rfl (ix := 3) (i := 1) rfl (by decide) (by decide) rfl ?_
  refine k_dmul C X d_prog_17_method_4_code_383 rfl ((own_DB.mul i_d377_24 i_d54_3 (r := (0)) (by omega) (D := 0) rfl (by decide)).nn) (fun d383_25 ed383_25 => ?_)
  have i_d383_25 : own_DB 0 (0) d383_25 := by rw [ed383_25]; exact own_DB.mul i_d377_24 i_d54_3 (r := (0)) (by omega) (D := 0) rfl (by decide)
  refine k_dsub C X d_prog_17_method_4_code_384 rfl ((own_DB.sub i_d363_21 i_d383_25 (r := (c_)) (by omega) (D := 32768) rfl (by decide)).nn) (fun d384_26 ed384_26 => ?_)
  have i_d384_26 : own_DB 32768 (c_) d384_26 := by rw [ed384_26]; exact own_DB.sub i_d363_21 i_d383_25 (r := (c_)) (by omega) (D := 32768) rfl (by decide)
  refine k_dadd C X d_prog_17_method_4_code_385 rfl ((own_DB.add h1 i_d384_26 (r := (c_)) (by omega) (D := 32768) rfl (by decide)).nn) (fun d385_27 ed385_27 => ?_)
  have i_d385_27 : own_DB 32768 (c_) d385_27 := by rw [ed385_27]; exact own_DB.add h1 i_d384_26 (r := (c_)) (by omega) (D := 32768) rfl (by decide)
  refine k_dastore C X d_prog_17_method_4_code_386 rfl (ix := 6) (i := 1) rfl (by decide) (by decide) (Nat.le_of_ble_eq_true rfl) (vs' := [(.double d385), (.double d385_27)]) rfl (L' := (o252, own_ar Z .double [(.double d283), (.double d283_15)]) :: (o18, own_ar Z .double [(.double d102_2), (.double d102_8)]) :: (o12, own_ar Z .double [(.double d69), (.double d69_4)]) :: (o6, own_ar Z .double [(.double d54), (.double d54_3)]) :: (a, own_ob Z "com/example/residuum/residuum/SecondOrderTerm" [("term", "[[D", (.ref g))]) :: (g, own_ar Z (.array .double) [(.ref r0), (.ref r1)]) :: (r0, own_ar Z .double [(.double d385), (.double d385_27)]) :: (r1, own_ar Z .double [(.double t1), (.double t2)]) :: (qs, own_ar Z .double [(.double 0), (.double 4607182418800017408)]) :: (qg, own_ar Z .double [(.double 0), (.double 4607182418800017408)]) :: (qo, own_ar Z .double [(.double xc), (.double xd)]) :: (qn, own_ar Z .double [(.double 0), (.double 0)]) :: L) rfl (fun T X => ?_)
  refine k_aloadN C X d_prog_17_method_4_code_387 rfl rfl rfl ?_
  refine k_getfield C X d_prog_17_method_4_code_388 rfl (host := "") (Or.inl (hw _ (List.mem_of_getElem? (i := 16) rfl))) (own_fL (ix := 4) (j := 0) rfl rfl) (fun T X => ?_)
  refine k_iload C X d_prog_17_method_4_code_391 rfl rfl ?_
  refine k_aaload C X d_prog_17_method_4_code_393 rfl (ix := 5) (i := 1) rfl rfl (by decide) (by decide) rfl ?_
  refine k_iload C X d_prog_17_method_4_code_394 rfl rfl ?_
  refine k_aloadN C X d_prog_17_method_4_code_396 rfl rfl rfl ?_
  refine k_getfield C X d_prog_17_method_4_code_397 rfl (host := "") (Or.inl (hw _ (List.mem_of_getElem? (i := 16) rfl))) (own_fL (ix := 4) (j := 0) rfl rfl) (fun T X => ?_)
  refine k_iload C X d_prog_17_method_4_code_400 rfl rfl ?_
  refine k_aaload C X d_prog_17_method_4_code_402 rfl (ix := 5) (i := 0) rfl rfl (by decide) (by decide) rfl ?_
  refine k_iload C X d_prog_17_method_4_code_403 rfl rfl ?_
  refine k_daload C X d_prog_17_method_4_code_405 rfl (ix := 6) (i := 1) rfl (by decide) (by decide) rfl ?_
  refine k_dastore C X d_prog_17_method_4_code_406 rfl (ix := 7) (i := 0) rfl (by decide) (by decide) (Nat.le_of_ble_eq_true rfl) (vs' := [(.double d385_27), (.double t2)]) rfl (L' := (o252, own_ar Z .double [(.double d283), (.double d283_15)]) :: (o18, own_ar Z .double [(.double d102_2), (.double d102_8)]) :: (o12, own_ar Z .double [(.double d69), (.double d69_4)]) :: (o6, own_ar Z .double [(.double d54), (.double d54_3)]) :: (a, own_ob Z "com/example/residuum/residuum/SecondOrderTerm" [("term", "[[D", (.ref g))]) :: (g, own_ar Z (.array .double) [(.ref r0), (.ref r1)]) :: (r0, own_ar Z .double [(.double d385), (.double d385_27)]) :: (r1, own_ar Z .double [(.double d385_27), (.double t2)]) :: (qs, own_ar Z .double [(.double 0), (.double 4607182418800017408)]) :: (qg, own_ar Z .double [(.double 0), (.double 4607182418800017408)]) :: (qo, own_ar Z .double [(.double xc), (.double xd)]) :: (qn, own_ar Z .double [(.double 0), (.double 0)]) :: L) rfl (fun T X => ?_)
  refine k_iinc C X d_prog_17_method_4_code_407 rfl (v := 1) rfl rfl (l' := #[.val (.ref a), .val (.ref qs), .val (.ref qg), .val (.ref qo), .val (.ref qn), .val (.int (2)), .val (.ref o6), .val (.ref o12), .val (.ref o18), .val (.double d122_10), .second, .val (.double d137_12), .second, .val (.double d152_14), .second, .val (.ref o252), .val (.double d297_17), .second, .val (.int (0)), .val (.int (2))]) rfl ?_
  refine k_goto C X d_prog_17_method_4_code_410 (tpc := 320) rfl ?_
  refine k_iload C X d_prog_17_method_4_code_320 rfl rfl ?_
  refine k_iload C X d_prog_17_method_4_code_322 rfl rfl ?_
  refine k_icmp_ge C X d_prog_17_method_4_code_324 rfl (tpc := 413) rfl (fun _ => ?_) (fun hc => (absurd hc (by decide) : False).elim)
  refine k_iinc C X d_prog_17_method_4_code_413 rfl (v := 1) rfl rfl (l' := #[.val (.ref a), .val (.ref qs), .val (.ref qg), .val (.ref qo), .val (.ref qn), .val (.int (2)), .val (.ref o6), .val (.ref o12), .val (.ref o18), .val (.double d122_10), .second, .val (.double d137_12), .second, .val (.double d152_14), .second, .val (.ref o252), .val (.double d297_17), .second, .val (.int (1)), .val (.int (2))]) rfl ?_
  refine k_goto C X d_prog_17_method_4_code_416 (tpc := 309) rfl ?_
  refine k_iload C X d_prog_17_method_4_code_309 rfl rfl ?_
  refine k_iload C X d_prog_17_method_4_code_311 rfl rfl ?_
  refine k_icmp_ge C X d_prog_17_method_4_code_313 rfl (tpc := 419) rfl (fun hc => (absurd hc (by decide) : False).elim) (fun _ => ?_)
  refine k_iload C X d_prog_17_method_4_code_316 rfl rfl ?_
  refine k_istore C X d_prog_17_method_4_code_318 rfl (l' := #[.val (.ref a), .val (.ref qs), .val (.ref qg), .val (.ref qo), .val (.ref qn), .val (.int (2)), .val (.ref o6), .val (.ref o12), .val (.ref o18), .val (.double d122_10), .second, .val (.double d137_12), .second, .val (.double d152_14), .second, .val (.ref o252), .val (.double d297_17), .second, .val (.int (1)), .val (.int (1))]) rfl ?_
  refine k_iload C X d_prog_17_method_4_code_320 rfl rfl ?_
  refine k_iload C X d_prog_17_method_4_code_322 rfl rfl ?_
  refine k_icmp_ge C X d_prog_17_method_4_code_324 rfl (tpc := 413) rfl (fun hc => (absurd hc (by decide) : False).elim) (fun _ => ?_)
  refine k_aloadN C X d_prog_17_method_4_code_327 rfl rfl rfl ?_
  refine k_getfield C X d_prog_17_method_4_code_328 rfl (host := "") (Or.inl (hw _ (List.mem_of_getElem? (i := 16) rfl))) (own_fL (ix := 4) (j := 0) rfl rfl) (fun T X => ?_)
  refine k_iload C X d_prog_17_method_4_code_331 rfl rfl ?_
  refine k_aaload C X d_prog_17_method_4_code_333 rfl (ix := 5) (i := 1) rfl rfl (by decide) (by decide) rfl ?_
  refine k_iload C X d_prog_17_method_4_code_334 rfl rfl ?_
  refine k_dup2 C X d_prog_17_method_4_code_336 rfl rfl rfl ?_
  refine k_daload C X d_prog_17_method_4_code_337 rfl (ix := 7) (i := 1) rfl (by decide) (by decide) rfl ?_
  refine k_aload C X d_prog_17_method_4_code_338 rfl rfl rfl ?_
  refine k_iload C X d_prog_17_method_4_code_340 rfl rfl ?_
  refine k_daload C X d_prog_17_method_4_code_342 rfl (ix := 0) (i := 1) rfl (by decide) (by decide) rfl ?_
  refine k_aload C X d_prog_17_method_4_code_343 rfl rfl rfl ?_
  refine k_iload C X d_prog_17_method_4_code_345 rfl rfl ?_
  refine k_daload C X d_prog_17_method_4_code_347 rfl (ix := 3) (i := 1) rfl (by decide) (by decide) rfl ?_
  refine k_dmul C X d_prog_17_method_4_code_348 rfl ((own_DB.mul i_d283_15 i_d54_3 (r := (d_)) (by omega) (D := 32768) rfl (by decide)).nn) (fun d348_28 ed348_28 => ?_)
  have i_d348_28 : own_DB 32768 (d_) d348_28 := by rw [ed348_28]; exact own_DB.mul i_d283_15 i_d54_3 (r := (d_)) (by omega) (D := 32768) rfl (by decide)
  refine k_aload C X d_prog_17_method_4_code_349 rfl rfl rfl ?_
  refine k_iload C X d_prog_17_method_4_code_351 rfl rfl ?_
  refine k_daload C X d_prog_17_method_4_code_353 rfl (ix := 3) (i := 1) rfl (by decide) (by decide) rfl ?_
  refine k_aload C X d_prog_17_method_4_code_354 rfl rfl rfl ?_
  refine k_iload C X d_prog_17_method_4_code_356 rfl rfl ?_
  refine k_daload C X d_prog_17_method_4_code_358 rfl (ix := 0) (i := 1) rfl (by decide) (by decide) rfl ?_
  refine k_dmul C X d_prog_17_method_4_code_359 rfl ((own_DB.mul i_d54_3 i_d283_15 (r := (d_)) (by omega) (D := 32768) rfl (by decide)).nn) (fun d359_29 ed359_29 => ?_)
  have i_d359_29 : own_DB 32768 (d_) d359_29 := by rw [ed359_29]; exact own_DB.mul i_d54_3 i_d283_15 (r := (d_)) (by omega) (D := 32768) rfl (by decide)
  refine k_dadd C X d_prog_17_method_4_code_360 rfl ((own_DB.add i_d348_28 i_d359_29 (r := ((2) * d_)) (by omega) (D := 65536) rfl (by decide)).nn) (fun d360_30 ed360_30 => ?_)
  have i_d360_30 : own_DB 65536 ((2) * d_) d360_30 := by rw [ed360_30]; exact own_DB.add i_d348_28 i_d359_29 (r := ((2) * d_)) (by omega) (D := 65536) rfl (by decide)
  refine k_dload C X d_prog_17_method_4_code_361 rfl rfl ?_
  refine k_ddiv C X d_prog_17_method_4_code_363 rfl ((own_DB.div i_d360_30 i_d122_10 (by decide)).nn) (fun d363_31 ed363_31 => ?_)
  have i_d363_31 : own_DB 65536 ((2) * d_) d363_31 := by rw [ed363_31]; exact own_DB.div i_d360_30 i_d122_10 (by decide)
  refine k_dload C X d_prog_17_method_4_code_364 rfl rfl ?_
  refine k_dload C X d_prog_17_method_4_code_366 rfl rfl ?_
  refine k_ddiv C X d_prog_17_method_4_code_368 rfl ((own_DB.div i_d297_17 i_d122_10 (by decide)).nn) (fun d368_32 ed368_32 => ?_)
  have i_d368_32 : own_DB 32768 (d_) d368_32 := by rw [ed368_32]; exact own_DB.div i_d297_17 i_d122_10 (by decide)
  refine k_aload C X d_prog_17_method_4_code_369 rfl rfl rfl ?_
  refine k_iload C X d_prog_17_method_4_code_371 rfl rfl ?_
  refine k_daload C X d_prog_17_method_4_code_373 rfl (ix := 3) (i := 1) rfl (by decide) (by decide) rfl ?_
  refine k_dload C X d_prog_17_method_4_code_374 rfl rfl ?_
  refine k_ddiv C X d_prog_17_method_4_code_376 rfl ((own_DB.div i_d54_3 i_d122_10 (by decide)).nn) (fun d376_33 ed376_33 => ?_)
  have i_d376_33 : own_DB 1 ((1)) d376_33 := by rw [ed376_33]; exact own_DB.div i_d54_3 i_d122_10 (by decide)
  refine k_dmul C X d_prog_17_method_4_code_377 rfl ((own_DB.mul i_d368_32 i_d376_33 (r := (d_)) (by omega) (D := 32768) rfl (by decide)).nn) (fun d377_34 ed377_34 => ?_)
  have i_d377_34 : own_DB 32768 (d_) d377_34 := by rw [ed377_34]; exact own_DB.mul i_d368_32 i_d376_33 (r := (d_)) (by omega) (D := 32768) rfl (by decide)
  refine k_aload C X d_prog_17_method_4_code_378 rfl rfl rfl ?_
  refine k_iload C X d_prog_17_method_4_code_380 rfl rfl ?_
  refine k_daload C X d_prog_17_method_4_code_382 rfl (ix := 3) (i := 1) rfl (by decide) (by decide) rfl ?_
  refine k_dmul C X d_prog_17_method_4_code_383 rfl ((own_DB.mul i_d377_34 i_d54_3 (r := (d_)) (by omega) (D := 32768) rfl (by decide)).nn) (fun d383_35 ed383_35 => ?_)
  have i_d383_35 : own_DB 32768 (d_) d383_35 := by rw [ed383_35]; exact own_DB.mul i_d377_34 i_d54_3 (r := (d_)) (by omega) (D := 32768) rfl (by decide)
  refine k_dsub C X d_prog_17_method_4_code_384 rfl ((own_DB.sub i_d363_31 i_d383_35 (r := (d_)) (by omega) (D := 98304) rfl (by decide)).nn) (fun d384_36 ed384_36 => ?_)
  have i_d384_36 : own_DB 98304 (d_) d384_36 := by rw [ed384_36]; exact own_DB.sub i_d363_31 i_d383_35 (r := (d_)) (by omega) (D := 98304) rfl (by decide)
  refine k_dadd C X d_prog_17_method_4_code_385 rfl ((own_DB.add h2 i_d384_36 (r := (d_)) (by omega) (D := 98304) rfl (by decide)).nn) (fun d385_37 ed385_37 => ?_)
  have i_d385_37 : own_DB 98304 (d_) d385_37 := by rw [ed385_37]; exact own_DB.add h2 i_d384_36 (r := (d_)) (by omega) (D := 98304) rfl (by decide)
  refine k_dastore C X d_prog_17_method_4_code_386 rfl (ix := 7) (i := 1) rfl (by decide) (by decide) (Nat.le_of_ble_eq_true rfl) (vs' := [(.double d385_27), (.double d385_37)]) rfl (L' := (o252, own_ar Z .double [(.double d283), (.double d283_15)]) :: (o18, own_ar Z .double [(.double d102_2), (.double d102_8)]) :: (o12, own_ar Z .double [(.double d69), (.double d69_4)]) :: (o6, own_ar Z .double [(.double d54), (.double d54_3)]) :: (a, own_ob Z "com/example/residuum/residuum/SecondOrderTerm" [("term", "[[D", (.ref g))]) :: (g, own_ar Z (.array .double) [(.ref r0), (.ref r1)]) :: (r0, own_ar Z .double [(.double d385), (.double d385_27)]) :: (r1, own_ar Z .double [(.double d385_27), (.double d385_37)]) :: (qs, own_ar Z .double [(.double 0), (.double 4607182418800017408)]) :: (qg, own_ar Z .double [(.double 0), (.double 4607182418800017408)]) :: (qo, own_ar Z .double [(.double xc), (.double xd)]) :: (qn, own_ar Z .double [(.double 0), (.double 0)]) :: L) rfl (fun T X => ?_)
  refine k_aloadN C X d_prog_17_method_4_code_387 rfl rfl rfl ?_
  refine k_getfield C X d_prog_17_method_4_code_388 rfl (host := "") (Or.inl (hw _ (List.mem_of_getElem? (i := 16) rfl))) (own_fL (ix := 4) (j := 0) rfl rfl) (fun T X => ?_)
  refine k_iload C X d_prog_17_method_4_code_391 rfl rfl ?_
  refine k_aaload C X d_prog_17_method_4_code_393 rfl (ix := 5) (i := 1) rfl rfl (by decide) (by decide) rfl ?_
  refine k_iload C X d_prog_17_method_4_code_394 rfl rfl ?_
  refine k_aloadN C X d_prog_17_method_4_code_396 rfl rfl rfl ?_
  refine k_getfield C X d_prog_17_method_4_code_397 rfl (host := "") (Or.inl (hw _ (List.mem_of_getElem? (i := 16) rfl))) (own_fL (ix := 4) (j := 0) rfl rfl) (fun T X => ?_)
  refine k_iload C X d_prog_17_method_4_code_400 rfl rfl ?_
  refine k_aaload C X d_prog_17_method_4_code_402 rfl (ix := 5) (i := 1) rfl rfl (by decide) (by decide) rfl ?_
  refine k_iload C X d_prog_17_method_4_code_403 rfl rfl ?_
  refine k_daload C X d_prog_17_method_4_code_405 rfl (ix := 7) (i := 1) rfl (by decide) (by decide) rfl ?_
  refine k_dastore C X d_prog_17_method_4_code_406 rfl (ix := 7) (i := 1) rfl (by decide) (by decide) (Nat.le_of_ble_eq_true rfl) (vs' := [(.double d385_27), (.double d385_37)]) rfl (L' := (o252, own_ar Z .double [(.double d283), (.double d283_15)]) :: (o18, own_ar Z .double [(.double d102_2), (.double d102_8)]) :: (o12, own_ar Z .double [(.double d69), (.double d69_4)]) :: (o6, own_ar Z .double [(.double d54), (.double d54_3)]) :: (a, own_ob Z "com/example/residuum/residuum/SecondOrderTerm" [("term", "[[D", (.ref g))]) :: (g, own_ar Z (.array .double) [(.ref r0), (.ref r1)]) :: (r0, own_ar Z .double [(.double d385), (.double d385_27)]) :: (r1, own_ar Z .double [(.double d385_27), (.double d385_37)]) :: (qs, own_ar Z .double [(.double 0), (.double 4607182418800017408)]) :: (qg, own_ar Z .double [(.double 0), (.double 4607182418800017408)]) :: (qo, own_ar Z .double [(.double xc), (.double xd)]) :: (qn, own_ar Z .double [(.double 0), (.double 0)]) :: L) rfl (fun T X => ?_)
  refine k_iinc C X d_prog_17_method_4_code_407 rfl (v := 1) rfl rfl (l' := #[.val (.ref a), .val (.ref qs), .val (.ref qg), .val (.ref qo), .val (.ref qn), .val (.int (2)), .val (.ref o6), .val (.ref o12), .val (.ref o18), .val (.double d122_10), .second, .val (.double d137_12), .second, .val (.double d152_14), .second, .val (.ref o252), .val (.double d297_17), .second, .val (.int (1)), .val (.int (2))]) rfl ?_
  refine k_goto C X d_prog_17_method_4_code_410 (tpc := 320) rfl ?_
  refine k_iload C X d_prog_17_method_4_code_320 rfl rfl ?_
  refine k_iload C X d_prog_17_method_4_code_322 rfl rfl ?_
  refine k_icmp_ge C X d_prog_17_method_4_code_324 rfl (tpc := 413) rfl (fun _ => ?_) (fun hc => (absurd hc (by decide) : False).elim)
  refine k_iinc C X d_prog_17_method_4_code_413 rfl (v := 1) rfl rfl (l' := #[.val (.ref a), .val (.ref qs), .val (.ref qg), .val (.ref qo), .val (.ref qn), .val (.int (2)), .val (.ref o6), .val (.ref o12), .val (.ref o18), .val (.double d122_10), .second, .val (.double d137_12), .second, .val (.double d152_14), .second, .val (.ref o252), .val (.double d297_17), .second, .val (.int (2)), .val (.int (2))]) rfl ?_
  refine k_goto C X d_prog_17_method_4_code_416 (tpc := 309) rfl ?_
  refine k_iload C X d_prog_17_method_4_code_309 rfl rfl ?_
  refine k_iload C X d_prog_17_method_4_code_311 rfl rfl ?_
  refine k_icmp_ge C X d_prog_17_method_4_code_313 rfl (tpc := 419) rfl (fun _ => ?_) (fun hc => (absurd hc (by decide) : False).elim)
  replace X := X.drop1
  replace X := X.drop1
  replace X := X.drop1
  replace X := X.drop1
  exact k_return C X d_prog_17_method_4_code_419 ⟨d385, d385_27, d385_37, rfl, i_d385, i_d385_27, i_d385_37, rfl⟩ (by decide) (by decide)
theorem d_prog_17_method_3_code_0 : decode prog_17_method_3_code 0 = .ok (.dconst 0, 1) := by decide +kernel
theorem d_prog_17_method_3_code_1 : decode prog_17_method_3_code 1 = .ok (.dstore_n 2, 1) := by decide +kernel
theorem d_prog_17_method_3_code_2 : decode prog_17_method_3_code 2 = .ok (.iconst 0, 1) := by decide +kernel
theorem d_prog_17_method_3_code_3 : decode prog_17_method_3_code 3 = .ok (.istore 4, 2) := by decide +kernel
theorem d_prog_17_method_3_code_5 : decode prog_17_method_3_code 5 = .ok (.iload 4, 2) := by decide +kernel
theorem d_prog_17_method_3_code_7 : decode prog_17_method_3_code 7 = .ok (.aload_n 1, 1) := by decide +kernel
theorem d_prog_17_method_3_code_8 : decode prog_17_method_3_code 8 = .ok (.arraylength, 1) := by decide +kernel
theorem d_prog_17_method_3_code_9 : decode prog_17_method_3_code 9 = .ok (.if_icmp .ge 48, 3) := by decide +kernel
theorem d_prog_17_method_3_code_12 : decode prog_17_method_3_code 12 = .ok (.iconst 0, 1) := by decide +kernel
theorem d_prog_17_method_3_code_13 : decode prog_17_method_3_code 13 = .ok (.istore 5, 2) := by decide +kernel
theorem d_prog_17_method_3_code_15 : decode prog_17_method_3_code 15 = .ok (.iload 5, 2) := by decide +kernel
theorem d_prog_17_method_3_code_17 : decode prog_17_method_3_code 17 = .ok (.aload_n 1, 1) := by decide +kernel
theorem d_prog_17_method_3_code_18 : decode prog_17_method_3_code 18 = .ok (.arraylength, 1) := by decide +kernel
theorem d_prog_17_method_3_code_19 : decode prog_17_method_3_code 19 = .ok (.if_icmp .ge 32, 3) := by decide +kernel
theorem d_prog_17_method_3_code_22 : decode prog_17_method_3_code 22 = .ok (.dload_n 2, 1) := by decide +kernel
theorem d_prog_17_method_3_code_23 : decode prog_17_method_3_code 23 = .ok (.aload_n 1, 1) := by decide +kernel
theorem d_prog_17_method_3_code_24 : decode prog_17_method_3_code 24 = .ok (.iload 4, 2) := by decide +kernel
theorem d_prog_17_method_3_code_26 : decode prog_17_method_3_code 26 = .ok (.daload, 1) := by decide +kernel
theorem d_prog_17_method_3_code_27 : decode prog_17_method_3_code 27 = .ok (.aload_n 0, 1) := by decide +kernel
theorem d_prog_17_method_3_code_28 : decode prog_17_method_3_code 28 = .ok (.getfield 9, 3) := by decide +kernel
theorem d_prog_17_method_3_code_31 : decode prog_17_method_3_code 31 = .ok (.iload 4, 2) := by decide +kernel
theorem d_prog_17_method_3_code_33 : decode prog_17_method_3_code 33 = .ok (.aaload, 1) := by decide +kernel
theorem d_prog_17_method_3_code_34 : decode prog_17_method_3_code 34 = .ok (.iload 5, 2) := by decide +kernel
theorem d_prog_17_method_3_code_36 : decode prog_17_method_3_code 36 = .ok (.daload, 1) := by decide +kernel
theorem d_prog_17_method_3_code_37 : decode prog_17_method_3_code 37 = .ok (.dmul, 1) := by decide +kernel
theorem d_prog_17_method_3_code_38 : decode prog_17_method_3_code 38 = .ok (.aload_n 1, 1) := by decide +kernel
theorem d_prog_17_method_3_code_39 : decode prog_17_method_3_code 39 = .ok (.iload 5, 2) := by decide +kernel
theorem d_prog_17_method_3_code_41 : decode prog_17_method_3_code 41 = .ok (.daload, 1) := by decide +kernel
theorem d_prog_17_method_3_code_42 : decode prog_17_method_3_code 42 = .ok (.dmul, 1) := by decide +kernel
theorem d_prog_17_method_3_code_43 : decode prog_17_method_3_code 43 = .ok (.dadd, 1) := by decide +kernel
theorem d_prog_17_method_3_code_44 : decode prog_17_method_3_code 44 = .ok (.dstore_n 2, 1) := by decide +kernel
theorem d_prog_17_method_3_code_45 : decode prog_17_method_3_code 45 = .ok (.iinc 5 1, 3) := by decide +kernel
theorem d_prog_17_method_3_code_48 : decode prog_17_method_3_code 48 = .ok (.goto (-33), 3) := by decide +kernel
theorem d_prog_17_method_3_code_51 : decode prog_17_method_3_code 51 = .ok (.iinc 4 1, 3) := by decide +kernel
theorem d_prog_17_method_3_code_54 : decode prog_17_method_3_code 54 = .ok (.goto (-49), 3) := by decide +kernel
theorem d_prog_17_method_3_code_57 : decode prog_17_method_3_code 57 = .ok (.dload_n 2, 1) := by decide +kernel
theorem d_prog_17_method_3_code_58 : decode prog_17_method_3_code 58 = .ok (.dreturn, 1) := by decide +kernel
def rm_own_cqf : Room := { frames := 0, cells := 0, slots := 0, locals := 0 }
set_option maxRecDepth 65536 in
set_option maxHeartbeats 40000000 in
theorem own_cqf (l : Launch) (Z : State) (a0 : Array Value) (hw : ∀ d ∈ tables_1, d.before a0 Z = true) (a g r0 r1 qp : Addr) (a_ c_ d_ p_ q_ : Int) (t0 t1 t2 y0 y1 : UInt64) (h0 : own_DB 98304 a_ t0) (h1 : own_DB 32768 c_ t1) (h2 : own_DB 98304 d_ t2) (hp : own_DB 32768 p_ y0) (hq : own_DB 32768 q_ y1) (L : List (Addr × (Cell → Prop))) :
    own_Con l Z (⟨"com/example/residuum/residuum/SecondOrderTerm", "quadraticForm", "([D)D"⟩ : MethodName) prog_17_method_3_code 6 (some .double) rm_own_cqf #[(.ref a), (.ref qp)] ((a, own_ob Z "com/example/residuum/residuum/SecondOrderTerm" [("term", "[[D", (.ref g))]) :: (g, own_ar Z (.array .double) [(.ref r0), (.ref r1)]) :: (r0, own_ar Z .double [(.double t0), (.double t1)]) :: (r1, own_ar Z .double [(.double t1), (.double t2)]) :: (qp, own_ar Z .double [(.double y0), (.double y1)]) :: L) (fun v M => ∃ x, v = some (.double x) ∧ own_DB 281474976710656 ((((0 + ((p_ * a_) * p_)) + ((p_ * c_) * q_)) + ((q_ * c_) * p_)) + ((q_ * d_) * q_)) x ∧ M = (a, own_ob Z "com/example/residuum/residuum/SecondOrderTerm" [("term", "[[D", (.ref g))]) :: (g, own_ar Z (.array .double) [(.ref r0), (.ref r1)]) :: (r0, own_ar Z .double [(.double t0), (.double t1)]) :: (r1, own_ar Z .double [(.double t1), (.double t2)]) :: (qp, own_ar Z .double [(.double y0), (.double y1)]) :: L) := by
  refine own_con (ls := #[.val (.ref a), .val (.ref qp), .unset, .unset, .unset, .unset]) (plainFor_of_name own_pn1) (fun m => own_ent m rfl) ?_
  intro p e s m below meth c T C X
  refine k_dconst0 C X d_prog_17_method_3_code_0 rfl ?_
  refine k_dstoreN C X d_prog_17_method_3_code_1 rfl (l' := #[.val (.ref a), .val (.ref qp), .val (.double 0), .second, .unset, .unset]) rfl ?_
  refine k_iconst C X d_prog_17_method_3_code_2 rfl (v := 0) rfl ?_
  refine k_istore C X d_prog_17_method_3_code_3 rfl (l' := #[.val (.ref a), .val (.ref qp), .val (.double 0), .second, .val (.int (0)), .unset]) rfl ?_
  refine k_iload C X d_prog_17_method_3_code_5 rfl rfl ?_
  refine k_aloadN C X d_prog_17_method_3_code_7 rfl rfl rfl ?_
  refine k_arraylength C X d_prog_17_method_3_code_8 rfl (ix := 4) rfl (z := (2)) rfl ?_
  refine k_icmp_ge C X d_prog_17_method_3_code_9 rfl (tpc := 57) rfl (fun hc => (absurd hc (by decide) : False).elim) (fun _ => ?_)
  refine k_iconst C X d_prog_17_method_3_code_12 rfl (v := 0) rfl ?_
  refine k_istore C X d_prog_17_method_3_code_13 rfl (l' := #[.val (.ref a), .val (.ref qp), .val (.double 0), .second, .val (.int (0)), .val (.int (0))]) rfl ?_
  refine k_iload C X d_prog_17_method_3_code_15 rfl rfl ?_
  refine k_aloadN C X d_prog_17_method_3_code_17 rfl rfl rfl ?_
  refine k_arraylength C X d_prog_17_method_3_code_18 rfl (ix := 4) rfl (z := (2)) rfl ?_
  refine k_icmp_ge C X d_prog_17_method_3_code_19 rfl (tpc := 51) rfl (fun hc => (absurd hc (by decide) : False).elim) (fun _ => ?_)
  refine k_dloadN C X d_prog_17_method_3_code_22 rfl rfl ?_
  refine k_aloadN C X d_prog_17_method_3_code_23 rfl rfl rfl ?_
  refine k_iload C X d_prog_17_method_3_code_24 rfl rfl ?_
  refine k_daload C X d_prog_17_method_3_code_26 rfl (ix := 4) (i := 0) rfl (by decide) (by decide) rfl ?_
  refine k_aloadN C X d_prog_17_method_3_code_27 rfl rfl rfl ?_
  refine k_getfield C X d_prog_17_method_3_code_28 rfl (host := "") (Or.inl (hw _ (List.mem_of_getElem? (i := 16) rfl))) (own_fL (ix := 0) (j := 0) rfl rfl) (fun T X => ?_)
  refine k_iload C X d_prog_17_method_3_code_31 rfl rfl ?_
  refine k_aaload C X d_prog_17_method_3_code_33 rfl (ix := 1) (i := 0) rfl rfl (by decide) (by decide) rfl ?_
  refine k_iload C X d_prog_17_method_3_code_34 rfl rfl ?_
  refine k_daload C X d_prog_17_method_3_code_36 rfl (ix := 2) (i := 0) rfl (by decide) (by decide) rfl ?_
  refine k_dmul C X d_prog_17_method_3_code_37 rfl ((own_DB.mul hp h0 (r := (p_ * a_)) rfl (D := 3221225472) rfl (by decide)).nn) (fun d37 ed37 => ?_)
  have i_d37 : own_DB 3221225472 (p_ * a_) d37 := by rw [ed37]; exact own_DB.mul hp h0 (r := (p_ * a_)) rfl (D := 3221225472) rfl (by decide)
  refine k_aloadN C X d_prog_17_method_3_code_38 rfl rfl rfl ?_
  refine k_iload C X d_prog_17_method_3_code_39 rfl rfl ?_
  refine k_daload C X d_prog_17_method_3_code_41 rfl (ix := 4) (i := 0) rfl (by decide) (by decide) rfl ?_
  refine k_dmul C X d_prog_17_method_3_code_42 rfl ((own_DB.mul i_d37 hp (r := ((p_ * a_) * p_)) rfl (D := 105553116266496) rfl (by decide)).nn) (fun d42 ed42 => ?_)
  have i_d42 : own_DB 105553116266496 ((p_ * a_) * p_) d42 := by rw [ed42]; exact own_DB.mul i_d37 hp (r := ((p_ * a_) * p_)) rfl (D := 105553116266496) rfl (by decide)
  refine k_dadd C X d_prog_17_method_3_code_43 rfl ((own_DB.add own_DB.z i_d42 (r := (0 + ((p_ * a_) * p_))) rfl (D := 105553116266496) rfl (by decide)).nn) (fun d43 ed43 => ?_)
  have i_d43 : own_DB 105553116266496 (0 + ((p_ * a_) * p_)) d43 := by rw [ed43]; exact own_DB.add own_DB.z i_d42 (r := (0 + ((p_ * a_) * p_))) rfl (D := 105553116266496) rfl (by decide)
  refine k_dstoreN C X d_prog_17_method_3_code_44 rfl (l' := #[.val (.ref a), .val (.ref qp), .val (.double d43), .second, .val (.int (0)), .val (.int (0))]) rfl ?_
  refine k_iinc C X d_prog_17_method_3_code_45 rfl (v := 1) rfl rfl (l' := #[.val (.ref a), .val (.ref qp), .val (.double d43), .second, .val (.int (0)), .val (.int (1))]) rfl ?_
  refine k_goto C X d_prog_17_method_3_code_48 (tpc := 15) rfl ?_
  refine k_iload C X d_prog_17_method_3_code_15 rfl rfl ?_
  refine k_aloadN C X d_prog_17_method_3_code_17 rfl rfl rfl ?_
  refine k_arraylength C X d_prog_17_method_3_code_18 rfl (ix := 4) rfl (z := (2)) rfl ?_
  refine k_icmp_ge C X d_prog_17_method_3_code_19 rfl (tpc := 51) rfl (fun hc => (absurd hc (by decide) : False).elim) (fun _ => ?_)
  refine k_dloadN C X d_prog_17_method_3_code_22 rfl rfl ?_
  refine k_aloadN C X d_prog_17_method_3_code_23 rfl rfl rfl ?_
  refine k_iload C X d_prog_17_method_3_code_24 rfl rfl ?_
  refine k_daload C X d_prog_17_method_3_code_26 rfl (ix := 4) (i := 0) rfl (by decide) (by decide) rfl ?_
  refine k_aloadN C X d_prog_17_method_3_code_27 rfl rfl rfl ?_
  refine k_getfield C X d_prog_17_method_3_code_28 rfl (host := "") (Or.inl (hw _ (List.mem_of_getElem? (i := 16) rfl))) (own_fL (ix := 0) (j := 0) rfl rfl) (fun T X => ?_)
  refine k_iload C X d_prog_17_method_3_code_31 rfl rfl ?_
  refine k_aaload C X d_prog_17_method_3_code_33 rfl (ix := 1) (i := 0) rfl rfl (by decide) (by decide) rfl ?_
  refine k_iload C X d_prog_17_method_3_code_34 rfl rfl ?_
  refine k_daload C X d_prog_17_method_3_code_36 rfl (ix := 2) (i := 1) rfl (by decide) (by decide) rfl ?_
  refine k_dmul C X d_prog_17_method_3_code_37 rfl ((own_DB.mul hp h1 (r := (p_ * c_)) rfl (D := 1073741824) rfl (by decide)).nn) (fun d37_1 ed37_1 => ?_)
  have i_d37_1 : own_DB 1073741824 (p_ * c_) d37_1 := by rw [ed37_1]; exact own_DB.mul hp h1 (r := (p_ * c_)) rfl (D := 1073741824) rfl (by decide)
  refine k_aloadN C X d_prog_17_method_3_code_38 rfl rfl rfl ?_
  refine k_iload C X d_prog_17_method_3_code_39 rfl rfl ?_
  refine k_daload C X d_prog_17_method_3_code_41 rfl (ix := 4) (i := 1) rfl (by decide) (by decide) rfl ?_
  refine k_dmul C X d_prog_17_method_3_code_42 rfl ((own_DB.mul i_d37_1 hq (r := ((p_ * c_) * q_)) rfl (D := 35184372088832) rfl (by decide)).nn) (fun d42_2 ed42_2 => ?_)
  have i_d42_2 : own_DB 35184372088832 ((p_ * c_) * q_) d42_2 := by rw [ed42_2]; exact own_DB.mul i_d37_1 hq (r := ((p_ * c_) * q_)) rfl (D := 35184372088832) rfl (by decide)
  refine k_dadd C X d_prog_17_method_3_code_43 rfl ((own_DB.add i_d43 i_d42_2 (r := ((0 + ((p_ * a_) * p_)) + ((p_ * c_) * q_))) rfl (D := 140737488355328) rfl (by decide)).nn) (fun d43_3 ed43_3 => ?_)
  have i_d43_3 : own_DB 140737488355328 ((0 + ((p_ * a_) * p_)) + ((p_ * c_) * q_)) d43_3 := by rw [ed43_3]; exact own_DB.add i_d43 i_d42_2 (r := ((0 + ((p_ * a_) * p_)) + ((p_ * c_) * q_))) rfl (D := 140737488355328) rfl (by decide)
  refine k_dstoreN C X d_prog_17_method_3_code_44 rfl (l' := #[.val (.ref a), .val (.ref qp), .val (.double d43_3), .second, .val (.int (0)), .val (.int (1))]) rfl ?_
  refine k_iinc C X d_prog_17_method_3_code_45 rfl (v := 1) rfl rfl (l' := #[.val (.ref a), .val (.ref qp), .val (.double d43_3), .second, .val (.int (0)), .val (.int (2))]) rfl ?_
  refine k_goto C X d_prog_17_method_3_code_48 (tpc := 15) rfl ?_
  refine k_iload C X d_prog_17_method_3_code_15 rfl rfl ?_
  refine k_aloadN C X d_prog_17_method_3_code_17 rfl rfl rfl ?_
  refine k_arraylength C X d_prog_17_method_3_code_18 rfl (ix := 4) rfl (z := (2)) rfl ?_
  refine k_icmp_ge C X d_prog_17_method_3_code_19 rfl (tpc := 51) rfl (fun _ => ?_) (fun hc => (absurd hc (by decide) : False).elim)
  refine k_iinc C X d_prog_17_method_3_code_51 rfl (v := 1) rfl rfl (l' := #[.val (.ref a), .val (.ref qp), .val (.double d43_3), .second, .val (.int (1)), .val (.int (2))]) rfl ?_
  refine k_goto C X d_prog_17_method_3_code_54 (tpc := 5) rfl ?_
  refine k_iload C X d_prog_17_method_3_code_5 rfl rfl ?_
  refine k_aloadN C X d_prog_17_method_3_code_7 rfl rfl rfl ?_
  refine k_arraylength C X d_prog_17_method_3_code_8 rfl (ix := 4) rfl (z := (2)) rfl ?_
  refine k_icmp_ge C X d_prog_17_method_3_code_9 rfl (tpc := 57) rfl (fun hc => (absurd hc (by decide) : False).elim) (fun _ => ?_)
  refine k_iconst C X d_prog_17_method_3_code_12 rfl (v := 0) rfl ?_
  refine k_istore C X d_prog_17_method_3_code_13 rfl (l' := #[.val (.ref a), .val (.ref qp), .val (.double d43_3), .second, .val (.int (1)), .val (.int (0))]) rfl ?_
  refine k_iload C X d_prog_17_method_3_code_15 rfl rfl ?_
  refine k_aloadN C X d_prog_17_method_3_code_17 rfl rfl rfl ?_
  refine k_arraylength C X d_prog_17_method_3_code_18 rfl (ix := 4) rfl (z := (2)) rfl ?_
  refine k_icmp_ge C X d_prog_17_method_3_code_19 rfl (tpc := 51) rfl (fun hc => (absurd hc (by decide) : False).elim) (fun _ => ?_)
  refine k_dloadN C X d_prog_17_method_3_code_22 rfl rfl ?_
  refine k_aloadN C X d_prog_17_method_3_code_23 rfl rfl rfl ?_
  refine k_iload C X d_prog_17_method_3_code_24 rfl rfl ?_
  refine k_daload C X d_prog_17_method_3_code_26 rfl (ix := 4) (i := 1) rfl (by decide) (by decide) rfl ?_
  refine k_aloadN C X d_prog_17_method_3_code_27 rfl rfl rfl ?_
  refine k_getfield C X d_prog_17_method_3_code_28 rfl (host := "") (Or.inl (hw _ (List.mem_of_getElem? (i := 16) rfl))) (own_fL (ix := 0) (j := 0) rfl rfl) (fun T X => ?_)
  refine k_iload C X d_prog_17_method_3_code_31 rfl rfl ?_
  refine k_aaload C X d_prog_17_method_3_code_33 rfl (ix := 1) (i := 1) rfl rfl (by decide) (by decide) rfl ?_
  refine k_iload C X d_prog_17_method_3_code_34 rfl rfl ?_
  refine k_daload C X d_prog_17_method_3_code_36 rfl (ix := 3) (i := 0) rfl (by decide) (by decide) rfl ?_
  refine k_dmul C X d_prog_17_method_3_code_37 rfl ((own_DB.mul hq h1 (r := (q_ * c_)) rfl (D := 1073741824) rfl (by decide)).nn) (fun d37_4 ed37_4 => ?_)
  have i_d37_4 : own_DB 1073741824 (q_ * c_) d37_4 := by rw [ed37_4]; exact own_DB.mul hq h1 (r := (q_ * c_)) rfl (D := 1073741824) rfl (by decide)
  refine k_aloadN C X d_prog_17_method_3_code_38 rfl rfl rfl ?_
  refine k_iload C X d_prog_17_method_3_code_39 rfl rfl ?_
  refine k_daload C X d_prog_17_method_3_code_41 rfl (ix := 4) (i := 0) rfl (by decide) (by decide) rfl ?_
  refine k_dmul C X d_prog_17_method_3_code_42 rfl ((own_DB.mul i_d37_4 hp (r := ((q_ * c_) * p_)) rfl (D := 35184372088832) rfl (by decide)).nn) (fun d42_5 ed42_5 => ?_)
  have i_d42_5 : own_DB 35184372088832 ((q_ * c_) * p_) d42_5 := by rw [ed42_5]; exact own_DB.mul i_d37_4 hp (r := ((q_ * c_) * p_)) rfl (D := 35184372088832) rfl (by decide)
  refine k_dadd C X d_prog_17_method_3_code_43 rfl ((own_DB.add i_d43_3 i_d42_5 (r := (((0 + ((p_ * a_) * p_)) + ((p_ * c_) * q_)) + ((q_ * c_) * p_))) rfl (D := 175921860444160) rfl (by decide)).nn) (fun d43_6 ed43_6 => ?_)
  have i_d43_6 : own_DB 175921860444160 (((0 + ((p_ * a_) * p_)) + ((p_ * c_) * q_)) + ((q_ * c_) * p_)) d43_6 := by rw [ed43_6]; exact own_DB.add i_d43_3 i_d42_5 (r := (((0 + ((p_ * a_) * p_)) + ((p_ * c_) * q_)) + ((q_ * c_) * p_))) rfl (D := 175921860444160) rfl (by decide)
  refine k_dstoreN C X d_prog_17_method_3_code_44 rfl (l' := #[.val (.ref a), .val (.ref qp), .val (.double d43_6), .second, .val (.int (1)), .val (.int (0))]) rfl ?_
  refine k_iinc C X d_prog_17_method_3_code_45 rfl (v := 1) rfl rfl (l' := #[.val (.ref a), .val (.ref qp), .val (.double d43_6), .second, .val (.int (1)), .val (.int (1))]) rfl ?_
  refine k_goto C X d_prog_17_method_3_code_48 (tpc := 15) rfl ?_
  refine k_iload C X d_prog_17_method_3_code_15 rfl rfl ?_
  refine k_aloadN C X d_prog_17_method_3_code_17 rfl rfl rfl ?_
  refine k_arraylength C X d_prog_17_method_3_code_18 rfl (ix := 4) rfl (z := (2)) rfl ?_
  refine k_icmp_ge C X d_prog_17_method_3_code_19 rfl (tpc := 51) rfl (fun hc => (absurd hc (by decide) : False).elim) (fun _ => ?_)
  refine k_dloadN C X d_prog_17_method_3_code_22 rfl rfl ?_
  refine k_aloadN C X d_prog_17_method_3_code_23 rfl rfl rfl ?_
  refine k_iload C X d_prog_17_method_3_code_24 rfl rfl ?_
  refine k_daload C X d_prog_17_method_3_code_26 rfl (ix := 4) (i := 1) rfl (by decide) (by decide) rfl ?_
  refine k_aloadN C X d_prog_17_method_3_code_27 rfl rfl rfl ?_
  refine k_getfield C X d_prog_17_method_3_code_28 rfl (host := "") (Or.inl (hw _ (List.mem_of_getElem? (i := 16) rfl))) (own_fL (ix := 0) (j := 0) rfl rfl) (fun T X => ?_)
  refine k_iload C X d_prog_17_method_3_code_31 rfl rfl ?_
  refine k_aaload C X d_prog_17_method_3_code_33 rfl (ix := 1) (i := 1) rfl rfl (by decide) (by decide) rfl ?_
  refine k_iload C X d_prog_17_method_3_code_34 rfl rfl ?_
  refine k_daload C X d_prog_17_method_3_code_36 rfl (ix := 3) (i := 1) rfl (by decide) (by decide) rfl ?_
  refine k_dmul C X d_prog_17_method_3_code_37 rfl ((own_DB.mul hq h2 (r := (q_ * d_)) rfl (D := 3221225472) rfl (by decide)).nn) (fun d37_7 ed37_7 => ?_)
  have i_d37_7 : own_DB 3221225472 (q_ * d_) d37_7 := by rw [ed37_7]; exact own_DB.mul hq h2 (r := (q_ * d_)) rfl (D := 3221225472) rfl (by decide)
  refine k_aloadN C X d_prog_17_method_3_code_38 rfl rfl rfl ?_
  refine k_iload C X d_prog_17_method_3_code_39 rfl rfl ?_
  refine k_daload C X d_prog_17_method_3_code_41 rfl (ix := 4) (i := 1) rfl (by decide) (by decide) rfl ?_
  refine k_dmul C X d_prog_17_method_3_code_42 rfl ((own_DB.mul i_d37_7 hq (r := ((q_ * d_) * q_)) rfl (D := 105553116266496) rfl (by decide)).nn) (fun d42_8 ed42_8 => ?_)
  have i_d42_8 : own_DB 105553116266496 ((q_ * d_) * q_) d42_8 := by rw [ed42_8]; exact own_DB.mul i_d37_7 hq (r := ((q_ * d_) * q_)) rfl (D := 105553116266496) rfl (by decide)
  refine k_dadd C X d_prog_17_method_3_code_43 rfl ((own_DB.add i_d43_6 i_d42_8 (r := ((((0 + ((p_ * a_) * p_)) + ((p_ * c_) * q_)) + ((q_ * c_) * p_)) + ((q_ * d_) * q_))) rfl (D := 281474976710656) rfl (by decide)).nn) (fun d43_9 ed43_9 => ?_)
  have i_d43_9 : own_DB 281474976710656 ((((0 + ((p_ * a_) * p_)) + ((p_ * c_) * q_)) + ((q_ * c_) * p_)) + ((q_ * d_) * q_)) d43_9 := by rw [ed43_9]; exact own_DB.add i_d43_6 i_d42_8 (r := ((((0 + ((p_ * a_) * p_)) + ((p_ * c_) * q_)) + ((q_ * c_) * p_)) + ((q_ * d_) * q_))) rfl (D := 281474976710656) rfl (by decide)
  refine k_dstoreN C X d_prog_17_method_3_code_44 rfl (l' := #[.val (.ref a), .val (.ref qp), .val (.double d43_9), .second, .val (.int (1)), .val (.int (1))]) rfl ?_
  refine k_iinc C X d_prog_17_method_3_code_45 rfl (v := 1) rfl rfl (l' := #[.val (.ref a), .val (.ref qp), .val (.double d43_9), .second, .val (.int (1)), .val (.int (2))]) rfl ?_
  refine k_goto C X d_prog_17_method_3_code_48 (tpc := 15) rfl ?_
  refine k_iload C X d_prog_17_method_3_code_15 rfl rfl ?_
  refine k_aloadN C X d_prog_17_method_3_code_17 rfl rfl rfl ?_
  refine k_arraylength C X d_prog_17_method_3_code_18 rfl (ix := 4) rfl (z := (2)) rfl ?_
  refine k_icmp_ge C X d_prog_17_method_3_code_19 rfl (tpc := 51) rfl (fun _ => ?_) (fun hc => (absurd hc (by decide) : False).elim)
  refine k_iinc C X d_prog_17_method_3_code_51 rfl (v := 1) rfl rfl (l' := #[.val (.ref a), .val (.ref qp), .val (.double d43_9), .second, .val (.int (2)), .val (.int (2))]) rfl ?_
  refine k_goto C X d_prog_17_method_3_code_54 (tpc := 5) rfl ?_
  refine k_iload C X d_prog_17_method_3_code_5 rfl rfl ?_
  refine k_aloadN C X d_prog_17_method_3_code_7 rfl rfl rfl ?_
  refine k_arraylength C X d_prog_17_method_3_code_8 rfl (ix := 4) rfl (z := (2)) rfl ?_
  refine k_icmp_ge C X d_prog_17_method_3_code_9 rfl (tpc := 57) rfl (fun _ => ?_) (fun hc => (absurd hc (by decide) : False).elim)
  refine k_dloadN C X d_prog_17_method_3_code_57 rfl rfl ?_
  exact k_dreturn C X d_prog_17_method_3_code_58 ⟨_, rfl, i_d43_9, rfl⟩ (by decide) (by decide)
theorem own_pd0 : parseMethodDescriptor "(I)J" = some ⟨[.int], some .long⟩ := by decide +kernel
theorem own_pd1 : parseMethodDescriptor "(I)V" = some ⟨[.int], none⟩ := by decide +kernel
theorem own_pd2 : parseMethodDescriptor "([D[D[D[D)V" = some ⟨[(.array .double), (.array .double), (.array .double), (.array .double)], none⟩ := by decide +kernel
theorem own_pd3 : parseMethodDescriptor "([D)D" = some ⟨[(.array .double)], some .double⟩ := by decide +kernel
set_option maxRecDepth 65536 in
set_option maxHeartbeats 40000000 in
theorem own_law (l : Launch) (Z : State) (a0 : Array Value) (hw : ∀ d ∈ tables_1, d.before a0 Z = true) (x0 x1 x2 x3 x4 : Int32) :
    own_Con l Z x code maxLocals ret room_1 #[(.int x0), (.int x1), (.int x2), (.int x3), (.int x4)] ([]) (fun v M => v = some (.int 1)) := by
  refine own_con (ls := #[.val (.int x0), .val (.int x1), .val (.int x2), .val (.int x3), .val (.int x4), .unset, .unset, .unset, .unset, .unset, .unset, .unset, .unset, .unset, .unset, .unset, .unset, .unset, .unset, .unset, .unset, .unset, .unset, .unset, .unset, .unset, .unset, .unset, .unset]) (plainFor_of_name own_pn0) (fun m => own_ent m rfl) ?_
  intro p e s m below meth c T C X
  refine k_iloadN C X at_0 rfl rfl ?_
  refine k_static C X at_1 rfl (hw _ (List.mem_of_getElem? (i := 0) rfl)) (hw _ (List.mem_of_getElem? (i := 1) rfl)) (hw _ (List.mem_of_getElem? (i := 2) rfl)) (hw _ (List.mem_of_getElem? (i := 3) rfl)) (by decide) (own_cs16 l Z a0 hw x0 ([])) (W := 0) (argsL := [(.int x0)]) (rest := []) rfl rfl rfl own_pd0 rfl (Nat.le_of_eq rfl) (by decide) (by decide) (by decide) (by decide) (fun v T M hQ X => ?_)
  obtain ⟨rfl, rfl⟩ := hQ
  refine k_lstore C X at_4 rfl (l' := #[.val (.int x0), .val (.int x1), .val (.int x2), .val (.int x3), .val (.int x4), .val (.long (own_s16 x0)), .second, .unset, .unset, .unset, .unset, .unset, .unset, .unset, .unset, .unset, .unset, .unset, .unset, .unset, .unset, .unset, .unset, .unset, .unset, .unset, .unset, .unset, .unset]) rfl ?_
  refine k_iloadN C X at_6 rfl rfl ?_
  refine k_static C X at_7 rfl (hw _ (List.mem_of_getElem? (i := 0) rfl)) (hw _ (List.mem_of_getElem? (i := 1) rfl)) (hw _ (List.mem_of_getElem? (i := 2) rfl)) (hw _ (List.mem_of_getElem? (i := 3) rfl)) (by decide) (own_cs16 l Z a0 hw x1 ([])) (W := 0) (argsL := [(.int x1)]) (rest := []) rfl rfl rfl own_pd0 rfl (Nat.le_of_eq rfl) (by decide) (by decide) (by decide) (by decide) (fun v T M hQ X => ?_)
  obtain ⟨rfl, rfl⟩ := hQ
  refine k_lstore C X at_10 rfl (l' := #[.val (.int x0), .val (.int x1), .val (.int x2), .val (.int x3), .val (.int x4), .val (.long (own_s16 x0)), .second, .val (.long (own_s16 x1)), .second, .unset, .unset, .unset, .unset, .unset, .unset, .unset, .unset, .unset, .unset, .unset, .unset, .unset, .unset, .unset, .unset, .unset, .unset, .unset, .unset]) rfl ?_
  refine k_iloadN C X at_12 rfl rfl ?_
  refine k_static C X at_13 rfl (hw _ (List.mem_of_getElem? (i := 0) rfl)) (hw _ (List.mem_of_getElem? (i := 1) rfl)) (hw _ (List.mem_of_getElem? (i := 2) rfl)) (hw _ (List.mem_of_getElem? (i := 3) rfl)) (by decide) (own_cs16 l Z a0 hw x2 ([])) (W := 0) (argsL := [(.int x2)]) (rest := []) rfl rfl rfl own_pd0 rfl (Nat.le_of_eq rfl) (by decide) (by decide) (by decide) (by decide) (fun v T M hQ X => ?_)
  obtain ⟨rfl, rfl⟩ := hQ
  refine k_lstore C X at_16 rfl (l' := #[.val (.int x0), .val (.int x1), .val (.int x2), .val (.int x3), .val (.int x4), .val (.long (own_s16 x0)), .second, .val (.long (own_s16 x1)), .second, .val (.long (own_s16 x2)), .second, .unset, .unset, .unset, .unset, .unset, .unset, .unset, .unset, .unset, .unset, .unset, .unset, .unset, .unset, .unset, .unset, .unset, .unset]) rfl ?_
  refine k_iloadN C X at_18 rfl rfl ?_
  refine k_static C X at_19 rfl (hw _ (List.mem_of_getElem? (i := 0) rfl)) (hw _ (List.mem_of_getElem? (i := 1) rfl)) (hw _ (List.mem_of_getElem? (i := 2) rfl)) (hw _ (List.mem_of_getElem? (i := 3) rfl)) (by decide) (own_cs16 l Z a0 hw x3 ([])) (W := 0) (argsL := [(.int x3)]) (rest := []) rfl rfl rfl own_pd0 rfl (Nat.le_of_eq rfl) (by decide) (by decide) (by decide) (by decide) (fun v T M hQ X => ?_)
  obtain ⟨rfl, rfl⟩ := hQ
  refine k_lstore C X at_22 rfl (l' := #[.val (.int x0), .val (.int x1), .val (.int x2), .val (.int x3), .val (.int x4), .val (.long (own_s16 x0)), .second, .val (.long (own_s16 x1)), .second, .val (.long (own_s16 x2)), .second, .val (.long (own_s16 x3)), .second, .unset, .unset, .unset, .unset, .unset, .unset, .unset, .unset, .unset, .unset, .unset, .unset, .unset, .unset, .unset, .unset]) rfl ?_
  refine k_iload C X at_24 rfl rfl ?_
  refine k_static C X at_26 rfl (hw _ (List.mem_of_getElem? (i := 0) rfl)) (hw _ (List.mem_of_getElem? (i := 1) rfl)) (hw _ (List.mem_of_getElem? (i := 2) rfl)) (hw _ (List.mem_of_getElem? (i := 3) rfl)) (by decide) (own_cs16 l Z a0 hw x4 ([])) (W := 0) (argsL := [(.int x4)]) (rest := []) rfl rfl rfl own_pd0 rfl (Nat.le_of_eq rfl) (by decide) (by decide) (by decide) (by decide) (fun v T M hQ X => ?_)
  obtain ⟨rfl, rfl⟩ := hQ
  refine k_lstore C X at_29 rfl (l' := #[.val (.int x0), .val (.int x1), .val (.int x2), .val (.int x3), .val (.int x4), .val (.long (own_s16 x0)), .second, .val (.long (own_s16 x1)), .second, .val (.long (own_s16 x2)), .second, .val (.long (own_s16 x3)), .second, .val (.long (own_s16 x4)), .second, .unset, .unset, .unset, .unset, .unset, .unset, .unset, .unset, .unset, .unset, .unset, .unset, .unset, .unset]) rfl ?_
  refine k_iconst C X at_31 rfl (v := 2) rfl ?_
  refine k_newarray C X at_32 rfl (ty := .double) rfl (hw _ (List.mem_of_getElem? (i := 4) rfl)) (by decide) (cap := 2) (by decide) (by decide) (by decide) (by decide) (vs := [(.double 0), (.double 0)]) rfl (fun T o32 X => ?_)
  refine k_dup C X at_34 rfl rfl ?_
  refine k_iconst C X at_35 rfl (v := 0) rfl ?_
  refine k_dconst1 C X at_36 rfl ?_
  refine k_dastore C X at_37 rfl (ix := 0) (i := 0) rfl (by decide) (by decide) (Nat.le_of_ble_eq_true rfl) (vs' := [(.double 4607182418800017408), (.double 0)]) rfl (L' := [(o32, own_ar Z .double [(.double 4607182418800017408), (.double 0)])]) rfl (fun T X => ?_)
  refine k_dup C X at_38 rfl rfl ?_
  refine k_iconst C X at_39 rfl (v := 1) rfl ?_
  refine k_dconst0 C X at_40 rfl ?_
  refine k_dastore C X at_41 rfl (ix := 0) (i := 1) rfl (by decide) (by decide) (Nat.le_of_ble_eq_true rfl) (vs' := [(.double 4607182418800017408), (.double 0)]) rfl (L' := [(o32, own_ar Z .double [(.double 4607182418800017408), (.double 0)])]) rfl (fun T X => ?_)
  refine k_astore C X at_42 rfl rfl (l' := #[.val (.int x0), .val (.int x1), .val (.int x2), .val (.int x3), .val (.int x4), .val (.long (own_s16 x0)), .second, .val (.long (own_s16 x1)), .second, .val (.long (own_s16 x2)), .second, .val (.long (own_s16 x3)), .second, .val (.long (own_s16 x4)), .second, .val (.ref o32), .unset, .unset, .unset, .unset, .unset, .unset, .unset, .unset, .unset, .unset, .unset, .unset, .unset]) rfl ?_
  refine k_iconst C X at_44 rfl (v := 2) rfl ?_
  refine k_newarray C X at_45 rfl (ty := .double) rfl (hw _ (List.mem_of_getElem? (i := 4) rfl)) (by decide) (cap := 2) (by decide) (by decide) (by decide) (by decide) (vs := [(.double 0), (.double 0)]) rfl (fun T o45 X => ?_)
  refine k_dup C X at_47 rfl rfl ?_
  refine k_iconst C X at_48 rfl (v := 0) rfl ?_
  refine k_dconst1 C X at_49 rfl ?_
  refine k_dastore C X at_50 rfl (ix := 0) (i := 0) rfl (by decide) (by decide) (Nat.le_of_ble_eq_true rfl) (vs' := [(.double 4607182418800017408), (.double 0)]) rfl (L' := [(o45, own_ar Z .double [(.double 4607182418800017408), (.double 0)]), (o32, own_ar Z .double [(.double 4607182418800017408), (.double 0)])]) rfl (fun T X => ?_)
  refine k_dup C X at_51 rfl rfl ?_
  refine k_iconst C X at_52 rfl (v := 1) rfl ?_
  refine k_dconst0 C X at_53 rfl ?_
  refine k_dastore C X at_54 rfl (ix := 0) (i := 1) rfl (by decide) (by decide) (Nat.le_of_ble_eq_true rfl) (vs' := [(.double 4607182418800017408), (.double 0)]) rfl (L' := [(o45, own_ar Z .double [(.double 4607182418800017408), (.double 0)]), (o32, own_ar Z .double [(.double 4607182418800017408), (.double 0)])]) rfl (fun T X => ?_)
  refine k_astore C X at_55 rfl rfl (l' := #[.val (.int x0), .val (.int x1), .val (.int x2), .val (.int x3), .val (.int x4), .val (.long (own_s16 x0)), .second, .val (.long (own_s16 x1)), .second, .val (.long (own_s16 x2)), .second, .val (.long (own_s16 x3)), .second, .val (.long (own_s16 x4)), .second, .val (.ref o32), .val (.ref o45), .unset, .unset, .unset, .unset, .unset, .unset, .unset, .unset, .unset, .unset, .unset, .unset]) rfl ?_
  refine k_iconst C X at_57 rfl (v := 2) rfl ?_
  refine k_newarray C X at_58 rfl (ty := .double) rfl (hw _ (List.mem_of_getElem? (i := 4) rfl)) (by decide) (cap := 2) (by decide) (by decide) (by decide) (by decide) (vs := [(.double 0), (.double 0)]) rfl (fun T o58 X => ?_)
  refine k_dup C X at_60 rfl rfl ?_
  refine k_iconst C X at_61 rfl (v := 0) rfl ?_
  refine k_lload C X at_62 rfl rfl ?_
  refine k_l2d C X at_64 rfl ?_
  refine k_dastore C X at_65 rfl (ix := 0) (i := 0) rfl (by decide) (by decide) (Nat.le_of_ble_eq_true rfl) (vs' := [(.double (FP.l2d (own_s16 x0))), (.double 0)]) rfl (L' := [(o58, own_ar Z .double [(.double (FP.l2d (own_s16 x0))), (.double 0)]), (o45, own_ar Z .double [(.double 4607182418800017408), (.double 0)]), (o32, own_ar Z .double [(.double 4607182418800017408), (.double 0)])]) rfl (fun T X => ?_)
  refine k_dup C X at_66 rfl rfl ?_
  refine k_iconst C X at_67 rfl (v := 1) rfl ?_
  refine k_dconst0 C X at_68 rfl ?_
  refine k_dastore C X at_69 rfl (ix := 0) (i := 1) rfl (by decide) (by decide) (Nat.le_of_ble_eq_true rfl) (vs' := [(.double (FP.l2d (own_s16 x0))), (.double 0)]) rfl (L' := [(o58, own_ar Z .double [(.double (FP.l2d (own_s16 x0))), (.double 0)]), (o45, own_ar Z .double [(.double 4607182418800017408), (.double 0)]), (o32, own_ar Z .double [(.double 4607182418800017408), (.double 0)])]) rfl (fun T X => ?_)
  refine k_astore C X at_70 rfl rfl (l' := #[.val (.int x0), .val (.int x1), .val (.int x2), .val (.int x3), .val (.int x4), .val (.long (own_s16 x0)), .second, .val (.long (own_s16 x1)), .second, .val (.long (own_s16 x2)), .second, .val (.long (own_s16 x3)), .second, .val (.long (own_s16 x4)), .second, .val (.ref o32), .val (.ref o45), .val (.ref o58), .unset, .unset, .unset, .unset, .unset, .unset, .unset, .unset, .unset, .unset, .unset]) rfl ?_
  refine k_iconst C X at_72 rfl (v := 2) rfl ?_
  refine k_newarray C X at_73 rfl (ty := .double) rfl (hw _ (List.mem_of_getElem? (i := 4) rfl)) (by decide) (cap := 2) (by decide) (by decide) (by decide) (by decide) (vs := [(.double 0), (.double 0)]) rfl (fun T o73 X => ?_)
  refine k_dup C X at_75 rfl rfl ?_
  refine k_iconst C X at_76 rfl (v := 0) rfl ?_
  refine k_dconst0 C X at_77 rfl ?_
  refine k_dastore C X at_78 rfl (ix := 0) (i := 0) rfl (by decide) (by decide) (Nat.le_of_ble_eq_true rfl) (vs' := [(.double 0), (.double 0)]) rfl (L' := [(o73, own_ar Z .double [(.double 0), (.double 0)]), (o58, own_ar Z .double [(.double (FP.l2d (own_s16 x0))), (.double 0)]), (o45, own_ar Z .double [(.double 4607182418800017408), (.double 0)]), (o32, own_ar Z .double [(.double 4607182418800017408), (.double 0)])]) rfl (fun T X => ?_)
  refine k_dup C X at_79 rfl rfl ?_
  refine k_iconst C X at_80 rfl (v := 1) rfl ?_
  refine k_dconst0 C X at_81 rfl ?_
  refine k_dastore C X at_82 rfl (ix := 0) (i := 1) rfl (by decide) (by decide) (Nat.le_of_ble_eq_true rfl) (vs' := [(.double 0), (.double 0)]) rfl (L' := [(o73, own_ar Z .double [(.double 0), (.double 0)]), (o58, own_ar Z .double [(.double (FP.l2d (own_s16 x0))), (.double 0)]), (o45, own_ar Z .double [(.double 4607182418800017408), (.double 0)]), (o32, own_ar Z .double [(.double 4607182418800017408), (.double 0)])]) rfl (fun T X => ?_)
  refine k_astore C X at_83 rfl rfl (l' := #[.val (.int x0), .val (.int x1), .val (.int x2), .val (.int x3), .val (.int x4), .val (.long (own_s16 x0)), .second, .val (.long (own_s16 x1)), .second, .val (.long (own_s16 x2)), .second, .val (.long (own_s16 x3)), .second, .val (.long (own_s16 x4)), .second, .val (.ref o32), .val (.ref o45), .val (.ref o58), .val (.ref o73), .unset, .unset, .unset, .unset, .unset, .unset, .unset, .unset, .unset, .unset]) rfl ?_
  refine k_iconst C X at_85 rfl (v := 2) rfl ?_
  refine k_newarray C X at_86 rfl (ty := .double) rfl (hw _ (List.mem_of_getElem? (i := 4) rfl)) (by decide) (cap := 2) (by decide) (by decide) (by decide) (by decide) (vs := [(.double 0), (.double 0)]) rfl (fun T o86 X => ?_)
  refine k_dup C X at_88 rfl rfl ?_
  refine k_iconst C X at_89 rfl (v := 0) rfl ?_
  refine k_dconst0 C X at_90 rfl ?_
  refine k_dastore C X at_91 rfl (ix := 0) (i := 0) rfl (by decide) (by decide) (Nat.le_of_ble_eq_true rfl) (vs' := [(.double 0), (.double 0)]) rfl (L' := [(o86, own_ar Z .double [(.double 0), (.double 0)]), (o73, own_ar Z .double [(.double 0), (.double 0)]), (o58, own_ar Z .double [(.double (FP.l2d (own_s16 x0))), (.double 0)]), (o45, own_ar Z .double [(.double 4607182418800017408), (.double 0)]), (o32, own_ar Z .double [(.double 4607182418800017408), (.double 0)])]) rfl (fun T X => ?_)
  refine k_dup C X at_92 rfl rfl ?_
  refine k_iconst C X at_93 rfl (v := 1) rfl ?_
  refine k_dconst1 C X at_94 rfl ?_
  refine k_dastore C X at_95 rfl (ix := 0) (i := 1) rfl (by decide) (by decide) (Nat.le_of_ble_eq_true rfl) (vs' := [(.double 0), (.double 4607182418800017408)]) rfl (L' := [(o86, own_ar Z .double [(.double 0), (.double 4607182418800017408)]), (o73, own_ar Z .double [(.double 0), (.double 0)]), (o58, own_ar Z .double [(.double (FP.l2d (own_s16 x0))), (.double 0)]), (o45, own_ar Z .double [(.double 4607182418800017408), (.double 0)]), (o32, own_ar Z .double [(.double 4607182418800017408), (.double 0)])]) rfl (fun T X => ?_)
  refine k_astore C X at_96 rfl rfl (l' := #[.val (.int x0), .val (.int x1), .val (.int x2), .val (.int x3), .val (.int x4), .val (.long (own_s16 x0)), .second, .val (.long (own_s16 x1)), .second, .val (.long (own_s16 x2)), .second, .val (.long (own_s16 x3)), .second, .val (.long (own_s16 x4)), .second, .val (.ref o32), .val (.ref o45), .val (.ref o58), .val (.ref o73), .val (.ref o86), .unset, .unset, .unset, .unset, .unset, .unset, .unset, .unset, .unset]) rfl ?_
  refine k_iconst C X at_98 rfl (v := 2) rfl ?_
  refine k_newarray C X at_99 rfl (ty := .double) rfl (hw _ (List.mem_of_getElem? (i := 4) rfl)) (by decide) (cap := 2) (by decide) (by decide) (by decide) (by decide) (vs := [(.double 0), (.double 0)]) rfl (fun T o99 X => ?_)
  refine k_dup C X at_101 rfl rfl ?_
  refine k_iconst C X at_102 rfl (v := 0) rfl ?_
  refine k_dconst0 C X at_103 rfl ?_
  refine k_dastore C X at_104 rfl (ix := 0) (i := 0) rfl (by decide) (by decide) (Nat.le_of_ble_eq_true rfl) (vs' := [(.double 0), (.double 0)]) rfl (L' := [(o99, own_ar Z .double [(.double 0), (.double 0)]), (o86, own_ar Z .double [(.double 0), (.double 4607182418800017408)]), (o73, own_ar Z .double [(.double 0), (.double 0)]), (o58, own_ar Z .double [(.double (FP.l2d (own_s16 x0))), (.double 0)]), (o45, own_ar Z .double [(.double 4607182418800017408), (.double 0)]), (o32, own_ar Z .double [(.double 4607182418800017408), (.double 0)])]) rfl (fun T X => ?_)
  refine k_dup C X at_105 rfl rfl ?_
  refine k_iconst C X at_106 rfl (v := 1) rfl ?_
  refine k_dconst1 C X at_107 rfl ?_
  refine k_dastore C X at_108 rfl (ix := 0) (i := 1) rfl (by decide) (by decide) (Nat.le_of_ble_eq_true rfl) (vs' := [(.double 0), (.double 4607182418800017408)]) rfl (L' := [(o99, own_ar Z .double [(.double 0), (.double 4607182418800017408)]), (o86, own_ar Z .double [(.double 0), (.double 4607182418800017408)]), (o73, own_ar Z .double [(.double 0), (.double 0)]), (o58, own_ar Z .double [(.double (FP.l2d (own_s16 x0))), (.double 0)]), (o45, own_ar Z .double [(.double 4607182418800017408), (.double 0)]), (o32, own_ar Z .double [(.double 4607182418800017408), (.double 0)])]) rfl (fun T X => ?_)
  refine k_astore C X at_109 rfl rfl (l' := #[.val (.int x0), .val (.int x1), .val (.int x2), .val (.int x3), .val (.int x4), .val (.long (own_s16 x0)), .second, .val (.long (own_s16 x1)), .second, .val (.long (own_s16 x2)), .second, .val (.long (own_s16 x3)), .second, .val (.long (own_s16 x4)), .second, .val (.ref o32), .val (.ref o45), .val (.ref o58), .val (.ref o73), .val (.ref o86), .val (.ref o99), .unset, .unset, .unset, .unset, .unset, .unset, .unset, .unset]) rfl ?_
  refine k_iconst C X at_111 rfl (v := 2) rfl ?_
  refine k_newarray C X at_112 rfl (ty := .double) rfl (hw _ (List.mem_of_getElem? (i := 4) rfl)) (by decide) (cap := 2) (by decide) (by decide) (by decide) (by decide) (vs := [(.double 0), (.double 0)]) rfl (fun T o112 X => ?_)
  refine k_dup C X at_114 rfl rfl ?_
  refine k_iconst C X at_115 rfl (v := 0) rfl ?_
  refine k_lload C X at_116 rfl rfl ?_
  refine k_l2d C X at_118 rfl ?_
  refine k_dastore C X at_119 rfl (ix := 0) (i := 0) rfl (by decide) (by decide) (Nat.le_of_ble_eq_true rfl) (vs' := [(.double (FP.l2d (own_s16 x1))), (.double 0)]) rfl (L' := [(o112, own_ar Z .double [(.double (FP.l2d (own_s16 x1))), (.double 0)]), (o99, own_ar Z .double [(.double 0), (.double 4607182418800017408)]), (o86, own_ar Z .double [(.double 0), (.double 4607182418800017408)]), (o73, own_ar Z .double [(.double 0), (.double 0)]), (o58, own_ar Z .double [(.double (FP.l2d (own_s16 x0))), (.double 0)]), (o45, own_ar Z .double [(.double 4607182418800017408), (.double 0)]), (o32, own_ar Z .double [(.double 4607182418800017408), (.double 0)])]) rfl (fun T X => ?_)
  refine k_dup C X at_120 rfl rfl ?_
  refine k_iconst C X at_121 rfl (v := 1) rfl ?_
  refine k_lload C X at_122 rfl rfl ?_
  refine k_l2d C X at_124 rfl ?_
  refine k_dastore C X at_125 rfl (ix := 0) (i := 1) rfl (by decide) (by decide) (Nat.le_of_ble_eq_true rfl) (vs' := [(.double (FP.l2d (own_s16 x1))), (.double (FP.l2d (own_s16 x2)))]) rfl (L' := [(o112, own_ar Z .double [(.double (FP.l2d (own_s16 x1))), (.double (FP.l2d (own_s16 x2)))]), (o99, own_ar Z .double [(.double 0), (.double 4607182418800017408)]), (o86, own_ar Z .double [(.double 0), (.double 4607182418800017408)]), (o73, own_ar Z .double [(.double 0), (.double 0)]), (o58, own_ar Z .double [(.double (FP.l2d (own_s16 x0))), (.double 0)]), (o45, own_ar Z .double [(.double 4607182418800017408), (.double 0)]), (o32, own_ar Z .double [(.double 4607182418800017408), (.double 0)])]) rfl (fun T X => ?_)
  refine k_astore C X at_126 rfl rfl (l' := #[.val (.int x0), .val (.int x1), .val (.int x2), .val (.int x3), .val (.int x4), .val (.long (own_s16 x0)), .second, .val (.long (own_s16 x1)), .second, .val (.long (own_s16 x2)), .second, .val (.long (own_s16 x3)), .second, .val (.long (own_s16 x4)), .second, .val (.ref o32), .val (.ref o45), .val (.ref o58), .val (.ref o73), .val (.ref o86), .val (.ref o99), .val (.ref o112), .unset, .unset, .unset, .unset, .unset, .unset, .unset]) rfl ?_
  refine k_iconst C X at_128 rfl (v := 2) rfl ?_
  refine k_newarray C X at_129 rfl (ty := .double) rfl (hw _ (List.mem_of_getElem? (i := 4) rfl)) (by decide) (cap := 2) (by decide) (by decide) (by decide) (by decide) (vs := [(.double 0), (.double 0)]) rfl (fun T o129 X => ?_)
  refine k_dup C X at_131 rfl rfl ?_
  refine k_iconst C X at_132 rfl (v := 0) rfl ?_
  refine k_dconst0 C X at_133 rfl ?_
  refine k_dastore C X at_134 rfl (ix := 0) (i := 0) rfl (by decide) (by decide) (Nat.le_of_ble_eq_true rfl) (vs' := [(.double 0), (.double 0)]) rfl (L' := [(o129, own_ar Z .double [(.double 0), (.double 0)]), (o112, own_ar Z .double [(.double (FP.l2d (own_s16 x1))), (.double (FP.l2d (own_s16 x2)))]), (o99, own_ar Z .double [(.double 0), (.double 4607182418800017408)]), (o86, own_ar Z .double [(.double 0), (.double 4607182418800017408)]), (o73, own_ar Z .double [(.double 0), (.double 0)]), (o58, own_ar Z .double [(.double (FP.l2d (own_s16 x0))), (.double 0)]), (o45, own_ar Z .double [(.double 4607182418800017408), (.double 0)]), (o32, own_ar Z .double [(.double 4607182418800017408), (.double 0)])]) rfl (fun T X => ?_)
  refine k_dup C X at_135 rfl rfl ?_
  refine k_iconst C X at_136 rfl (v := 1) rfl ?_
  refine k_dconst0 C X at_137 rfl ?_
  refine k_dastore C X at_138 rfl (ix := 0) (i := 1) rfl (by decide) (by decide) (Nat.le_of_ble_eq_true rfl) (vs' := [(.double 0), (.double 0)]) rfl (L' := [(o129, own_ar Z .double [(.double 0), (.double 0)]), (o112, own_ar Z .double [(.double (FP.l2d (own_s16 x1))), (.double (FP.l2d (own_s16 x2)))]), (o99, own_ar Z .double [(.double 0), (.double 4607182418800017408)]), (o86, own_ar Z .double [(.double 0), (.double 4607182418800017408)]), (o73, own_ar Z .double [(.double 0), (.double 0)]), (o58, own_ar Z .double [(.double (FP.l2d (own_s16 x0))), (.double 0)]), (o45, own_ar Z .double [(.double 4607182418800017408), (.double 0)]), (o32, own_ar Z .double [(.double 4607182418800017408), (.double 0)])]) rfl (fun T X => ?_)
  refine k_astore C X at_139 rfl rfl (l' := #[.val (.int x0), .val (.int x1), .val (.int x2), .val (.int x3), .val (.int x4), .val (.long (own_s16 x0)), .second, .val (.long (own_s16 x1)), .second, .val (.long (own_s16 x2)), .second, .val (.long (own_s16 x3)), .second, .val (.long (own_s16 x4)), .second, .val (.ref o32), .val (.ref o45), .val (.ref o58), .val (.ref o73), .val (.ref o86), .val (.ref o99), .val (.ref o112), .val (.ref o129), .unset, .unset, .unset, .unset, .unset, .unset]) rfl ?_
  refine k_iconst C X at_141 rfl (v := 2) rfl ?_
  refine k_newarray C X at_142 rfl (ty := .double) rfl (hw _ (List.mem_of_getElem? (i := 4) rfl)) (by decide) (cap := 2) (by decide) (by decide) (by decide) (by decide) (vs := [(.double 0), (.double 0)]) rfl (fun T o142 X => ?_)
  refine k_dup C X at_144 rfl rfl ?_
  refine k_iconst C X at_145 rfl (v := 0) rfl ?_
  refine k_lload C X at_146 rfl rfl ?_
  refine k_l2d C X at_148 rfl ?_
  refine k_dastore C X at_149 rfl (ix := 0) (i := 0) rfl (by decide) (by decide) (Nat.le_of_ble_eq_true rfl) (vs' := [(.double (FP.l2d (own_s16 x3))), (.double 0)]) rfl (L' := [(o142, own_ar Z .double [(.double (FP.l2d (own_s16 x3))), (.double 0)]), (o129, own_ar Z .double [(.double 0), (.double 0)]), (o112, own_ar Z .double [(.double (FP.l2d (own_s16 x1))), (.double (FP.l2d (own_s16 x2)))]), (o99, own_ar Z .double [(.double 0), (.double 4607182418800017408)]), (o86, own_ar Z .double [(.double 0), (.double 4607182418800017408)]), (o73, own_ar Z .double [(.double 0), (.double 0)]), (o58, own_ar Z .double [(.double (FP.l2d (own_s16 x0))), (.double 0)]), (o45, own_ar Z .double [(.double 4607182418800017408), (.double 0)]), (o32, own_ar Z .double [(.double 4607182418800017408), (.double 0)])]) rfl (fun T X => ?_)
  refine k_dup C X at_150 rfl rfl ?_
  refine k_iconst C X at_151 rfl (v := 1) rfl ?_
  refine k_lload C X at_152 rfl rfl ?_
  refine k_l2d C X at_154 rfl ?_
  refine k_dastore C X at_155 rfl (ix := 0) (i := 1) rfl (by decide) (by decide) (Nat.le_of_ble_eq_true rfl) (vs' := [(.double (FP.l2d (own_s16 x3))), (.double (FP.l2d (own_s16 x4)))]) rfl (L' := [(o142, own_ar Z .double [(.double (FP.l2d (own_s16 x3))), (.double (FP.l2d (own_s16 x4)))]), (o129, own_ar Z .double [(.double 0), (.double 0)]), (o112, own_ar Z .double [(.double (FP.l2d (own_s16 x1))), (.double (FP.l2d (own_s16 x2)))]), (o99, own_ar Z .double [(.double 0), (.double 4607182418800017408)]), (o86, own_ar Z .double [(.double 0), (.double 4607182418800017408)]), (o73, own_ar Z .double [(.double 0), (.double 0)]), (o58, own_ar Z .double [(.double (FP.l2d (own_s16 x0))), (.double 0)]), (o45, own_ar Z .double [(.double 4607182418800017408), (.double 0)]), (o32, own_ar Z .double [(.double 4607182418800017408), (.double 0)])]) rfl (fun T X => ?_)
  refine k_astore C X at_156 rfl rfl (l' := #[.val (.int x0), .val (.int x1), .val (.int x2), .val (.int x3), .val (.int x4), .val (.long (own_s16 x0)), .second, .val (.long (own_s16 x1)), .second, .val (.long (own_s16 x2)), .second, .val (.long (own_s16 x3)), .second, .val (.long (own_s16 x4)), .second, .val (.ref o32), .val (.ref o45), .val (.ref o58), .val (.ref o73), .val (.ref o86), .val (.ref o99), .val (.ref o112), .val (.ref o129), .val (.ref o142), .unset, .unset, .unset, .unset, .unset]) rfl ?_
  refine k_new C X at_158 rfl (hw _ (List.mem_of_getElem? (i := 5) rfl)) (hw _ (List.mem_of_getElem? (i := 6) rfl)) (hw _ (List.mem_of_getElem? (i := 7) rfl)) (own_lay_SecondOrderTerm hw) (fs := [("term", "[[D", .null)]) rfl (by decide) (by decide) (fun T o158 X => ?_)
  refine k_dup C X at_161 rfl rfl ?_
  refine k_iconst C X at_162 rfl (v := 2) rfl ?_
  refine k_init C X at_163 rfl rfl (hw _ (List.mem_of_getElem? (i := 8) rfl)) (hw _ (List.mem_of_getElem? (i := 9) rfl)) (hw _ (List.mem_of_getElem? (i := 7) rfl)) (hw _ (List.mem_of_getElem? (i := 10) rfl)) (by decide) (own_cinit l Z a0 hw o158 ([(o142, own_ar Z .double [(.double (FP.l2d (own_s16 x3))), (.double (FP.l2d (own_s16 x4)))]), (o129, own_ar Z .double [(.double 0), (.double 0)]), (o112, own_ar Z .double [(.double (FP.l2d (own_s16 x1))), (.double (FP.l2d (own_s16 x2)))]), (o99, own_ar Z .double [(.double 0), (.double 4607182418800017408)]), (o86, own_ar Z .double [(.double 0), (.double 4607182418800017408)]), (o73, own_ar Z .double [(.double 0), (.double 0)]), (o58, own_ar Z .double [(.double (FP.l2d (own_s16 x0))), (.double 0)]), (o45, own_ar Z .double [(.double 4607182418800017408), (.double 0)]), (o32, own_ar Z .double [(.double 4607182418800017408), (.double 0)])])) (W := 1) (argsL := [(.int (2))]) (rest := [(.ref o158)]) rfl rfl rfl own_pd1 rfl (Nat.le_of_eq rfl) (by decide) (by decide) (by decide) (by decide) (fun v T M hQ X => ?_)
  obtain ⟨gg, gr0, gr1, rfl, rfl⟩ := hQ
  refine k_astore C X at_166 rfl rfl (l' := #[.val (.int x0), .val (.int x1), .val (.int x2), .val (.int x3), .val (.int x4), .val (.long (own_s16 x0)), .second, .val (.long (own_s16 x1)), .second, .val (.long (own_s16 x2)), .second, .val (.long (own_s16 x3)), .second, .val (.long (own_s16 x4)), .second, .val (.ref o32), .val (.ref o45), .val (.ref o58), .val (.ref o73), .val (.ref o86), .val (.ref o99), .val (.ref o112), .val (.ref o129), .val (.ref o142), .val (.ref o158), .unset, .unset, .unset, .unset]) rfl ?_
  refine k_aload C X at_168 rfl rfl rfl ?_
  refine k_aload C X at_170 rfl rfl rfl ?_
  refine k_aload C X at_172 rfl rfl rfl ?_
  refine k_aload C X at_174 rfl rfl rfl ?_
  refine k_aload C X at_176 rfl rfl rfl ?_
  replace X := X.bring (i := 9) rfl (M := [(o73, own_ar Z .double [(.double 0), (.double 0)]), (gg, own_ar Z (.array .double) [(.ref gr0), (.ref gr1)]), (gr0, own_ar Z .double [(.double 0), (.double 0)]), (gr1, own_ar Z .double [(.double 0), (.double 0)]), (o158, own_ob Z "com/example/residuum/residuum/SecondOrderTerm" [("term", "[[D", (.ref gg))]), (o142, own_ar Z .double [(.double (FP.l2d (own_s16 x3))), (.double (FP.l2d (own_s16 x4)))]), (o129, own_ar Z .double [(.double 0), (.double 0)]), (o112, own_ar Z .double [(.double (FP.l2d (own_s16 x1))), (.double (FP.l2d (own_s16 x2)))]), (o99, own_ar Z .double [(.double 0), (.double 4607182418800017408)]), (o86, own_ar Z .double [(.double 0), (.double 4607182418800017408)]), (o58, own_ar Z .double [(.double (FP.l2d (own_s16 x0))), (.double 0)]), (o45, own_ar Z .double [(.double 4607182418800017408), (.double 0)]), (o32, own_ar Z .double [(.double 4607182418800017408), (.double 0)])]) rfl
  replace X := X.bring (i := 10) rfl (M := [(o58, own_ar Z .double [(.double (FP.l2d (own_s16 x0))), (.double 0)]), (o73, own_ar Z .double [(.double 0), (.double 0)]), (gg, own_ar Z (.array .double) [(.ref gr0), (.ref gr1)]), (gr0, own_ar Z .double [(.double 0), (.double 0)]), (gr1, own_ar Z .double [(.double 0), (.double 0)]), (o158, own_ob Z "com/example/residuum/residuum/SecondOrderTerm" [("term", "[[D", (.ref gg))]), (o142, own_ar Z .double [(.double (FP.l2d (own_s16 x3))), (.double (FP.l2d (own_s16 x4)))]), (o129, own_ar Z .double [(.double 0), (.double 0)]), (o112, own_ar Z .double [(.double (FP.l2d (own_s16 x1))), (.double (FP.l2d (own_s16 x2)))]), (o99, own_ar Z .double [(.double 0), (.double 4607182418800017408)]), (o86, own_ar Z .double [(.double 0), (.double 4607182418800017408)]), (o45, own_ar Z .double [(.double 4607182418800017408), (.double 0)]), (o32, own_ar Z .double [(.double 4607182418800017408), (.double 0)])]) rfl
  replace X := X.bring (i := 11) rfl (M := [(o45, own_ar Z .double [(.double 4607182418800017408), (.double 0)]), (o58, own_ar Z .double [(.double (FP.l2d (own_s16 x0))), (.double 0)]), (o73, own_ar Z .double [(.double 0), (.double 0)]), (gg, own_ar Z (.array .double) [(.ref gr0), (.ref gr1)]), (gr0, own_ar Z .double [(.double 0), (.double 0)]), (gr1, own_ar Z .double [(.double 0), (.double 0)]), (o158, own_ob Z "com/example/residuum/residuum/SecondOrderTerm" [("term", "[[D", (.ref gg))]), (o142, own_ar Z .double [(.double (FP.l2d (own_s16 x3))), (.double (FP.l2d (own_s16 x4)))]), (o129, own_ar Z .double [(.double 0), (.double 0)]), (o112, own_ar Z .double [(.double (FP.l2d (own_s16 x1))), (.double (FP.l2d (own_s16 x2)))]), (o99, own_ar Z .double [(.double 0), (.double 4607182418800017408)]), (o86, own_ar Z .double [(.double 0), (.double 4607182418800017408)]), (o32, own_ar Z .double [(.double 4607182418800017408), (.double 0)])]) rfl
  replace X := X.bring (i := 12) rfl (M := [(o32, own_ar Z .double [(.double 4607182418800017408), (.double 0)]), (o45, own_ar Z .double [(.double 4607182418800017408), (.double 0)]), (o58, own_ar Z .double [(.double (FP.l2d (own_s16 x0))), (.double 0)]), (o73, own_ar Z .double [(.double 0), (.double 0)]), (gg, own_ar Z (.array .double) [(.ref gr0), (.ref gr1)]), (gr0, own_ar Z .double [(.double 0), (.double 0)]), (gr1, own_ar Z .double [(.double 0), (.double 0)]), (o158, own_ob Z "com/example/residuum/residuum/SecondOrderTerm" [("term", "[[D", (.ref gg))]), (o142, own_ar Z .double [(.double (FP.l2d (own_s16 x3))), (.double (FP.l2d (own_s16 x4)))]), (o129, own_ar Z .double [(.double 0), (.double 0)]), (o112, own_ar Z .double [(.double (FP.l2d (own_s16 x1))), (.double (FP.l2d (own_s16 x2)))]), (o99, own_ar Z .double [(.double 0), (.double 4607182418800017408)]), (o86, own_ar Z .double [(.double 0), (.double 4607182418800017408)])]) rfl
  replace X := X.bring (i := 6) rfl (M := [(gr1, own_ar Z .double [(.double 0), (.double 0)]), (o32, own_ar Z .double [(.double 4607182418800017408), (.double 0)]), (o45, own_ar Z .double [(.double 4607182418800017408), (.double 0)]), (o58, own_ar Z .double [(.double (FP.l2d (own_s16 x0))), (.double 0)]), (o73, own_ar Z .double [(.double 0), (.double 0)]), (gg, own_ar Z (.array .double) [(.ref gr0), (.ref gr1)]), (gr0, own_ar Z .double [(.double 0), (.double 0)]), (o158, own_ob Z "com/example/residuum/residuum/SecondOrderTerm" [("term", "[[D", (.ref gg))]), (o142, own_ar Z .double [(.double (FP.l2d (own_s16 x3))), (.double (FP.l2d (own_s16 x4)))]), (o129, own_ar Z .double [(.double 0), (.double 0)]), (o112, own_ar Z .double [(.double (FP.l2d (own_s16 x1))), (.double (FP.l2d (own_s16 x2)))]), (o99, own_ar Z .double [(.double 0), (.double 4607182418800017408)]), (o86, own_ar Z .double [(.double 0), (.double 4607182418800017408)])]) rfl
  replace X := X.bring (i := 6) rfl (M := [(gr0, own_ar Z .double [(.double 0), (.double 0)]), (gr1, own_ar Z .double [(.double 0), (.double 0)]), (o32, own_ar Z .double [(.double 4607182418800017408), (.double 0)]), (o45, own_ar Z .double [(.double 4607182418800017408), (.double 0)]), (o58, own_ar Z .double [(.double (FP.l2d (own_s16 x0))), (.double 0)]), (o73, own_ar Z .double [(.double 0), (.double 0)]), (gg, own_ar Z (.array .double) [(.ref gr0), (.ref gr1)]), (o158, own_ob Z "com/example/residuum/residuum/SecondOrderTerm" [("term", "[[D", (.ref gg))]), (o142, own_ar Z .double [(.double (FP.l2d (own_s16 x3))), (.double (FP.l2d (own_s16 x4)))]), (o129, own_ar Z .double [(.double 0), (.double 0)]), (o112, own_ar Z .double [(.double (FP.l2d (own_s16 x1))), (.double (FP.l2d (own_s16 x2)))]), (o99, own_ar Z .double [(.double 0), (.double 4607182418800017408)]), (o86, own_ar Z .double [(.double 0), (.double 4607182418800017408)])]) rfl
  replace X := X.bring (i := 6) rfl (M := [(gg, own_ar Z (.array .double) [(.ref gr0), (.ref gr1)]), (gr0, own_ar Z .double [(.double 0), (.double 0)]), (gr1, own_ar Z .double [(.double 0), (.double 0)]), (o32, own_ar Z .double [(.double 4607182418800017408), (.double 0)]), (o45, own_ar Z .double [(.double 4607182418800017408), (.double 0)]), (o58, own_ar Z .double [(.double (FP.l2d (own_s16 x0))), (.double 0)]), (o73, own_ar Z .double [(.double 0), (.double 0)]), (o158, own_ob Z "com/example/residuum/residuum/SecondOrderTerm" [("term", "[[D", (.ref gg))]), (o142, own_ar Z .double [(.double (FP.l2d (own_s16 x3))), (.double (FP.l2d (own_s16 x4)))]), (o129, own_ar Z .double [(.double 0), (.double 0)]), (o112, own_ar Z .double [(.double (FP.l2d (own_s16 x1))), (.double (FP.l2d (own_s16 x2)))]), (o99, own_ar Z .double [(.double 0), (.double 4607182418800017408)]), (o86, own_ar Z .double [(.double 0), (.double 4607182418800017408)])]) rfl
  replace X := X.bring (i := 7) rfl (M := [(o158, own_ob Z "com/example/residuum/residuum/SecondOrderTerm" [("term", "[[D", (.ref gg))]), (gg, own_ar Z (.array .double) [(.ref gr0), (.ref gr1)]), (gr0, own_ar Z .double [(.double 0), (.double 0)]), (gr1, own_ar Z .double [(.double 0), (.double 0)]), (o32, own_ar Z .double [(.double 4607182418800017408), (.double 0)]), (o45, own_ar Z .double [(.double 4607182418800017408), (.double 0)]), (o58, own_ar Z .double [(.double (FP.l2d (own_s16 x0))), (.double 0)]), (o73, own_ar Z .double [(.double 0), (.double 0)]), (o142, own_ar Z .double [(.double (FP.l2d (own_s16 x3))), (.double (FP.l2d (own_s16 x4)))]), (o129, own_ar Z .double [(.double 0), (.double 0)]), (o112, own_ar Z .double [(.double (FP.l2d (own_s16 x1))), (.double (FP.l2d (own_s16 x2)))]), (o99, own_ar Z .double [(.double 0), (.double 4607182418800017408)]), (o86, own_ar Z .double [(.double 0), (.double 4607182418800017408)])]) rfl
  refine k_virtual C X at_178 rfl (hw _ (List.mem_of_getElem? (i := 18) rfl)) (hw _ (List.mem_of_getElem? (i := 19) rfl)) (hw _ (List.mem_of_getElem? (i := 7) rfl)) (hw _ (List.mem_of_getElem? (i := 22) rfl)) (hw _ (List.mem_of_getElem? (i := 21) rfl)) (hw _ (List.mem_of_getElem? (i := 20) rfl)) (by decide) (own_nf C.2.2.2.1 (hw _ (List.mem_of_getElem? (i := 21) rfl))) (own_eL (ix := 0) rfl) (own_up1 l Z a0 hw o158 gg gr0 gr1 o32 o45 o58 o73 (own_s16 x0).toInt (FP.l2d (own_s16 x0)) ((own_s16_J _).d (by decide)) ([(o142, own_ar Z .double [(.double (FP.l2d (own_s16 x3))), (.double (FP.l2d (own_s16 x4)))]), (o129, own_ar Z .double [(.double 0), (.double 0)]), (o112, own_ar Z .double [(.double (FP.l2d (own_s16 x1))), (.double (FP.l2d (own_s16 x2)))]), (o99, own_ar Z .double [(.double 0), (.double 4607182418800017408)]), (o86, own_ar Z .double [(.double 0), (.double 4607182418800017408)])])) (W := 0) (argsL := [(.ref o32), (.ref o45), (.ref o58), (.ref o73)]) (rest := []) rfl rfl rfl own_pd2 rfl (Nat.le_of_eq rfl) (by decide) (by decide) (by decide) (by decide) (fun v T M hQ X => ?_)
  obtain ⟨u1_0, u1_1, u1_2, rfl, i_u1_0, i_u1_1, i_u1_2, rfl⟩ := hQ
  refine k_aload C X at_181 rfl rfl rfl ?_
  refine k_aload C X at_183 rfl rfl rfl ?_
  refine k_aload C X at_185 rfl rfl rfl ?_
  refine k_aload C X at_187 rfl rfl rfl ?_
  refine k_aload C X at_189 rfl rfl rfl ?_
  replace X := X.bring (i := 9) rfl (M := [(o129, own_ar Z .double [(.double 0), (.double 0)]), (o158, own_ob Z "com/example/residuum/residuum/SecondOrderTerm" [("term", "[[D", (.ref gg))]), (gg, own_ar Z (.array .double) [(.ref gr0), (.ref gr1)]), (gr0, own_ar Z .double [(.double u1_0), (.double u1_1)]), (gr1, own_ar Z .double [(.double u1_1), (.double u1_2)]), (o32, own_ar Z .double [(.double 4607182418800017408), (.double 0)]), (o45, own_ar Z .double [(.double 4607182418800017408), (.double 0)]), (o58, own_ar Z .double [(.double (FP.l2d (own_s16 x0))), (.double 0)]), (o73, own_ar Z .double [(.double 0), (.double 0)]), (o142, own_ar Z .double [(.double (FP.l2d (own_s16 x3))), (.double (FP.l2d (own_s16 x4)))]), (o112, own_ar Z .double [(.double (FP.l2d (own_s16 x1))), (.double (FP.l2d (own_s16 x2)))]), (o99, own_ar Z .double [(.double 0), (.double 4607182418800017408)]), (o86, own_ar Z .double [(.double 0), (.double 4607182418800017408)])]) rfl
  replace X := X.bring (i := 10) rfl (M := [(o112, own_ar Z .double [(.double (FP.l2d (own_s16 x1))), (.double (FP.l2d (own_s16 x2)))]), (o129, own_ar Z .double [(.double 0), (.double 0)]), (o158, own_ob Z "com/example/residuum/residuum/SecondOrderTerm" [("term", "[[D", (.ref gg))]), (gg, own_ar Z (.array .double) [(.ref gr0), (.ref gr1)]), (gr0, own_ar Z .double [(.double u1_0), (.double u1_1)]), (gr1, own_ar Z .double [(.double u1_1), (.double u1_2)]), (o32, own_ar Z .double [(.double 4607182418800017408), (.double 0)]), (o45, own_ar Z .double [(.double 4607182418800017408), (.double 0)]), (o58, own_ar Z .double [(.double (FP.l2d (own_s16 x0))), (.double 0)]), (o73, own_ar Z .double [(.double 0), (.double 0)]), (o142, own_ar Z .double [(.double (FP.l2d (own_s16 x3))), (.double (FP.l2d (own_s16 x4)))]), (o99, own_ar Z .double [(.double 0), (.double 4607182418800017408)]), (o86, own_ar Z .double [(.double 0), (.double 4607182418800017408)])]) rfl
  replace X := X.bring (i := 11) rfl (M := [(o99, own_ar Z .double [(.double 0), (.double 4607182418800017408)]), (o112, own_ar Z .double [(.double (FP.l2d (own_s16 x1))), (.double (FP.l2d (own_s16 x2)))]), (o129, own_ar Z .double [(.double 0), (.double 0)]), (o158, own_ob Z "com/example/residuum/residuum/SecondOrderTerm" [("term", "[[D", (.ref gg))]), (gg, own_ar Z (.array .double) [(.ref gr0), (.ref gr1)]), (gr0, own_ar Z .double [(.double u1_0), (.double u1_1)]), (gr1, own_ar Z .double [(.double u1_1), (.double u1_2)]), (o32, own_ar Z .double [(.double 4607182418800017408), (.double 0)]), (o45, own_ar Z .double [(.double 4607182418800017408), (.double 0)]), (o58, own_ar Z .double [(.double (FP.l2d (own_s16 x0))), (.double 0)]), (o73, own_ar Z .double [(.double 0), (.double 0)]), (o142, own_ar Z .double [(.double (FP.l2d (own_s16 x3))), (.double (FP.l2d (own_s16 x4)))]), (o86, own_ar Z .double [(.double 0), (.double 4607182418800017408)])]) rfl
  replace X := X.bring (i := 12) rfl (M := [(o86, own_ar Z .double [(.double 0), (.double 4607182418800017408)]), (o99, own_ar Z .double [(.double 0), (.double 4607182418800017408)]), (o112, own_ar Z .double [(.double (FP.l2d (own_s16 x1))), (.double (FP.l2d (own_s16 x2)))]), (o129, own_ar Z .double [(.double 0), (.double 0)]), (o158, own_ob Z "com/example/residuum/residuum/SecondOrderTerm" [("term", "[[D", (.ref gg))]), (gg, own_ar Z (.array .double) [(.ref gr0), (.ref gr1)]), (gr0, own_ar Z .double [(.double u1_0), (.double u1_1)]), (gr1, own_ar Z .double [(.double u1_1), (.double u1_2)]), (o32, own_ar Z .double [(.double 4607182418800017408), (.double 0)]), (o45, own_ar Z .double [(.double 4607182418800017408), (.double 0)]), (o58, own_ar Z .double [(.double (FP.l2d (own_s16 x0))), (.double 0)]), (o73, own_ar Z .double [(.double 0), (.double 0)]), (o142, own_ar Z .double [(.double (FP.l2d (own_s16 x3))), (.double (FP.l2d (own_s16 x4)))])]) rfl
  replace X := X.bring (i := 7) rfl (M := [(gr1, own_ar Z .double [(.double u1_1), (.double u1_2)]), (o86, own_ar Z .double [(.double 0), (.double 4607182418800017408)]), (o99, own_ar Z .double [(.double 0), (.double 4607182418800017408)]), (o112, own_ar Z .double [(.double (FP.l2d (own_s16 x1))), (.double (FP.l2d (own_s16 x2)))]), (o129, own_ar Z .double [(.double 0), (.double 0)]), (o158, own_ob Z "com/example/residuum/residuum/SecondOrderTerm" [("term", "[[D", (.ref gg))]), (gg, own_ar Z (.array .double) [(.ref gr0), (.ref gr1)]), (gr0, own_ar Z .double [(.double u1_0), (.double u1_1)]), (o32, own_ar Z .double [(.double 4607182418800017408), (.double 0)]), (o45, own_ar Z .double [(.double 4607182418800017408), (.double 0)]), (o58, own_ar Z .double [(.double (FP.l2d (own_s16 x0))), (.double 0)]), (o73, own_ar Z .double [(.double 0), (.double 0)]), (o142, own_ar Z .double [(.double (FP.l2d (own_s16 x3))), (.double (FP.l2d (own_s16 x4)))])]) rfl
  replace X := X.bring (i := 7) rfl (M := [(gr0, own_ar Z .double [(.double u1_0), (.double u1_1)]), (gr1, own_ar Z .double [(.double u1_1), (.double u1_2)]), (o86, own_ar Z .double [(.double 0), (.double 4607182418800017408)]), (o99, own_ar Z .double [(.double 0), (.double 4607182418800017408)]), (o112, own_ar Z .double [(.double (FP.l2d (own_s16 x1))), (.double (FP.l2d (own_s16 x2)))]), (o129, own_ar Z .double [(.double 0), (.double 0)]), (o158, own_ob Z "com/example/residuum/residuum/SecondOrderTerm" [("term", "[[D", (.ref gg))]), (gg, own_ar Z (.array .double) [(.ref gr0), (.ref gr1)]), (o32, own_ar Z .double [(.double 4607182418800017408), (.double 0)]), (o45, own_ar Z .double [(.double 4607182418800017408), (.double 0)]), (o58, own_ar Z .double [(.double (FP.l2d (own_s16 x0))), (.double 0)]), (o73, own_ar Z .double [(.double 0), (.double 0)]), (o142, own_ar Z .double [(.double (FP.l2d (own_s16 x3))), (.double (FP.l2d (own_s16 x4)))])]) rfl
  replace X := X.bring (i := 7) rfl (M := [(gg, own_ar Z (.array .double) [(.ref gr0), (.ref gr1)]), (gr0, own_ar Z .double [(.double u1_0), (.double u1_1)]), (gr1, own_ar Z .double [(.double u1_1), (.double u1_2)]), (o86, own_ar Z .double [(.double 0), (.double 4607182418800017408)]), (o99, own_ar Z .double [(.double 0), (.double 4607182418800017408)]), (o112, own_ar Z .double [(.double (FP.l2d (own_s16 x1))), (.double (FP.l2d (own_s16 x2)))]), (o129, own_ar Z .double [(.double 0), (.double 0)]), (o158, own_ob Z "com/example/residuum/residuum/SecondOrderTerm" [("term", "[[D", (.ref gg))]), (o32, own_ar Z .double [(.double 4607182418800017408), (.double 0)]), (o45, own_ar Z .double [(.double 4607182418800017408), (.double 0)]), (o58, own_ar Z .double [(.double (FP.l2d (own_s16 x0))), (.double 0)]), (o73, own_ar Z .double [(.double 0), (.double 0)]), (o142, own_ar Z .double [(.double (FP.l2d (own_s16 x3))), (.double (FP.l2d (own_s16 x4)))])]) rfl
  replace X := X.bring (i := 7) rfl (M := [(o158, own_ob Z "com/example/residuum/residuum/SecondOrderTerm" [("term", "[[D", (.ref gg))]), (gg, own_ar Z (.array .double) [(.ref gr0), (.ref gr1)]), (gr0, own_ar Z .double [(.double u1_0), (.double u1_1)]), (gr1, own_ar Z .double [(.double u1_1), (.double u1_2)]), (o86, own_ar Z .double [(.double 0), (.double 4607182418800017408)]), (o99, own_ar Z .double [(.double 0), (.double 4607182418800017408)]), (o112, own_ar Z .double [(.double (FP.l2d (own_s16 x1))), (.double (FP.l2d (own_s16 x2)))]), (o129, own_ar Z .double [(.double 0), (.double 0)]), (o32, own_ar Z .double [(.double 4607182418800017408), (.double 0)]), (o45, own_ar Z .double [(.double 4607182418800017408), (.double 0)]), (o58, own_ar Z .double [(.double (FP.l2d (own_s16 x0))), (.double 0)]), (o73, own_ar Z .double [(.double 0), (.double 0)]), (o142, own_ar Z .double [(.double (FP.l2d (own_s16 x3))), (.double (FP.l2d (own_s16 x4)))])]) rfl
  refine k_virtual C X at_191 rfl (hw _ (List.mem_of_getElem? (i := 18) rfl)) (hw _ (List.mem_of_getElem? (i := 19) rfl)) (hw _ (List.mem_of_getElem? (i := 7) rfl)) (hw _ (List.mem_of_getElem? (i := 22) rfl)) (hw _ (List.mem_of_getElem? (i := 21) rfl)) (hw _ (List.mem_of_getElem? (i := 20) rfl)) (by decide) (own_nf C.2.2.2.1 (hw _ (List.mem_of_getElem? (i := 21) rfl))) (own_eL (ix := 0) rfl) (own_up2 l Z a0 hw o158 gg gr0 gr1 o86 o99 o112 o129 (own_s16 x0).toInt (own_s16 x1).toInt (own_s16 x2).toInt (FP.l2d (own_s16 x1)) (FP.l2d (own_s16 x2)) u1_0 u1_1 u1_2 ((own_s16_J _).d (by decide)) ((own_s16_J _).d (by decide)) i_u1_0 i_u1_1 i_u1_2 ([(o32, own_ar Z .double [(.double 4607182418800017408), (.double 0)]), (o45, own_ar Z .double [(.double 4607182418800017408), (.double 0)]), (o58, own_ar Z .double [(.double (FP.l2d (own_s16 x0))), (.double 0)]), (o73, own_ar Z .double [(.double 0), (.double 0)]), (o142, own_ar Z .double [(.double (FP.l2d (own_s16 x3))), (.double (FP.l2d (own_s16 x4)))])])) (W := 0) (argsL := [(.ref o86), (.ref o99), (.ref o112), (.ref o129)]) (rest := []) rfl rfl rfl own_pd2 rfl (Nat.le_of_eq rfl) (by decide) (by decide) (by decide) (by decide) (fun v T M hQ X => ?_)
  obtain ⟨u2_0, u2_1, u2_2, rfl, i_u2_0, i_u2_1, i_u2_2, rfl⟩ := hQ
  refine k_aload C X at_194 rfl rfl rfl ?_
  refine k_aload C X at_196 rfl rfl rfl ?_
  replace X := X.bring (i := 12) rfl (M := [(o142, own_ar Z .double [(.double (FP.l2d (own_s16 x3))), (.double (FP.l2d (own_s16 x4)))]), (o158, own_ob Z "com/example/residuum/residuum/SecondOrderTerm" [("term", "[[D", (.ref gg))]), (gg, own_ar Z (.array .double) [(.ref gr0), (.ref gr1)]), (gr0, own_ar Z .double [(.double u2_0), (.double u2_1)]), (gr1, own_ar Z .double [(.double u2_1), (.double u2_2)]), (o86, own_ar Z .double [(.double 0), (.double 4607182418800017408)]), (o99, own_ar Z .double [(.double 0), (.double 4607182418800017408)]), (o112, own_ar Z .double [(.double (FP.l2d (own_s16 x1))), (.double (FP.l2d (own_s16 x2)))]), (o129, own_ar Z .double [(.double 0), (.double 0)]), (o32, own_ar Z .double [(.double 4607182418800017408), (.double 0)]), (o45, own_ar Z .double [(.double 4607182418800017408), (.double 0)]), (o58, own_ar Z .double [(.double (FP.l2d (own_s16 x0))), (.double 0)]), (o73, own_ar Z .double [(.double 0), (.double 0)])]) rfl
  replace X := X.bring (i := 4) rfl (M := [(gr1, own_ar Z .double [(.double u2_1), (.double u2_2)]), (o142, own_ar Z .double [(.double (FP.l2d (own_s16 x3))), (.double (FP.l2d (own_s16 x4)))]), (o158, own_ob Z "com/example/residuum/residuum/SecondOrderTerm" [("term", "[[D", (.ref gg))]), (gg, own_ar Z (.array .double) [(.ref gr0), (.ref gr1)]), (gr0, own_ar Z .double [(.double u2_0), (.double u2_1)]), (o86, own_ar Z .double [(.double 0), (.double 4607182418800017408)]), (o99, own_ar Z .double [(.double 0), (.double 4607182418800017408)]), (o112, own_ar Z .double [(.double (FP.l2d (own_s16 x1))), (.double (FP.l2d (own_s16 x2)))]), (o129, own_ar Z .double [(.double 0), (.double 0)]), (o32, own_ar Z .double [(.double 4607182418800017408), (.double 0)]), (o45, own_ar Z .double [(.double 4607182418800017408), (.double 0)]), (o58, own_ar Z .double [(.double (FP.l2d (own_s16 x0))), (.double 0)]), (o73, own_ar Z .double [(.double 0), (.double 0)])]) rfl
  replace X := X.bring (i := 4) rfl (M := [(gr0, own_ar Z .double [(.double u2_0), (.double u2_1)]), (gr1, own_ar Z .double [(.double u2_1), (.double u2_2)]), (o142, own_ar Z .double [(.double (FP.l2d (own_s16 x3))), (.double (FP.l2d (own_s16 x4)))]), (o158, own_ob Z "com/example/residuum/residuum/SecondOrderTerm" [("term", "[[D", (.ref gg))]), (gg, own_ar Z (.array .double) [(.ref gr0), (.ref gr1)]), (o86, own_ar Z .double [(.double 0), (.double 4607182418800017408)]), (o99, own_ar Z .double [(.double 0), (.double 4607182418800017408)]), (o112, own_ar Z .double [(.double (FP.l2d (own_s16 x1))), (.double (FP.l2d (own_s16 x2)))]), (o129, own_ar Z .double [(.double 0), (.double 0)]), (o32, own_ar Z .double [(.double 4607182418800017408), (.double 0)]), (o45, own_ar Z .double [(.double 4607182418800017408), (.double 0)]), (o58, own_ar Z .double [(.double (FP.l2d (own_s16 x0))), (.double 0)]), (o73, own_ar Z .double [(.double 0), (.double 0)])]) rfl
  replace X := X.bring (i := 4) rfl (M := [(gg, own_ar Z (.array .double) [(.ref gr0), (.ref gr1)]), (gr0, own_ar Z .double [(.double u2_0), (.double u2_1)]), (gr1, own_ar Z .double [(.double u2_1), (.double u2_2)]), (o142, own_ar Z .double [(.double (FP.l2d (own_s16 x3))), (.double (FP.l2d (own_s16 x4)))]), (o158, own_ob Z "com/example/residuum/residuum/SecondOrderTerm" [("term", "[[D", (.ref gg))]), (o86, own_ar Z .double [(.double 0), (.double 4607182418800017408)]), (o99, own_ar Z .double [(.double 0), (.double 4607182418800017408)]), (o112, own_ar Z .double [(.double (FP.l2d (own_s16 x1))), (.double (FP.l2d (own_s16 x2)))]), (o129, own_ar Z .double [(.double 0), (.double 0)]), (o32, own_ar Z .double [(.double 4607182418800017408), (.double 0)]), (o45, own_ar Z .double [(.double 4607182418800017408), (.double 0)]), (o58, own_ar Z .double [(.double (FP.l2d (own_s16 x0))), (.double 0)]), (o73, own_ar Z .double [(.double 0), (.double 0)])]) rfl
  replace X := X.bring (i := 4) rfl (M := [(o158, own_ob Z "com/example/residuum/residuum/SecondOrderTerm" [("term", "[[D", (.ref gg))]), (gg, own_ar Z (.array .double) [(.ref gr0), (.ref gr1)]), (gr0, own_ar Z .double [(.double u2_0), (.double u2_1)]), (gr1, own_ar Z .double [(.double u2_1), (.double u2_2)]), (o142, own_ar Z .double [(.double (FP.l2d (own_s16 x3))), (.double (FP.l2d (own_s16 x4)))]), (o86, own_ar Z .double [(.double 0), (.double 4607182418800017408)]), (o99, own_ar Z .double [(.double 0), (.double 4607182418800017408)]), (o112, own_ar Z .double [(.double (FP.l2d (own_s16 x1))), (.double (FP.l2d (own_s16 x2)))]), (o129, own_ar Z .double [(.double 0), (.double 0)]), (o32, own_ar Z .double [(.double 4607182418800017408), (.double 0)]), (o45, own_ar Z .double [(.double 4607182418800017408), (.double 0)]), (o58, own_ar Z .double [(.double (FP.l2d (own_s16 x0))), (.double 0)]), (o73, own_ar Z .double [(.double 0), (.double 0)])]) rfl
  refine k_virtual C X at_198 rfl (hw _ (List.mem_of_getElem? (i := 23) rfl)) (hw _ (List.mem_of_getElem? (i := 24) rfl)) (hw _ (List.mem_of_getElem? (i := 7) rfl)) (hw _ (List.mem_of_getElem? (i := 27) rfl)) (hw _ (List.mem_of_getElem? (i := 26) rfl)) (hw _ (List.mem_of_getElem? (i := 25) rfl)) (by decide) (own_nf C.2.2.2.1 (hw _ (List.mem_of_getElem? (i := 26) rfl))) (own_eL (ix := 0) rfl) (own_cqf l Z a0 hw o158 gg gr0 gr1 o142 (own_s16 x0).toInt (own_s16 x1).toInt (own_s16 x2).toInt (own_s16 x3).toInt (own_s16 x4).toInt u2_0 u2_1 u2_2 (FP.l2d (own_s16 x3)) (FP.l2d (own_s16 x4)) i_u2_0 i_u2_1 i_u2_2 ((own_s16_J _).d (by decide)) ((own_s16_J _).d (by decide)) ([(o86, own_ar Z .double [(.double 0), (.double 4607182418800017408)]), (o99, own_ar Z .double [(.double 0), (.double 4607182418800017408)]), (o112, own_ar Z .double [(.double (FP.l2d (own_s16 x1))), (.double (FP.l2d (own_s16 x2)))]), (o129, own_ar Z .double [(.double 0), (.double 0)]), (o32, own_ar Z .double [(.double 4607182418800017408), (.double 0)]), (o45, own_ar Z .double [(.double 4607182418800017408), (.double 0)]), (o58, own_ar Z .double [(.double (FP.l2d (own_s16 x0))), (.double 0)]), (o73, own_ar Z .double [(.double 0), (.double 0)])])) (W := 0) (argsL := [(.ref o142)]) (rest := []) rfl rfl rfl own_pd3 rfl (Nat.le_of_eq rfl) (by decide) (by decide) (by decide) (by decide) (fun v T M hQ X => ?_)
  obtain ⟨res, rfl, i_res, rfl⟩ := hQ
  refine k_dstore C X at_201 rfl (l' := #[.val (.int x0), .val (.int x1), .val (.int x2), .val (.int x3), .val (.int x4), .val (.long (own_s16 x0)), .second, .val (.long (own_s16 x1)), .second, .val (.long (own_s16 x2)), .second, .val (.long (own_s16 x3)), .second, .val (.long (own_s16 x4)), .second, .val (.ref o32), .val (.ref o45), .val (.ref o58), .val (.ref o73), .val (.ref o86), .val (.ref o99), .val (.ref o112), .val (.ref o129), .val (.ref o142), .val (.ref o158), .val (.double res), .second, .unset, .unset]) rfl ?_
  refine k_lload C X at_203 rfl rfl ?_
  refine k_lload C X at_205 rfl rfl ?_
  refine k_lmul C X at_207 rfl ?_
  refine k_lload C X at_208 rfl rfl ?_
  refine k_lmul C X at_210 rfl ?_
  refine k_ldc2l C X at_211 rfl (hw _ (List.mem_of_getElem? (i := 28) rfl)) ?_
  refine k_lload C X at_214 rfl rfl ?_
  refine k_lmul C X at_216 rfl ?_
  refine k_lload C X at_217 rfl rfl ?_
  refine k_lmul C X at_219 rfl ?_
  refine k_lload C X at_220 rfl rfl ?_
  refine k_lmul C X at_222 rfl ?_
  refine k_ladd C X at_223 rfl ?_
  refine k_lload C X at_224 rfl rfl ?_
  refine k_lload C X at_226 rfl rfl ?_
  refine k_lmul C X at_228 rfl ?_
  refine k_lload C X at_229 rfl rfl ?_
  refine k_lmul C X at_231 rfl ?_
  refine k_ladd C X at_232 rfl ?_
  refine k_lstore C X at_233 rfl (l' := #[.val (.int x0), .val (.int x1), .val (.int x2), .val (.int x3), .val (.int x4), .val (.long (own_s16 x0)), .second, .val (.long (own_s16 x1)), .second, .val (.long (own_s16 x2)), .second, .val (.long (own_s16 x3)), .second, .val (.long (own_s16 x4)), .second, .val (.ref o32), .val (.ref o45), .val (.ref o58), .val (.ref o73), .val (.ref o86), .val (.ref o99), .val (.ref o112), .val (.ref o129), .val (.ref o142), .val (.ref o158), .val (.double res), .second, .val (.long (((((own_s16 x0) * (own_s16 x3)) * (own_s16 x3)) + (((2 * (own_s16 x1)) * (own_s16 x3)) * (own_s16 x4))) + (((own_s16 x2) * (own_s16 x4)) * (own_s16 x4)))), .second]) rfl ?_
  refine k_dload C X at_235 rfl rfl ?_
  refine k_lload C X at_237 rfl rfl ?_
  refine k_l2d C X at_239 rfl ?_
  refine k_dcmpl C X at_240 rfl ?_
  refine k_ifdl_ne C X at_241 rfl (tpc := 248) rfl (fun hc => (hc (own_qf (own_s16_J _) (own_s16_J _) (own_s16_J _) (own_s16_J _) (own_s16_J _) i_res) : False).elim) (fun _ => ?_)
  refine k_iconst C X at_244 rfl (v := 1) rfl ?_
  refine k_goto C X at_245 (tpc := 249) rfl ?_
  exact k_ireturn C X at_249 (by simp) rfl rfl (by decide) (by decide)
set_option maxRecDepth 65536 in
set_option maxHeartbeats 40000000 in
theorem comes_1 {Post : Tables → Env → Array Value → State → Outcome → State → Prop} (hpost : ∀ tb e args s v u, (limb_1_1.after args s (.returned v) u = true ∧ limb_1_2.after args s (.returned v) u = true ∧ True) → FrameEnd s (.returned v) u (Jvm.fieldLocs frame_1_writes args s ++ Jvm.arrayLocs frame_1_arrays args s ++ Jvm.staticLocs frame_1_statics s) 56 192 → Post tb e args s (.returned v) u) :
    ArmFor flags0 classFile x code maxLocals ret World_1 tables_1 room_1 Calls_1 rest_1 Pre_1 Post := by
  intro l hfl _ _ p e ha hc hk s m args below hf hA hF happ hP
  obtain ⟨hcalls, hrest, hpre⟩ := hP
  obtain ⟨-, -, -, hnamed, -, -, -, hat⟩ := (Spec.applies_iff hf).mp happ
  obtain ⟨hg, hn⟩ := and_e (Cond.before_iff.mp (show (Jvm.Cond.and given_1 narrow_1).before args s = true from hpre))
  obtain ⟨hcount, hg⟩ := and_e hg
  obtain ⟨g0, hg⟩ := and_e hg
  obtain ⟨g1, hg⟩ := and_e hg
  obtain ⟨g2, hg⟩ := and_e hg
  obtain ⟨g3, hg⟩ := and_e hg
  have g4 := hg
  obtain ⟨w0, w1, w2, w3, w4, rfl⟩ : ∃ w0 w1 w2 w3 w4 : Value, args = #[w0, w1, w2, w3, w4] := by
    have hs : args.size = 5 := by simpa [Cond.value, given_1] using hcount
    obtain ⟨L⟩ := args
    match L, hs with
    | [w0, w1, w2, w3, w4], _ => exact ⟨w0, w1, w2, w3, w4, rfl⟩
  have hw := fun d (hd : d ∈ tables_1) => atoms_spec (ws := Jvm.Cond.code x code maxLocals ret :: tables_1) hat d (List.mem_cons_of_mem _ hd)
  have hfit : Fit s := fun {y c} hc i hi => by
    obtain ⟨ha, rfl⟩ := Array.getElem?_eq_some_iff.mp hc
    have q := List.all_eq_true.mp ((Array.all_eq_true_iff_forall_mem.mp hF) _ (Array.getElem_mem ha)) i (List.mem_range.mpr hi)
    simpa [Array.getElem?_eq_getElem hi] using q
  obtain ⟨i0, e0⟩ := is_v g0
  obtain rfl : w0 = (.int i0) := Option.some.inj e0
  obtain ⟨i1, e1⟩ := is_v g1
  obtain rfl : w1 = (.int i1) := Option.some.inj e1
  obtain ⟨i2, e2⟩ := is_v g2
  obtain rfl : w2 = (.int i2) := Option.some.inj e2
  obtain ⟨i3, e3⟩ := is_v g3
  obtain rfl : w3 = (.int i3) := Option.some.inj e3
  obtain ⟨i4, e4⟩ := is_v g4
  obtain rfl : w4 = (.int i4) := Option.some.inj e4
  have hH : own_H s.heap s.heap [] := ⟨⟨Nat.le_refl _, fun _ _ q => q⟩, fun _ q => (nomatch q), List.nodup_nil⟩
  obtain ⟨n, o, h1, h2, h3, v, M, L, rfl, rfl, -, N, hq⟩ := (own_law l s _ hw i0 i1 i2 i3 i4) tables_1 p e ha hc hk s m _ below hf ((Spec.applies_iff_loose hf).mp happ).1 ⟨rfl, State.Warmed39.refl s, hH⟩ trivial
  refine ⟨n, _, h1, h2, h3, hpost _ _ _ _ _ _ ⟨Cond.after_iff.mpr rfl, Cond.after_iff.mpr (eq_i res_at (Term.int_eval (1)) rfl), trivial⟩ ⟨hq.1, hq.2.1, (hq.2.2.sift fun y hy => Or.inr (N y hy)).mono (by decide) (by decide)⟩⟩
theorem main_1_1 : Claimed_1_1 := comes_1 fun _ _ _ _ _ _ h hF => ⟨h.1, hF⟩
theorem main_1_2 : Claimed_1_2 := comes_1 fun _ _ _ _ _ _ h hF => ⟨h.2.1, hF⟩
end Jvm.Pilot.@@N@@
namespace Jvm.Pilot.@@N@@
open Jvm Jvm.ClassFile Sem Op Lib Jvm.Free Jvm.Stand Jvm.Pilot.@@N@@.Jvm.D
/-! MADE BY PROGRAM (witnessworld.py) out of the Statement's table words and the real class files: 12 classes; the members and pool entries that the words name. The judged class is class 1, her method 2. -/
namespace start1
open Jvm.ClassFile
def u (s : String) : CpInfo := .utf8 (stringToUtf16 s)
/-- a pool by its gaps: so many unusable entries, then the entry; so many at the end -/
def gap : Nat → List CpInfo → List CpInfo
  | 0, r => r
  | n + 1, r => .unusable :: gap n r
def poolList (es : List (Nat × CpInfo)) (last : Nat) : List CpInfo := es.foldr (fun e r => gap e.1 (e.2 :: r)) (gap last [])
def pool (es : List (Nat × CpInfo)) (last : Nat) : Array CpInfo := ⟨poolList es last⟩
def fileOf (pool : Array CpInfo) (this : Nat) (attrs : Array Attribute := #[]) (ms : Array MethodInfo := #[]) (fl : Nat := 33) (sup : Nat := 0) (ifs : Array Nat := #[]) (fds : Array FieldInfo := #[]) : ClassFile where
  minorVersion := 0
  majorVersion := 65
  constantPool := pool
  accessFlags := fl
  thisClass := this
  superClass := sup
  interfaces := ifs
  fields := fds
  methods := ms
  attributes := attrs
def plain (name : String) (sup : Option ClassId) : Class where
  name := name
  kind := .ordinary
  loader := none
  accessFlags := 33
  super := sup
  interfaces := #[]
  cf := none
  fields := #[]
  methods := #[]
  instanceTypes := #[]
  staticTypes := #[]
  resolved := #[]
  callSites := []
  init := .initialized
  statics := none
  mirror := none

def pool0 : Array CpInfo := pool [(5, u "<init>"), (0, u "()V"), (1, .class_ 10), (1, u "java/lang/Object")] 113

def k0c0 : Code := { maxStack := 0, maxLocals := 1, code := object_method_1_code, exceptionTable := #[], attributes := #[] }
def k0m0 : Method := { name := "<init>", desc := "()V", sig := { parameters := [], returnType := none }, accessFlags := 1, code := some k0c0 }
/-- java/lang/Object -/
def k0 : Class := { plain "java/lang/Object" none with
  accessFlags := 33
  interfaces := #[]
  cf := some (fileOf pool0 8 #[] #[{ accessFlags := 1, nameIndex := 5, descriptorIndex := 6, attributes := #[] }] 33 0 #[] #[])
  fields := #[]
  methods := #[k0m0]
  instanceTypes := #[]
  staticTypes := #[]
  resolved := Array.replicate 124 none
  statics := none }

def pool1 : Array CpInfo := pool [(2, .class_ 4), (1, u "java/lang/Object"), (0, u "<init>"), (0, u "()V"), (0, .methodref 8 9), (0, .class_ 10), (0, .nameAndType 11 12), (0, u "com/example/residuum/residuum/SecondOrderTermQuadraticFormPinLaw"), (0, u "s16"), (0, u "(I)J"), (0, .class_ 14), (0, u "com/example/residuum/residuum/SecondOrderTerm"), (0, .methodref 13 16), (0, .nameAndType 5 17), (0, u "(I)V"), (0, .methodref 13 19), (0, .nameAndType 20 21), (0, u "update"), (0, u "([D[D[D[D)V"), (0, .methodref 13 23), (0, .nameAndType 24 25), (0, u "quadraticForm"), (0, u "([D)D"), (0, .long 2), (3, u "law"), (0, u "(IIIII)Z")] 5

def k1m0 : Method := { name := "<init>", desc := "()V", sig := { parameters := [], returnType := none }, accessFlags := 1, code := none }
def k1c1 : Code := { maxStack := 2, maxLocals := 1, code := method_2_code, exceptionTable := #[], attributes := #[] }
def k1m1 : Method := { name := "s16", desc := "(I)J", sig := { parameters := [.int], returnType := some .long }, accessFlags := 10, code := some k1c1 }
def k1c2 : Code := { maxStack := 6, maxLocals := 29, code := code, exceptionTable := #[], attributes := #[] }
def k1m2 : Method := { name := "law", desc := "(IIIII)Z", sig := { parameters := [.int, .int, .int, .int, .int], returnType := some .boolean }, accessFlags := 9, code := some k1c2 }
/-- com/example/residuum/residuum/SecondOrderTermQuadraticFormPinLaw -/
def k1 : Class := { plain "com/example/residuum/residuum/SecondOrderTermQuadraticFormPinLaw" (some 0) with
  accessFlags := 49
  interfaces := #[]
  cf := some (fileOf pool1 8 #[] #[{ accessFlags := 1, nameIndex := 5, descriptorIndex := 6, attributes := #[] }, { accessFlags := 10, nameIndex := 11, descriptorIndex := 12, attributes := #[] }, { accessFlags := 9, nameIndex := 30, descriptorIndex := 31, attributes := #[] }] 49 2 #[] #[])
  fields := #[]
  methods := #[k1m0, k1m1, k1m2]
  instanceTypes := #[]
  staticTypes := #[]
  resolved := Array.replicate 37 none
  statics := none }

def pool2 : Array CpInfo := pool [(1, .methodref 2 3), (0, .class_ 4), (0, .nameAndType 5 6), (0, u "java/lang/Object"), (0, u "<init>"), (0, u "()V"), (0, .class_ 8), (0, u "[[D"), (0, .fieldref 10 11), (0, .class_ 12), (0, .nameAndType 13 8), (0, u "com/example/residuum/residuum/SecondOrderTerm"), (0, u "term"), (10, u "(I)V"), (4, u "quadraticForm"), (0, u "([D)D"), (1, u "update"), (0, u "([D[D[D[D)V")] 4

def k2c0 : Code := { maxStack := 3, maxLocals := 2, code := prog_17_method_1_code, exceptionTable := #[], attributes := #[] }
def k2m0 : Method := { name := "<init>", desc := "(I)V", sig := { parameters := [.int], returnType := none }, accessFlags := 0, code := some k2c0 }
def k2c1 : Code := { maxStack := 6, maxLocals := 6, code := prog_17_method_3_code, exceptionTable := #[], attributes := #[] }
def k2m1 : Method := { name := "quadraticForm", desc := "([D)D", sig := { parameters := [(.array .double)], returnType := some .double }, accessFlags := 0, code := some k2c1 }
def k2c2 : Code := { maxStack := 12, maxLocals := 20, code := prog_17_method_4_code, exceptionTable := #[], attributes := #[] }
def k2m2 : Method := { name := "update", desc := "([D[D[D[D)V", sig := { parameters := [(.array .double), (.array .double), (.array .double), (.array .double)], returnType := none }, accessFlags := 0, code := some k2c2 }
/-- com/example/residuum/residuum/SecondOrderTerm -/
def k2 : Class := { plain "com/example/residuum/residuum/SecondOrderTerm" (some 0) with
  accessFlags := 48
  interfaces := #[]
  cf := some (fileOf pool2 10 #[] #[{ accessFlags := 0, nameIndex := 5, descriptorIndex := 24, attributes := #[] }, { accessFlags := 0, nameIndex := 29, descriptorIndex := 30, attributes := #[] }, { accessFlags := 0, nameIndex := 32, descriptorIndex := 33, attributes := #[] }] 48 2 #[] #[{ accessFlags := 18, nameIndex := 13, descriptorIndex := 8, attributes := #[] }])
  fields := #[{ name := "term", type := (.array (.array .double)), accessFlags := 18, slot := 0, constantValue := 0 }]
  methods := #[k2m0, k2m1, k2m2]
  instanceTypes := #[(.array (.array .double))]
  staticTypes := #[]
  resolved := Array.replicate 38 none
  statics := none }

def pool3 : Array CpInfo := pool [(1, u "java/lang/Cloneable"), (0, .class_ 1), (0, u "java/lang/Object"), (0, .class_ 3)] 3

/-- java/lang/Cloneable -/
def k3 : Class := { plain "java/lang/Cloneable" (some 0) with
  accessFlags := 1537
  interfaces := #[]
  cf := some (fileOf pool3 2 #[] #[] 1537 4 #[] #[])
  fields := #[]
  methods := #[]
  instanceTypes := #[]
  staticTypes := #[]
  resolved := Array.replicate 8 none
  statics := none }

def pool4 : Array CpInfo := pool [(1, u "java/io/Serializable"), (0, .class_ 1), (0, u "java/lang/Object"), (0, .class_ 3)] 3

/-- java/io/Serializable -/
def k4 : Class := { plain "java/io/Serializable" (some 0) with
  accessFlags := 1537
  interfaces := #[]
  cf := some (fileOf pool4 2 #[] #[] 1537 4 #[] #[])
  fields := #[]
  methods := #[]
  instanceTypes := #[]
  staticTypes := #[]
  resolved := Array.replicate 8 none
  statics := none }

/-- the primitive byte -/
def k5 : Class := { plain "byte" none with kind := .primitive 'B', accessFlags := 0x411 }
/-- [B -/
def k6 : Class := { plain "[B" (some 0) with kind := .array 5 .byte, interfaces := #[3, 4], accessFlags := 1041 }

/-- the primitive double -/
def k7 : Class := { plain "double" none with kind := .primitive 'D', accessFlags := 0x411 }
/-- [D -/
def k8 : Class := { plain "[D" (some 0) with kind := .array 7 .double, interfaces := #[3, 4], accessFlags := 1041 }

/-- the primitive int -/
def k9 : Class := { plain "int" none with kind := .primitive 'I', accessFlags := 0x411 }
/-- [I -/
def k10 : Class := { plain "[I" (some 0) with kind := .array 9 .int, interfaces := #[3, 4], accessFlags := 1041 }

/-- [[D -/
def k11 : Class := { plain "[[D" (some 0) with kind := .array 8 (.array .double), interfaces := #[3, 4], accessFlags := 1041 }

def heap : Heap := #[]
def classes : Array Class := #[k0, k1, k2, k3, k4, k5, k6, k7, k8, k9, k10, k11]
def interned : List (Array UInt16 × Addr) := []
def slotsUsed : Nat := 0
def theMethod : MethodId := ⟨1, 2⟩
def args0 : Array Value := #[.int 5, .int 2, .int 3, .int 4, .int 1]
def aboutOver (below : List Frame) : State where
  vm := { classes := classes, interned := interned.toArray }
  heap := heap
  slotsUsed := slotsUsed
  threads := #[{ frames := .invoking theMethod args0 :: below }]
def below0 : List Frame := [.native { method := ⟨0, 0⟩, args := #[] }]
def about1 : State := aboutOver below0
def p0 : Program := .bare "" "" ""
def e0 : Env := launch0.env 0 0 0
theorem w_frames : about1.frames = Frame.invoking theMethod args0 :: below0 := rfl
set_option maxRecDepth 65536 in
theorem w_args : argsFit about1.vm theMethod args0 = true := by decide +kernel
set_option maxRecDepth 65536 in
theorem w_heap : heapFits about1 = true := by decide +kernel
set_option maxRecDepth 65536 in
theorem w_runnable : about1.curStatus? = some .runnable := by decide +kernel
set_option maxRecDepth 65536 in
theorem w_alone : about1.alone = true := by decide +kernel
set_option maxRecDepth 65536 in
theorem w_named : about1.methodNamed? x = some theMethod := by decide +kernel
set_option maxRecDepth 65536 in
theorem w_hears : about1.hears theMethod below0 = true := by decide +kernel
set_option maxRecDepth 65536 in
theorem w_ripe : about1.ripe theMethod args0 below0 = true := by decide +kernel
theorem w_running : about1.status = .running := rfl
set_option maxRecDepth 65536 in
theorem w_room : about1.hasRoom e0.platform room_1 = true :=
  launch0.hasRoom_least _ room_1 (by decide +kernel) (by decide +kernel) (by decide +kernel) (by decide +kernel) (by decide +kernel) (by decide +kernel)
theorem allAtoms_all (ts : List Jvm.Cond) (a : Array Jvm.Value) (st : Jvm.State) : (allAtoms ts).before a st = ts.all (fun c => c.before a st) := by
  induction ts with
  | nil => rfl
  | cons c t ih =>
    show (Jvm.Cond.and c (allAtoms t)).before a st = _
    rw [Jvm.Cond.before_and, ih, List.all_cons]
def words1 : List Jvm.Cond := Jvm.Cond.code x code maxLocals ret :: tables_1
/-- a 'code' word, met by the world's own term for the bytes: nothing is compared byte by byte -/
theorem code_word {y : MethodName} {bytes : ByteArray} {mx : Nat} {rt : Option FieldType} {a : Array Value} {s : State} {m : MethodId} {meth : Method} {c : Code} (h1 : s.methodNamed? y = some m) (h2 : s.vm.method? m = some meth) (h3 : meth.code = some c) (h4 : c.code = bytes)
    (h5 : (c.maxLocals == mx && c.exceptionTable.isEmpty && decide (c.maxStack ≤ mostOperands) && decide (meth.sig.returnType = rt) && !meth.locks && decide (parseMethodDescriptor y.desc = some meth.sig)) = true) : (Jvm.Cond.code y bytes mx rt).before a s = true := by
  simp only [Bool.and_eq_true, beq_iff_eq, Bool.not_eq_true', decide_eq_true_eq] at h5
  obtain ⟨⟨⟨⟨⟨g1, g2⟩, g3⟩, g4⟩, g5⟩, g6⟩ := h5
  simp [Cond.before, Cond.holds, Cond.value, h1, h2, h3, h4, g1, g2, g3, g4, g5, g6]
def isCode : Jvm.Cond → Bool
  | .code _ _ _ _ => true
  | _ => false
theorem all_split {L : List Jvm.Cond} {P : Jvm.Cond → Bool} (h1 : L.all (fun c => isCode c || P c) = true) (h2 : ∀ c ∈ L.filter isCode, P c = true) : L.all P = true := by
  refine List.all_eq_true.mpr fun c hc => ?_
  have h := List.all_eq_true.mp h1 c hc
  rcases Bool.eq_false_or_eq_true (isCode c) with hi | hi
  · exact h2 c (List.mem_filter.mpr ⟨hc, hi⟩)
  · simpa [hi] using h
set_option maxRecDepth 65536 in
theorem w_c0 : (Jvm.Cond.code x code maxLocals ret).before args0 about1 = true := code_word (m := ⟨1, 2⟩) (meth := k1m2) (c := k1c2) (by decide +kernel) rfl rfl rfl (by decide +kernel)
set_option maxRecDepth 65536 in
theorem w_c1 : (Jvm.Cond.code ({ cls := "com/example/residuum/residuum/SecondOrderTermQuadraticFormPinLaw", name := "s16", desc := "(I)J" } : Jvm.MethodName) method_2_code (1 : Nat) (Option.some Jvm.ClassFile.FieldType.long)).before args0 about1 = true := code_word (m := ⟨1, 1⟩) (meth := k1m1) (c := k1c1) (by decide +kernel) rfl rfl rfl (by decide +kernel)
set_option maxRecDepth 65536 in
theorem w_c2 : (Jvm.Cond.code ({ cls := "com/example/residuum/residuum/SecondOrderTerm", name := "<init>", desc := "(I)V" } : Jvm.MethodName) prog_17_method_1_code (2 : Nat) (Option.none : Option Jvm.ClassFile.FieldType)).before args0 about1 = true := code_word (m := ⟨2, 0⟩) (meth := k2m0) (c := k2c0) (by decide +kernel) rfl rfl rfl (by decide +kernel)
set_option maxRecDepth 65536 in
theorem w_c3 : (Jvm.Cond.code ({ cls := "java/lang/Object", name := "<init>", desc := "()V" } : Jvm.MethodName) object_method_1_code (1 : Nat) (Option.none : Option Jvm.ClassFile.FieldType)).before args0 about1 = true := code_word (m := ⟨0, 0⟩) (meth := k0m0) (c := k0c0) (by decide +kernel) rfl rfl rfl (by decide +kernel)
set_option maxRecDepth 65536 in
theorem w_c4 : (Jvm.Cond.code ({ cls := "com/example/residuum/residuum/SecondOrderTerm", name := "update", desc := "([D[D[D[D)V" } : Jvm.MethodName) prog_17_method_4_code (20 : Nat) (Option.none : Option Jvm.ClassFile.FieldType)).before args0 about1 = true := code_word (m := ⟨2, 2⟩) (meth := k2m2) (c := k2c2) (by decide +kernel) rfl rfl rfl (by decide +kernel)
set_option maxRecDepth 65536 in
theorem w_c5 : (Jvm.Cond.code ({ cls := "com/example/residuum/residuum/SecondOrderTerm", name := "quadraticForm", desc := "([D)D" } : Jvm.MethodName) prog_17_method_3_code (6 : Nat) (Option.some Jvm.ClassFile.FieldType.double)).before args0 about1 = true := code_word (m := ⟨2, 1⟩) (meth := k2m1) (c := k2c1) (by decide +kernel) rfl rfl rfl (by decide +kernel)
def codes1 : List Jvm.Cond := [Jvm.Cond.code x code maxLocals ret, Jvm.Cond.code ({ cls := "com/example/residuum/residuum/SecondOrderTermQuadraticFormPinLaw", name := "s16", desc := "(I)J" } : Jvm.MethodName) method_2_code (1 : Nat) (Option.some Jvm.ClassFile.FieldType.long), Jvm.Cond.code ({ cls := "com/example/residuum/residuum/SecondOrderTerm", name := "<init>", desc := "(I)V" } : Jvm.MethodName) prog_17_method_1_code (2 : Nat) (Option.none : Option Jvm.ClassFile.FieldType), Jvm.Cond.code ({ cls := "java/lang/Object", name := "<init>", desc := "()V" } : Jvm.MethodName) object_method_1_code (1 : Nat) (Option.none : Option Jvm.ClassFile.FieldType), Jvm.Cond.code ({ cls := "com/example/residuum/residuum/SecondOrderTerm", name := "update", desc := "([D[D[D[D)V" } : Jvm.MethodName) prog_17_method_4_code (20 : Nat) (Option.none : Option Jvm.ClassFile.FieldType), Jvm.Cond.code ({ cls := "com/example/residuum/residuum/SecondOrderTerm", name := "quadraticForm", desc := "([D)D" } : Jvm.MethodName) prog_17_method_3_code (6 : Nat) (Option.some Jvm.ClassFile.FieldType.double)]
set_option maxRecDepth 65536 in
theorem codes_eq : words1.filter isCode = codes1 := rfl
theorem w_codes : ∀ c ∈ words1.filter isCode, c.before args0 about1 = true := by
  rw [codes_eq]
  intro c hc
  simp only [codes1, List.mem_cons, List.not_mem_nil, or_false] at hc
  rcases hc with rfl | rfl | rfl | rfl | rfl | rfl
  · exact w_c0
  · exact w_c1
  · exact w_c2
  · exact w_c3
  · exact w_c4
  · exact w_c5
set_option maxRecDepth 65536 in
theorem w_t1 : (words1.take 24).all (fun c => isCode c || c.before args0 about1) = true := by decide +kernel
set_option maxRecDepth 65536 in
theorem w_t2 : (words1.drop 24).all (fun c => isCode c || c.before args0 about1) = true := by decide +kernel
theorem w_tables : (allAtoms (Jvm.Cond.code x code maxLocals ret :: tables_1)).before args0 about1 = true := by
  rw [allAtoms_all]
  show words1.all (fun c => c.before args0 about1) = true
  refine all_split ?_ w_codes
  rw [← List.take_append_drop 24 words1, List.all_append, w_t1, w_t2]
  rfl
set_option maxRecDepth 65536 in
theorem w_case : (Jvm.Cond.and given_1 narrow_1).before args0 about1 = true := by decide +kernel
theorem w_applies : (headSpec (Jvm.Cond.code x code maxLocals ret :: tables_1) room_1).applies x e0.platform about1 = true :=
  (Spec.applies_iff w_frames).mpr ⟨w_running, w_runnable, w_alone, w_named, w_hears, w_ripe, w_room, w_tables⟩
theorem atStart : AtStart classFile x code maxLocals ret World_1 tables_1 room_1 Calls_1 rest_1 Pre_1 launch0 p0 e0 about1 theMethod args0 below0 :=
  ⟨lists_1, trivial, launch0.admits_env _ _ _, launch0.least_env, fairChoices_fair.cas, fairChoices_fair.clock, w_frames, w_args, w_heap, w_applies, trivial, trivial, w_case⟩
end start1
theorem witness_1 : WitnessClaimed_1 := ⟨start1.p0, start1.e0, start1.about1, start1.theMethod, start1.args0, start1.below0, start1.atStart⟩
end Jvm.Pilot.@@N@@
