import JvmDerived
import JvmDerived.Pilot.@@N@@Statement
import JvmDerived.Pilot.@@N@@Code
set_option linter.unusedVariables false
set_option linter.unusedSimpArgs false
namespace Jvm.Pilot.@@N@@
open Jvm Jvm.ClassFile Sem Op Lib Jvm.Free Jvm.Stand Jvm.LawKit Jvm.RoadKit Bundle Jvm.Pilot.@@N@@.Jvm.D
section OwnKit
def own_Go (tb : Tables) (e : Env) (below : List Frame) (P : State → Outcome → Prop) (S : State) : Prop := ∃ s₂ o, Steps tb e below S s₂ ∧ s₂.status = .running ∧ Ended s₂ below o ∧ P s₂ o
theorem own_Go.st {tb : Tables} {e : Env} {below : List Frame} {P : State → Outcome → Prop} {S S' : State} (g : own_Go tb e below P S') (h : ∀ t, Steps tb e below S' t → Steps tb e below S t) : own_Go tb e below P S := by
  obtain ⟨s₂, o, h1, h2⟩ := g; exact ⟨s₂, o, h _ h1, h2⟩
/-- the heap: all that stood at the start stands; the listed new cells, all different, are as their predicates say -/
def own_H (h0 h : Heap) (L : List (Addr × (Cell → Prop))) : Prop := Ext h0 h ∧ (∀ q ∈ L, h0.size ≤ q.1 ∧ ∃ c, h[q.1]? = some c ∧ q.2 c) ∧ (L.map (·.1)).Nodup
def own_ex (Z : State) (C : String) (c : Cell) : Prop := ∃ k : Class, Z.vm.findClass C = some c.cls ∧ Z.vm.classes[c.cls]? = some k ∧ c.vm.isStatics = false ∧ (k.kind = .ordinary → c.slots.size = k.instanceTypes.size)
def own_fd (Z : State) (C n d : String) (v : Value) (c : Cell) : Prop := ∃ (cf : ClassId) (k : Class) (i : Nat) (f : Field), Z.fieldFound? C n d = some (cf, k, i, f) ∧ f.isStatic = false ∧ c.vm ≠ .unknown ∧ c.vm.isStatics = false ∧ Z.vm.assignable c.cls cf = true ∧ c.slots[f.slot]? = some v
def own_ob (Z : State) (C : String) (fs : List (String × String × Value)) (c : Cell) : Prop := own_ex Z C c ∧ ∀ q ∈ fs, own_fd Z C q.1 q.2.1 q.2.2 c
def own_ar (Z : State) (ty : FieldType) (vs : List Value) (c : Cell) : Prop := Z.isArrayOf c ty ∧ c.vm ≠ .unknown ∧ c.slots.toList = vs ∧ own_ex Z ("[" ++ ty.toString) c
def own_lay (Z : State) (a0 : Array Value) (C : String) : List (String × String × FieldType) → Prop
  | [] => True
  | q :: r => (Laid Z a0 C C q.1 q.2.1 ∧ parseFieldDescriptor q.2.1 = some q.2.2) ∧ own_lay Z a0 C r
theorem own_lay.mem {Z : State} {a0 : Array Value} {C : String} : ∀ {N : List (String × String × FieldType)}, own_lay Z a0 C N → ∀ q ∈ N, Laid Z a0 C C q.1 q.2.1 ∧ parseFieldDescriptor q.2.1 = some q.2.2
  | [], _, _, h => nomatch h
  | _ :: _, ⟨h1, h2⟩, q, h => (List.mem_cons.mp h).elim (fun e => e ▸ h1) (own_lay.mem h2 q)
def own_S (p : Program) (l : Launch) (e : Env) (R : Room) (s : State) (m : MethodId) (args : Array Value) (below : List Frame) (meth : Method) (c : Code) (Z T : State) (L : List (Addr × (Cell → Prop))) (k n : Nat) : Prop :=
  ∃ locs, Stand p l e R s m args below meth c T locs k n ∧ Fr Z.heap.size locs ∧ own_H Z.heap T.heap L
def own_C (p : Program) (s : State) (m : MethodId) (meth : Method) (c : Code) (Z : State) (own nm : String) (code : ByteArray) (ml : Nat) (rt : Option FieldType) : Prop :=
  p.tables.exec = Jvm.exec ∧ c.code = code ∧ c.maxLocals = ml ∧ Z.Warmed39 s.vm ∧ s.vm.findClass own = some m.cls ∧ meth.name = nm ∧ meth.sig.returnType = rt ∧ meth.locks = false
def own_E (Z s : State) (R : Room) (Q : Option Value → List (Addr × (Cell → Prop)) → Prop) (t : State) (o : Outcome) : Prop :=
  ∃ v L locs, o = .returned v ∧ Q v L ∧ own_H Z.heap t.heap L ∧ Fr Z.heap.size locs ∧ FrameEnd s o t locs R.cells R.slots
def own_Con (l : Launch) (Z : State) (y : MethodName) (bytes : ByteArray) (maxL : Nat) (ret : Option FieldType) (rm : Room) (as' : Array Value) (L : List (Addr × (Cell → Prop))) (Q : Option Value → List (Addr × (Cell → Prop)) → Prop) : Prop :=
  ∀ ws, MetFree l y (head1 (Jvm.Cond.code y bytes maxL ret :: ws) rm) (fun a U => a = as' ∧ Z.Warmed39 U.vm ∧ own_H Z.heap U.heap L) (fun _ _ _ _ _ => True) (fun _ U o U' => own_E Z U rm Q U' o)
/-! the heap's list -/
section Heaps
variable {h0 h h' : Heap} {L : List (Addr × (Cell → Prop))} {a : Addr} {Pq Pq' : Cell → Prop} {i : Nat}
theorem own_H.get (H : own_H h0 h L) (hi : L[i]? = some (a, Pq)) : h0.size ≤ a ∧ ∃ c, h[a]? = some c ∧ Pq c := H.2.1 _ (List.mem_of_getElem? hi)
theorem own_H.lt (H : own_H h0 h L) : ∀ q ∈ L, q.1 < h.size := fun q hq => by
  obtain ⟨-, c, h1, -⟩ := H.2.1 q hq; exact (Array.getElem?_eq_some_iff.mp h1).1
theorem own_H.push (H : own_H h0 h L) (E : Ext h h') {c : Cell} (hc : h'[h.size]? = some c) (hP : Pq c) : own_H h0 h' ((h.size, Pq) :: L) := by
  refine ⟨⟨Nat.le_trans H.1.1 E.1, fun a c q => E.2 a c (H.1.2 a c q)⟩, fun q hq => ?_, ?_⟩
  · rcases List.mem_cons.mp hq with rfl | hq
    · exact ⟨H.1.1, c, hc, hP⟩
    · obtain ⟨h1, c', h2, h3⟩ := H.2.1 q hq; exact ⟨h1, c', E.2 _ _ h2, h3⟩
  · rw [List.map_cons, List.nodup_cons]
    refine ⟨fun hm => ?_, H.2.2⟩
    obtain ⟨q, hq, e⟩ := List.mem_map.mp hm
    exact absurd (H.lt q hq) (by rw [show q.1 = h.size from e]; exact Nat.lt_irrefl _)
theorem own_setmem {α : Type} : ∀ {L : List α} {i : Nat} {x q : α}, q ∈ L.set i x → q = x ∨ ∃ j, j ≠ i ∧ L[j]? = some q
  | [], _, _, _, h => nomatch h
  | y :: L, 0, x, q, h => by
    rcases List.mem_cons.mp h with rfl | h
    · exact Or.inl rfl
    · obtain ⟨j, hj⟩ := List.mem_iff_getElem?.mp h
      exact Or.inr ⟨j + 1, by omega, hj⟩
  | y :: L, i + 1, x, q, h => by
    rcases List.mem_cons.mp h with rfl | h
    · exact Or.inr ⟨0, by omega, rfl⟩
    · rcases own_setmem h with e | ⟨j, hj, e⟩
      · exact Or.inl e
      · exact Or.inr ⟨j + 1, by omega, e⟩
theorem own_nodup_ne {α : Type} {L : List α} (h : L.Nodup) {i j : Nat} {x y : α} (hi : L[i]? = some x) (hj : L[j]? = some y) (hn : i ≠ j) : x ≠ y := fun e => by
  subst e
  obtain ⟨hi1, hi2⟩ := List.getElem?_eq_some_iff.mp hi
  obtain ⟨hj1, hj2⟩ := List.getElem?_eq_some_iff.mp hj
  have hp := List.pairwise_iff_getElem.mp h
  rcases Nat.lt_or_gt_of_ne hn with q | q
  · exact hp i j hi1 hj1 q (hi2.trans hj2.symm)
  · exact hp j i hj1 hi1 q (hj2.trans hi2.symm)
theorem own_setself {α : Type} {L : List α} {i : Nat} {x : α} (h : L[i]? = some x) : L.set i x = L := by
  obtain ⟨h1, h2⟩ := List.getElem?_eq_some_iff.mp h
  rw [← h2]; exact List.set_getElem_self h1
theorem own_erase {α : Type} : ∀ (L : List α) (i : Nat) (x : α), L[i]? = some x → L.Perm (x :: L.eraseIdx i)
  | [], i, x, h => by simp at h
  | y :: L, 0, x, h => by simp at h; subst h; exact List.Perm.refl _
  | y :: L, i + 1, x, h => by
    have q := own_erase L i x (by simpa using h)
    exact (q.cons y).trans (List.Perm.swap x y _)
theorem own_H.set (H : own_H h0 h L) (hi : L[i]? = some (a, Pq)) {sl : Nat} {v : Value} (W : Wr h h' a sl v) (hP : ∀ c : Cell, Pq c → sl < c.slots.size → Pq' (c.setSlot sl v)) : own_H h0 h' (L.set i (a, Pq')) := by
  have hE : Ext h0 h' := by
    refine ⟨by rw [W.size]; exact H.1.1, fun b cb hb => ?_⟩
    obtain ⟨cb', h1, -, -, -, h2, -⟩ := wr_at W (H.1.2 b cb hb)
    have : b ≠ a := by
      have q1 := (Array.getElem?_eq_some_iff.mp hb).1
      have q2 := (H.get hi).1
      intro e; rw [e] at q1; exact absurd q1 (Nat.not_lt.mpr q2)
    rw [h2 this] at h1; exact h1
  refine ⟨hE, fun q hq => ?_, ?_⟩
  · rcases own_setmem hq with rfl | ⟨j, hj, e⟩
    · obtain ⟨h1, c, h2, h3⟩ := H.get hi
      obtain ⟨cb', g1, -, -, -, -, -, g2⟩ := wr_at W h2
      obtain ⟨g3, -, -⟩ := g2 rfl
      subst g3
      refine ⟨h1, _, g1, hP c h3 ?_⟩
      obtain ⟨cc, w1, -, w3, -⟩ := W
      rw [h2] at w1; cases w1; exact w3
    · obtain ⟨h1, c, h2, h3⟩ := H.2.1 q (List.mem_of_getElem? e)
      obtain ⟨cb', g1, -, -, -, g2, -⟩ := wr_at W h2
      have hne : q.1 ≠ a := own_nodup_ne (L := L.map (·.1)) H.2.2 (i := j) (j := i) (by rw [List.getElem?_map, e]; rfl) (by rw [List.getElem?_map, hi]; rfl) hj
      rw [g2 hne] at g1
      exact ⟨h1, c, g1, h3⟩
  · have : (L.set i (a, Pq')).map (·.1) = L.map (·.1) := by
      rw [List.map_set]
      have : (L.map (·.1))[i]? = some a := by rw [List.getElem?_map, hi]; rfl
      exact own_setself this
    rw [this]; exact H.2.2
theorem own_H.sub {M : List (Addr × (Cell → Prop))} (H : own_H h0 h L) (hs : M.Sublist L) : own_H h0 h M :=
  ⟨H.1, fun q hq => H.2.1 q (hs.subset hq), H.2.2.sublist (hs.map _)⟩
theorem own_H.perm {M : List (Addr × (Cell → Prop))} (H : own_H h0 h L) (hs : L.Perm M) : own_H h0 h M :=
  ⟨H.1, fun q hq => H.2.1 q (hs.mem_iff.mpr hq), (hs.map _).nodup_iff.mp H.2.2⟩
theorem own_H.bring (H : own_H h0 h L) (hi : L[i]? = some (a, Pq)) : own_H h0 h ((a, Pq) :: L.eraseIdx i) := by
  exact H.perm (own_erase L i _ hi)
theorem own_H.imp (H : own_H h0 h L) (hi : L[i]? = some (a, Pq)) (hP : ∀ c, Pq c → Pq' c) : own_H h0 h (L.set i (a, Pq')) := by
  refine ⟨H.1, fun q hq => ?_, ?_⟩
  · rcases own_setmem hq with rfl | ⟨j, hj, e⟩
    · obtain ⟨h1, c, h2, h3⟩ := H.get hi; exact ⟨h1, c, h2, hP c h3⟩
    · exact H.2.1 q (List.mem_of_getElem? e)
  · have : (L.set i (a, Pq')).map (·.1) = L.map (·.1) := by
      rw [List.map_set]
      have : (L.map (·.1))[i]? = some a := by rw [List.getElem?_map, hi]; rfl
      exact own_setself this
    rw [this]; exact H.2.2
theorem own_H.ne (H : own_H h0 h L) {j : Nat} {b : Addr} {Pb : Cell → Prop} (hi : L[i]? = some (a, Pq)) (hj : L[j]? = some (b, Pb)) (hn : i ≠ j) : a ≠ b :=
  own_nodup_ne (L := L.map (·.1)) H.2.2 (i := i) (j := j) (by rw [List.getElem?_map, hi]; rfl) (by rw [List.getElem?_map, hj]; rfl) hn
theorem own_ex.exa {Z : State} {C : String} {c : Cell} (hc : h[a]? = some c) (E : own_ex Z C c) : Exa Z h a C := by obtain ⟨k, r⟩ := E; exact ⟨c, k, hc, r⟩
theorem own_ex.of {Z : State} {C : String} (E : Exa Z h a C) {c : Cell} (hc : h[a]? = some c) : own_ex Z C c := by obtain ⟨c', k, h1, r⟩ := E; cases h1.symm.trans hc; exact ⟨k, r⟩
theorem own_fd.fld {Z : State} {C n d : String} {v : Value} {c : Cell} (hc : h[a]? = some c) (E : own_fd Z C n d v c) : Fld Z h a C n d v := by obtain ⟨cf, k, i, f, r⟩ := E; exact ⟨c, cf, k, i, f, hc, r⟩
theorem own_fd.of {Z : State} {C n d : String} {v : Value} {c : Cell} (hc : h[a]? = some c) (E : Fld Z h a C n d v) : own_fd Z C n d v c := by obtain ⟨c', cf, k, i, f, h1, r⟩ := E; cases h1.symm.trans hc; exact ⟨cf, k, i, f, r⟩
theorem own_fL {Z : State} {ix j : Nat} {K f d : String} {v : Value} {fs : List (String × String × Value)} (hi : L[ix]? = some (a, own_ob Z K fs)) (hj : fs[j]? = some (f, d, v)) (H : own_H h0 h L) : Fld Z h a K f d v := by
  obtain ⟨-, cc, h1, h2⟩ := H.get hi
  exact (h2.2 _ (List.mem_of_getElem? hj)).fld h1
theorem own_fO {Z : State} {K f d : String} {v : Value} (F : Fld Z h0 a K f d v) (H : own_H h0 h L) : Fld Z h a K f d v := F.ext H.1
theorem own_eL {Z : State} {ix : Nat} {K : String} {fs : List (String × String × Value)} (hi : L[ix]? = some (a, own_ob Z K fs)) (H : own_H h0 h L) : Exa Z h a K := by
  obtain ⟨-, cc, h1, h2⟩ := H.get hi
  exact h2.1.exa h1
theorem own_eO {Z : State} {K : String} (F : Exa Z h0 a K) (H : own_H h0 h L) : Exa Z h a K := F.ext H.1
theorem own_ar.arr {Z : State} {ty : FieldType} {vs : List Value} {c : Cell} (hc : h[a]? = some c) (E : own_ar Z ty vs c) : Arr Z h a c ty := ⟨hc, E.1, E.2.1⟩
end Heaps

variable {p : Program} {l : Launch} {e : Env} {R : Room} {s : State} {m : MethodId} {args : Array Value} {below : List Frame} {meth : Method} {c : Code} {Z T : State} {L : List (Addr × (Cell → Prop))} {k n : Nat} {own nm : String} {code : ByteArray} {ml : Nat} {rt : Option FieldType} {P : State → Outcome → Prop} {pc npc tpc : Nat} {ls : Array Slot} {st : List Value} {a0 : Array Value}
theorem own_S.stand (X : own_S p l e R s m args below meth c Z T L k n) : ∃ locs, Stand p l e R s m args below meth c T locs k n := by obtain ⟨locs, X, -⟩ := X; exact ⟨locs, X⟩
theorem own_S.heap (X : own_S p l e R s m args below meth c Z T L k n) : own_H Z.heap T.heap L := by obtain ⟨_, _, _, h⟩ := X; exact h
theorem own_S.more (X : own_S p l e R s m args below meth c Z T L k n) {k' n' : Nat} (hk : k ≤ k') (hn : n ≤ n') : own_S p l e R s m args below meth c Z T L k' n' := by obtain ⟨locs, X, h⟩ := X; exact ⟨locs, X.more hk hn, h⟩
theorem own_S.re (X : own_S p l e R s m args below meth c Z T L k n) {M : List (Addr × (Cell → Prop))} (h : own_H Z.heap T.heap L → own_H Z.heap T.heap M) : own_S p l e R s m args below meth c Z T M k n := by obtain ⟨locs, X, h1, h2⟩ := X; exact ⟨locs, X, h1, h h2⟩
theorem own_S.bring (X : own_S p l e R s m args below meth c Z T L k n) {i : Nat} {a : Addr} {Pq : Cell → Prop} (hi : L[i]? = some (a, Pq)) {M : List (Addr × (Cell → Prop))} (hM : (a, Pq) :: L.eraseIdx i = M) : own_S p l e R s m args below meth c Z T M k n := by subst hM; exact X.re fun H => H.bring hi

theorem own_swap3 {a1 a2 a3 b1 b2 b3 : Addr × (Cell → Prop)} (X : own_S p l e R s m args below meth c Z T (a1 :: a2 :: a3 :: b1 :: b2 :: b3 :: L) k n) : own_S p l e R s m args below meth c Z T (b1 :: b2 :: b3 :: a1 :: a2 :: a3 :: L) k n :=
  X.re fun H => H.perm ((List.perm_append_comm (l₁ := [a1, a2, a3]) (l₂ := [b1, b2, b3])).append_right L)

def own_locs : List Value → List Slot
  | [] => []
  | v :: r => if v.category = 2 then .val v :: .second :: own_locs r else .val v :: own_locs r
theorem own_locs_fold : ∀ (l : List Value) (acc : Array Slot), (l.foldl (fun acc v => if v.category = 2 then (acc.push (.val v)).push .second else acc.push (.val v)) acc).toList = acc.toList ++ own_locs l
  | [], acc => (List.append_nil _).symm
  | v :: r, acc => by
    rw [List.foldl_cons, own_locs_fold r]
    by_cases h : v.category = 2
    · rw [if_pos h]; show _ = acc.toList ++ (if v.category = 2 then _ else _); rw [if_pos h, Array.toList_push, Array.toList_push, List.append_assoc, List.append_assoc]; rfl
    · rw [if_neg h]; show _ = acc.toList ++ (if v.category = 2 then _ else _); rw [if_neg h, Array.toList_push, List.append_assoc]; rfl
theorem own_ent (m : MethodId) {as : List Value} {n : Nat} {ls : List Slot} (h : own_locs as ++ List.replicate (n - (own_locs as).length) .unset = ls) : entryFrame m as.toArray n = mkF m 0 ls.toArray [] := by
  have e : argsToLocals as.toArray n = ls.toArray := by
    apply Array.toList_inj.mp
    have q := own_locs_fold as #[]
    rw [show (#[] : Array Slot).toList = [] from rfl, List.nil_append] at q
    show ((as.toArray.foldl (fun (acc : Array Slot) (v : Value) => if v.category = 2 then (acc.push (.val v)).push .second else acc.push (.val v)) #[]) ++ Array.replicate (n - (as.toArray.foldl (fun (acc : Array Slot) (v : Value) => if v.category = 2 then (acc.push (.val v)).push .second else acc.push (.val v)) #[]).size) Slot.unset).toList = ls
    rw [List.foldl_toArray']
    · show (_ ++ _ : Array Slot).toList = ls
      rw [Array.toList_append, q, Array.toList_replicate, ← Array.length_toList, q]; exact h
    all_goals first | rfl | simp
  show ({ method := m, pc := 0, locals := argsToLocals as.toArray n, stack := [], locked := none } : JFrame) = _
  rw [e]

theorem own_con {y : MethodName} {bytes : ByteArray} {maxL : Nat} {ret : Option FieldType} {rm : Room} {as' : Array Value} {Q : Option Value → List (Addr × (Cell → Prop)) → Prop} (hx : plainFor y = true) (hent : ∀ m, entryFrame m as' maxL = mkF m 0 ls [])
    (body : ∀ p e s m below meth c T, own_C p s m meth c Z y.cls y.name bytes maxL ret → own_S p l e rm s m as' below meth c Z T L 0 0 → own_Go p.tables e below (own_E Z s rm Q) (T.setTop (mkF m 0 ls []))) : own_Con l Z y bytes maxL ret rm as' L Q := by
  intro ws
  refine MetFree.of_bodySF hx hisR ?_
  intro p e s m args below meth c s₁ Bd hml hP hK
  obtain ⟨rfl, hZ, hH⟩ := hP
  have hnm := (name_of_methodNamed Bd.named Bd.method).1
  have X0 : Stand p l e rm s m args below meth c s₁ [] 0 0 := Stand.of_body Bd
  have q := body p e s m below meth c s₁ ⟨Bd.exec, Bd.bytes, hml, hZ, findClass_of_methodNamed Bd.named, hnm, Bd.returns, Bd.notSynchronized⟩ ⟨[], X0, Fr.nil _, by rw [Bd.state]; exact hH⟩
  rw [← hent] at q
  exact q

theorem k_iadd (C : own_C p s m meth c Z own nm code ml rt) (X : own_S p l e R s m args below meth c Z T L k n) {x y : Int32} (hd : decode code pc = .ok (.iadd, 1)) (hp : pc + 1 = npc) (g : own_Go p.tables e below P (T.setTop (mkF m npc ls (.int (x + y) :: st)))) : own_Go p.tables e below P (T.setTop (mkF m pc ls (.int y :: .int x :: st))) := by
  subst hp; obtain ⟨_, X, -, -⟩ := X
  exact g.st fun t k => Jvm.Free.XS.iadd X.here C.1 rfl (hb C.2.1 hd) rfl k
theorem k_isub (C : own_C p s m meth c Z own nm code ml rt) (X : own_S p l e R s m args below meth c Z T L k n) {x y : Int32} (hd : decode code pc = .ok (.isub, 1)) (hp : pc + 1 = npc) (g : own_Go p.tables e below P (T.setTop (mkF m npc ls (.int (x - y) :: st)))) : own_Go p.tables e below P (T.setTop (mkF m pc ls (.int y :: .int x :: st))) := by
  subst hp; obtain ⟨_, X, -, -⟩ := X
  exact g.st fun t k => Jvm.Free.XS.isub X.here C.1 rfl (hb C.2.1 hd) rfl k
theorem k_imul (C : own_C p s m meth c Z own nm code ml rt) (X : own_S p l e R s m args below meth c Z T L k n) {x y : Int32} (hd : decode code pc = .ok (.imul, 1)) (hp : pc + 1 = npc) (g : own_Go p.tables e below P (T.setTop (mkF m npc ls (.int (x * y) :: st)))) : own_Go p.tables e below P (T.setTop (mkF m pc ls (.int y :: .int x :: st))) := by
  subst hp; obtain ⟨_, X, -, -⟩ := X
  exact g.st fun t k => Jvm.Free.XS.imul X.here C.1 rfl (hb C.2.1 hd) rfl k
theorem k_iand (C : own_C p s m meth c Z own nm code ml rt) (X : own_S p l e R s m args below meth c Z T L k n) {x y : Int32} (hd : decode code pc = .ok (.iand, 1)) (hp : pc + 1 = npc) (g : own_Go p.tables e below P (T.setTop (mkF m npc ls (.int (x &&& y) :: st)))) : own_Go p.tables e below P (T.setTop (mkF m pc ls (.int y :: .int x :: st))) := by
  subst hp; obtain ⟨_, X, -, -⟩ := X
  exact g.st fun t k => Jvm.Free.XS.iand X.here C.1 rfl (hb C.2.1 hd) rfl k
theorem k_ior (C : own_C p s m meth c Z own nm code ml rt) (X : own_S p l e R s m args below meth c Z T L k n) {x y : Int32} (hd : decode code pc = .ok (.ior, 1)) (hp : pc + 1 = npc) (g : own_Go p.tables e below P (T.setTop (mkF m npc ls (.int (x ||| y) :: st)))) : own_Go p.tables e below P (T.setTop (mkF m pc ls (.int y :: .int x :: st))) := by
  subst hp; obtain ⟨_, X, -, -⟩ := X
  exact g.st fun t k => Jvm.Free.XT.ior X.here C.1 rfl (hb C.2.1 hd) rfl k
theorem k_ixor (C : own_C p s m meth c Z own nm code ml rt) (X : own_S p l e R s m args below meth c Z T L k n) {x y : Int32} (hd : decode code pc = .ok (.ixor, 1)) (hp : pc + 1 = npc) (g : own_Go p.tables e below P (T.setTop (mkF m npc ls (.int (x ^^^ y) :: st)))) : own_Go p.tables e below P (T.setTop (mkF m pc ls (.int y :: .int x :: st))) := by
  subst hp; obtain ⟨_, X, -, -⟩ := X
  exact g.st fun t k => Jvm.Free.XT.ixor X.here C.1 rfl (hb C.2.1 hd) rfl k
theorem k_ishl (C : own_C p s m meth c Z own nm code ml rt) (X : own_S p l e R s m args below meth c Z T L k n) {x y : Int32} (hd : decode code pc = .ok (.ishl, 1)) (hp : pc + 1 = npc) (g : own_Go p.tables e below P (T.setTop (mkF m npc ls (.int (x <<< (y &&& 31)) :: st)))) : own_Go p.tables e below P (T.setTop (mkF m pc ls (.int y :: .int x :: st))) := by
  subst hp; obtain ⟨_, X, -, -⟩ := X
  exact g.st fun t k => Jvm.Free.XT.ishl X.here C.1 rfl (hb C.2.1 hd) rfl k
theorem k_ishr (C : own_C p s m meth c Z own nm code ml rt) (X : own_S p l e R s m args below meth c Z T L k n) {x y : Int32} (hd : decode code pc = .ok (.ishr, 1)) (hp : pc + 1 = npc) (g : own_Go p.tables e below P (T.setTop (mkF m npc ls (.int (x >>> (y &&& 31)) :: st)))) : own_Go p.tables e below P (T.setTop (mkF m pc ls (.int y :: .int x :: st))) := by
  subst hp; obtain ⟨_, X, -, -⟩ := X
  exact g.st fun t k => Jvm.Free.XT.ishr X.here C.1 rfl (hb C.2.1 hd) rfl k
theorem k_iushr (C : own_C p s m meth c Z own nm code ml rt) (X : own_S p l e R s m args below meth c Z T L k n) {x y : Int32} (hd : decode code pc = .ok (.iushr, 1)) (hp : pc + 1 = npc) (g : own_Go p.tables e below P (T.setTop (mkF m npc ls (.int (Jvm.Free.XT.ushr x y) :: st)))) : own_Go p.tables e below P (T.setTop (mkF m pc ls (.int y :: .int x :: st))) := by
  subst hp; obtain ⟨_, X, -, -⟩ := X
  exact g.st fun t k => Jvm.Free.XT.iushr X.here C.1 rfl (hb C.2.1 hd) rfl k
theorem k_ladd (C : own_C p s m meth c Z own nm code ml rt) (X : own_S p l e R s m args below meth c Z T L k n) {x y : Int64} (hd : decode code pc = .ok (.ladd, 1)) (hp : pc + 1 = npc) (g : own_Go p.tables e below P (T.setTop (mkF m npc ls (.long (x + y) :: st)))) : own_Go p.tables e below P (T.setTop (mkF m pc ls (.long y :: .long x :: st))) := by
  subst hp; obtain ⟨_, X, -, -⟩ := X
  exact g.st fun t k => Jvm.Free.XT.ladd X.here C.1 rfl (hb C.2.1 hd) rfl k
theorem k_lsub (C : own_C p s m meth c Z own nm code ml rt) (X : own_S p l e R s m args below meth c Z T L k n) {x y : Int64} (hd : decode code pc = .ok (.lsub, 1)) (hp : pc + 1 = npc) (g : own_Go p.tables e below P (T.setTop (mkF m npc ls (.long (x - y) :: st)))) : own_Go p.tables e below P (T.setTop (mkF m pc ls (.long y :: .long x :: st))) := by
  subst hp; obtain ⟨_, X, -, -⟩ := X
  exact g.st fun t k => Jvm.Free.XT.lsub X.here C.1 rfl (hb C.2.1 hd) rfl k
theorem k_lmul (C : own_C p s m meth c Z own nm code ml rt) (X : own_S p l e R s m args below meth c Z T L k n) {x y : Int64} (hd : decode code pc = .ok (.lmul, 1)) (hp : pc + 1 = npc) (g : own_Go p.tables e below P (T.setTop (mkF m npc ls (.long (x * y) :: st)))) : own_Go p.tables e below P (T.setTop (mkF m pc ls (.long y :: .long x :: st))) := by
  subst hp; obtain ⟨_, X, -, -⟩ := X
  exact g.st fun t k => Jvm.Free.XT.lmul X.here C.1 rfl (hb C.2.1 hd) rfl k
theorem k_land (C : own_C p s m meth c Z own nm code ml rt) (X : own_S p l e R s m args below meth c Z T L k n) {x y : Int64} (hd : decode code pc = .ok (.land, 1)) (hp : pc + 1 = npc) (g : own_Go p.tables e below P (T.setTop (mkF m npc ls (.long (x &&& y) :: st)))) : own_Go p.tables e below P (T.setTop (mkF m pc ls (.long y :: .long x :: st))) := by
  subst hp; obtain ⟨_, X, -, -⟩ := X
  exact g.st fun t k => Jvm.Free.XT.land X.here C.1 rfl (hb C.2.1 hd) rfl k
theorem k_lor (C : own_C p s m meth c Z own nm code ml rt) (X : own_S p l e R s m args below meth c Z T L k n) {x y : Int64} (hd : decode code pc = .ok (.lor, 1)) (hp : pc + 1 = npc) (g : own_Go p.tables e below P (T.setTop (mkF m npc ls (.long (x ||| y) :: st)))) : own_Go p.tables e below P (T.setTop (mkF m pc ls (.long y :: .long x :: st))) := by
  subst hp; obtain ⟨_, X, -, -⟩ := X
  exact g.st fun t k => Jvm.Free.XT.lor X.here C.1 rfl (hb C.2.1 hd) rfl k
theorem k_lxor (C : own_C p s m meth c Z own nm code ml rt) (X : own_S p l e R s m args below meth c Z T L k n) {x y : Int64} (hd : decode code pc = .ok (.lxor, 1)) (hp : pc + 1 = npc) (g : own_Go p.tables e below P (T.setTop (mkF m npc ls (.long (x ^^^ y) :: st)))) : own_Go p.tables e below P (T.setTop (mkF m pc ls (.long y :: .long x :: st))) := by
  subst hp; obtain ⟨_, X, -, -⟩ := X
  exact g.st fun t k => Jvm.Free.XT.lxor X.here C.1 rfl (hb C.2.1 hd) rfl k
theorem k_lshl (C : own_C p s m meth c Z own nm code ml rt) (X : own_S p l e R s m args below meth c Z T L k n) {x : Int64} {y : Int32} (hd : decode code pc = .ok (.lshl, 1)) (hp : pc + 1 = npc) (g : own_Go p.tables e below P (T.setTop (mkF m npc ls (.long (x <<< (y.toInt64 &&& 63)) :: st)))) : own_Go p.tables e below P (T.setTop (mkF m pc ls (.int y :: .long x :: st))) := by
  subst hp; obtain ⟨_, X, -, -⟩ := X
  exact g.st fun t k => Jvm.Free.XT.lshl X.here C.1 rfl (hb C.2.1 hd) rfl k
theorem k_lshr (C : own_C p s m meth c Z own nm code ml rt) (X : own_S p l e R s m args below meth c Z T L k n) {x : Int64} {y : Int32} (hd : decode code pc = .ok (.lshr, 1)) (hp : pc + 1 = npc) (g : own_Go p.tables e below P (T.setTop (mkF m npc ls (.long (x >>> (y.toInt64 &&& 63)) :: st)))) : own_Go p.tables e below P (T.setTop (mkF m pc ls (.int y :: .long x :: st))) := by
  subst hp; obtain ⟨_, X, -, -⟩ := X
  exact g.st fun t k => Jvm.Free.XT.lshr X.here C.1 rfl (hb C.2.1 hd) rfl k
theorem k_lushr (C : own_C p s m meth c Z own nm code ml rt) (X : own_S p l e R s m args below meth c Z T L k n) {x : Int64} {y : Int32} (hd : decode code pc = .ok (.lushr, 1)) (hp : pc + 1 = npc) (g : own_Go p.tables e below P (T.setTop (mkF m npc ls (.long (Jvm.Free.XT.ushrL x y) :: st)))) : own_Go p.tables e below P (T.setTop (mkF m pc ls (.int y :: .long x :: st))) := by
  subst hp; obtain ⟨_, X, -, -⟩ := X
  exact g.st fun t k => Jvm.Free.XT.lushr X.here C.1 rfl (hb C.2.1 hd) rfl k
theorem k_idiv (C : own_C p s m meth c Z own nm code ml rt) (X : own_S p l e R s m args below meth c Z T L k n) {x y : Int32} (hd : decode code pc = .ok (.idiv, 1)) (hp : pc + 1 = npc) (hy : y ≠ 0) (g : own_Go p.tables e below P (T.setTop (mkF m npc ls (.int (x / y) :: st)))) : own_Go p.tables e below P (T.setTop (mkF m pc ls (.int y :: .int x :: st))) := by
  subst hp; obtain ⟨_, X, -, -⟩ := X
  exact g.st fun t k => Jvm.Free.XS.idiv X.here C.1 rfl (hb C.2.1 hd) rfl hy k
theorem k_irem (C : own_C p s m meth c Z own nm code ml rt) (X : own_S p l e R s m args below meth c Z T L k n) {x y : Int32} (hd : decode code pc = .ok (.irem, 1)) (hp : pc + 1 = npc) (hy : y ≠ 0) (g : own_Go p.tables e below P (T.setTop (mkF m npc ls (.int (x % y) :: st)))) : own_Go p.tables e below P (T.setTop (mkF m pc ls (.int y :: .int x :: st))) := by
  subst hp; obtain ⟨_, X, -, -⟩ := X
  exact g.st fun t k => iremM X C.1 rfl (hb C.2.1 hd) rfl hy k
theorem k_ldiv (C : own_C p s m meth c Z own nm code ml rt) (X : own_S p l e R s m args below meth c Z T L k n) {x y : Int64} (hd : decode code pc = .ok (.ldiv, 1)) (hp : pc + 1 = npc) (hy : y ≠ 0) (g : own_Go p.tables e below P (T.setTop (mkF m npc ls (.long (x / y) :: st)))) : own_Go p.tables e below P (T.setTop (mkF m pc ls (.long y :: .long x :: st))) := by
  subst hp; obtain ⟨_, X, -, -⟩ := X
  exact g.st fun t k => Jvm.Free.XT.ldiv X.here C.1 rfl (hb C.2.1 hd) rfl hy k
theorem k_lrem (C : own_C p s m meth c Z own nm code ml rt) (X : own_S p l e R s m args below meth c Z T L k n) {x y : Int64} (hd : decode code pc = .ok (.lrem, 1)) (hp : pc + 1 = npc) (hy : y ≠ 0) (g : own_Go p.tables e below P (T.setTop (mkF m npc ls (.long (x - (x / y) * y) :: st)))) : own_Go p.tables e below P (T.setTop (mkF m pc ls (.long y :: .long x :: st))) := by
  subst hp; obtain ⟨_, X, -, -⟩ := X
  exact g.st fun t k => Jvm.Free.XT.lrem X.here C.1 rfl (hb C.2.1 hd) rfl hy k
theorem k_ineg (C : own_C p s m meth c Z own nm code ml rt) (X : own_S p l e R s m args below meth c Z T L k n) {x : Int32} (hd : decode code pc = .ok (.ineg, 1)) (hp : pc + 1 = npc) (g : own_Go p.tables e below P (T.setTop (mkF m npc ls (.int (-x) :: st)))) : own_Go p.tables e below P (T.setTop (mkF m pc ls (.int x :: st))) := by
  subst hp; obtain ⟨_, X, -, -⟩ := X
  exact g.st fun t k => Jvm.Free.XS.ineg X.here C.1 rfl (hb C.2.1 hd) rfl k
theorem k_lneg (C : own_C p s m meth c Z own nm code ml rt) (X : own_S p l e R s m args below meth c Z T L k n) {x : Int64} (hd : decode code pc = .ok (.lneg, 1)) (hp : pc + 1 = npc) (g : own_Go p.tables e below P (T.setTop (mkF m npc ls (.long (-x) :: st)))) : own_Go p.tables e below P (T.setTop (mkF m pc ls (.long x :: st))) := by
  subst hp; obtain ⟨_, X, -, -⟩ := X
  exact g.st fun t k => Jvm.Free.XT.lneg X.here C.1 rfl (hb C.2.1 hd) rfl k
theorem k_i2l (C : own_C p s m meth c Z own nm code ml rt) (X : own_S p l e R s m args below meth c Z T L k n) {x : Int32} (hd : decode code pc = .ok (.i2l, 1)) (hp : pc + 1 = npc) (g : own_Go p.tables e below P (T.setTop (mkF m npc ls (.long x.toInt64 :: st)))) : own_Go p.tables e below P (T.setTop (mkF m pc ls (.int x :: st))) := by
  subst hp; obtain ⟨_, X, -, -⟩ := X
  exact g.st fun t k => Jvm.Free.XT.i2l X.here C.1 rfl (hb C.2.1 hd) rfl k
theorem k_l2i (C : own_C p s m meth c Z own nm code ml rt) (X : own_S p l e R s m args below meth c Z T L k n) {x : Int64} (hd : decode code pc = .ok (.l2i, 1)) (hp : pc + 1 = npc) (g : own_Go p.tables e below P (T.setTop (mkF m npc ls (.int x.toInt32 :: st)))) : own_Go p.tables e below P (T.setTop (mkF m pc ls (.long x :: st))) := by
  subst hp; obtain ⟨_, X, -, -⟩ := X
  exact g.st fun t k => Jvm.Free.XT.l2i X.here C.1 rfl (hb C.2.1 hd) rfl k
theorem k_i2b (C : own_C p s m meth c Z own nm code ml rt) (X : own_S p l e R s m args below meth c Z T L k n) {x : Int32} (hd : decode code pc = .ok (.i2b, 1)) (hp : pc + 1 = npc) (g : own_Go p.tables e below P (T.setTop (mkF m npc ls (.int x.toInt8.toInt32 :: st)))) : own_Go p.tables e below P (T.setTop (mkF m pc ls (.int x :: st))) := by
  subst hp; obtain ⟨_, X, -, -⟩ := X
  exact g.st fun t k => Jvm.Free.XT.i2b X.here C.1 rfl (hb C.2.1 hd) rfl k
theorem k_i2c (C : own_C p s m meth c Z own nm code ml rt) (X : own_S p l e R s m args below meth c Z T L k n) {x : Int32} (hd : decode code pc = .ok (.i2c, 1)) (hp : pc + 1 = npc) (g : own_Go p.tables e below P (T.setTop (mkF m npc ls (.int x.toUInt32.toUInt16.toUInt32.toInt32 :: st)))) : own_Go p.tables e below P (T.setTop (mkF m pc ls (.int x :: st))) := by
  subst hp; obtain ⟨_, X, -, -⟩ := X
  exact g.st fun t k => Jvm.Free.XT.i2c X.here C.1 rfl (hb C.2.1 hd) rfl k
theorem k_i2s (C : own_C p s m meth c Z own nm code ml rt) (X : own_S p l e R s m args below meth c Z T L k n) {x : Int32} (hd : decode code pc = .ok (.i2s, 1)) (hp : pc + 1 = npc) (g : own_Go p.tables e below P (T.setTop (mkF m npc ls (.int x.toInt16.toInt32 :: st)))) : own_Go p.tables e below P (T.setTop (mkF m pc ls (.int x :: st))) := by
  subst hp; obtain ⟨_, X, -, -⟩ := X
  exact g.st fun t k => Jvm.Free.XT.i2s X.here C.1 rfl (hb C.2.1 hd) rfl k
theorem k_i2d (C : own_C p s m meth c Z own nm code ml rt) (X : own_S p l e R s m args below meth c Z T L k n) {x : Int32} (hd : decode code pc = .ok (.i2d, 1)) (hp : pc + 1 = npc) (g : own_Go p.tables e below P (T.setTop (mkF m npc ls (.double (FP.i2d x) :: st)))) : own_Go p.tables e below P (T.setTop (mkF m pc ls (.int x :: st))) := by
  subst hp; obtain ⟨_, X, -, -⟩ := X
  exact g.st fun t k => Jvm.Free.XS.i2dS X.here C.1 rfl (hb C.2.1 hd) rfl rfl k
theorem k_l2d (C : own_C p s m meth c Z own nm code ml rt) (X : own_S p l e R s m args below meth c Z T L k n) {x : Int64} (hd : decode code pc = .ok (.l2d, 1)) (hp : pc + 1 = npc) (g : own_Go p.tables e below P (T.setTop (mkF m npc ls (.double (FP.l2d x) :: st)))) : own_Go p.tables e below P (T.setTop (mkF m pc ls (.long x :: st))) := by
  subst hp; obtain ⟨_, X, -, -⟩ := X
  exact g.st fun t k => Jvm.Free.XS.l2dS X.here C.1 rfl (hb C.2.1 hd) rfl rfl k
theorem k_d2i (C : own_C p s m meth c Z own nm code ml rt) (X : own_S p l e R s m args below meth c Z T L k n) {x : UInt64} (hd : decode code pc = .ok (.d2i, 1)) (hp : pc + 1 = npc) (g : own_Go p.tables e below P (T.setTop (mkF m npc ls (.int (FP.d2i x) :: st)))) : own_Go p.tables e below P (T.setTop (mkF m pc ls (.double x :: st))) := by
  subst hp; obtain ⟨_, X, -, -⟩ := X
  exact g.st fun t k => Jvm.Free.XS.d2iS X.here C.1 rfl (hb C.2.1 hd) rfl rfl k
theorem k_d2l (C : own_C p s m meth c Z own nm code ml rt) (X : own_S p l e R s m args below meth c Z T L k n) {x : UInt64} (hd : decode code pc = .ok (.d2l, 1)) (hp : pc + 1 = npc) (g : own_Go p.tables e below P (T.setTop (mkF m npc ls (.long (FP.d2l x) :: st)))) : own_Go p.tables e below P (T.setTop (mkF m pc ls (.double x :: st))) := by
  subst hp; obtain ⟨_, X, -, -⟩ := X
  exact g.st fun t k => Jvm.Free.XS.d2lS X.here C.1 rfl (hb C.2.1 hd) rfl rfl k
theorem k_dneg (C : own_C p s m meth c Z own nm code ml rt) (X : own_S p l e R s m args below meth c Z T L k n) {x : UInt64} (hd : decode code pc = .ok (.dneg, 1)) (hp : pc + 1 = npc) (g : own_Go p.tables e below P (T.setTop (mkF m npc ls (.double (FP.dneg x) :: st)))) : own_Go p.tables e below P (T.setTop (mkF m pc ls (.double x :: st))) := by
  subst hp; obtain ⟨_, X, -, -⟩ := X
  exact g.st fun t k => Jvm.Free.XS.dnegS X.here C.1 rfl (hb C.2.1 hd) rfl rfl k
theorem k_lcmp (C : own_C p s m meth c Z own nm code ml rt) (X : own_S p l e R s m args below meth c Z T L k n) {x y : Int64} (hd : decode code pc = .ok (.lcmp, 1)) (hp : pc + 1 = npc) (g : own_Go p.tables e below P (T.setTop (mkF m npc ls (.int (Jvm.Free.XT.cmpL x y) :: st)))) : own_Go p.tables e below P (T.setTop (mkF m pc ls (.long y :: .long x :: st))) := by
  subst hp; obtain ⟨_, X, -, -⟩ := X
  exact g.st fun t k => Jvm.Free.XT.lcmp X.here C.1 rfl (hb C.2.1 hd) rfl k
theorem k_dcmpl (C : own_C p s m meth c Z own nm code ml rt) (X : own_S p l e R s m args below meth c Z T L k n) {x y : UInt64} (hd : decode code pc = .ok (.dcmp .l, 1)) (hp : pc + 1 = npc) (g : own_Go p.tables e below P (T.setTop (mkF m npc ls (.int (FP.cmpInt (-1) (FP.dcmp x y)) :: st)))) : own_Go p.tables e below P (T.setTop (mkF m pc ls (.double y :: .double x :: st))) := by
  subst hp; obtain ⟨_, X, -, -⟩ := X
  exact g.st fun t k => Jvm.Free.XS.dcmpS X.here C.1 rfl (hb C.2.1 hd) rfl (cmpV_l _) k
theorem k_dcmpg (C : own_C p s m meth c Z own nm code ml rt) (X : own_S p l e R s m args below meth c Z T L k n) {x y : UInt64} (hd : decode code pc = .ok (.dcmp .g, 1)) (hp : pc + 1 = npc) (g : own_Go p.tables e below P (T.setTop (mkF m npc ls (.int (FP.cmpInt 1 (FP.dcmp x y)) :: st)))) : own_Go p.tables e below P (T.setTop (mkF m pc ls (.double y :: .double x :: st))) := by
  subst hp; obtain ⟨_, X, -, -⟩ := X
  exact g.st fun t k => Jvm.Free.XS.dcmpS X.here C.1 rfl (hb C.2.1 hd) rfl (cmpV_g _) k
theorem k_dadd (C : own_C p s m meth c Z own nm code ml rt) (X : own_S p l e R s m args below meth c Z T L k n) {x y : UInt64} (hd : decode code pc = .ok (.dadd, 1)) (hp : pc + 1 = npc) (hn : Jvm.Free.Fl.NoNaN64 (FP.dadd x y)) (g : ∀ v, v = FP.dadd x y → own_Go p.tables e below P (T.setTop (mkF m npc ls (.double v :: st)))) : own_Go p.tables e below P (T.setTop (mkF m pc ls (.double y :: .double x :: st))) := by
  subst hp; obtain ⟨_, X, -, -⟩ := X
  exact (g _ rfl).st fun t k => Jvm.Free.XS.daddS X.here C.1 rfl (hb C.2.1 hd) rfl hn rfl k
theorem k_dsub (C : own_C p s m meth c Z own nm code ml rt) (X : own_S p l e R s m args below meth c Z T L k n) {x y : UInt64} (hd : decode code pc = .ok (.dsub, 1)) (hp : pc + 1 = npc) (hn : Jvm.Free.Fl.NoNaN64 (FP.dsub x y)) (g : ∀ v, v = FP.dsub x y → own_Go p.tables e below P (T.setTop (mkF m npc ls (.double v :: st)))) : own_Go p.tables e below P (T.setTop (mkF m pc ls (.double y :: .double x :: st))) := by
  subst hp; obtain ⟨_, X, -, -⟩ := X
  exact (g _ rfl).st fun t k => Jvm.Free.XS.dsubS X.here C.1 rfl (hb C.2.1 hd) rfl hn rfl k
theorem k_dmul (C : own_C p s m meth c Z own nm code ml rt) (X : own_S p l e R s m args below meth c Z T L k n) {x y : UInt64} (hd : decode code pc = .ok (.dmul, 1)) (hp : pc + 1 = npc) (hn : Jvm.Free.Fl.NoNaN64 (FP.dmul x y)) (g : ∀ v, v = FP.dmul x y → own_Go p.tables e below P (T.setTop (mkF m npc ls (.double v :: st)))) : own_Go p.tables e below P (T.setTop (mkF m pc ls (.double y :: .double x :: st))) := by
  subst hp; obtain ⟨_, X, -, -⟩ := X
  exact (g _ rfl).st fun t k => Jvm.Free.XS.dmulS X.here C.1 rfl (hb C.2.1 hd) rfl hn rfl k
theorem k_ddiv (C : own_C p s m meth c Z own nm code ml rt) (X : own_S p l e R s m args below meth c Z T L k n) {x y : UInt64} (hd : decode code pc = .ok (.ddiv, 1)) (hp : pc + 1 = npc) (hn : Jvm.Free.Fl.NoNaN64 (FP.ddiv x y)) (g : ∀ v, v = FP.ddiv x y → own_Go p.tables e below P (T.setTop (mkF m npc ls (.double v :: st)))) : own_Go p.tables e below P (T.setTop (mkF m pc ls (.double y :: .double x :: st))) := by
  subst hp; obtain ⟨_, X, -, -⟩ := X
  exact (g _ rfl).st fun t k => Jvm.Free.XS.ddivS X.here C.1 rfl (hb C.2.1 hd) rfl hn rfl k
theorem k_daddE (C : own_C p s m meth c Z own nm code ml rt) (X : own_S p l e R s m args below meth c Z T L k n) {x y : UInt64} (hd : decode code pc = .ok (.dadd, 1)) (hp : pc + 1 = npc) (hn : Jvm.Free.Fl.NoNaN64 (FP.dadd x y)) (g : own_Go p.tables e below P (T.setTop (mkF m npc ls (.double (FP.dadd x y) :: st)))) : own_Go p.tables e below P (T.setTop (mkF m pc ls (.double y :: .double x :: st))) := by
  subst hp; obtain ⟨_, X, -, -⟩ := X
  exact g.st fun t k => Jvm.Free.XS.daddS X.here C.1 rfl (hb C.2.1 hd) rfl hn rfl k
theorem k_dsubE (C : own_C p s m meth c Z own nm code ml rt) (X : own_S p l e R s m args below meth c Z T L k n) {x y : UInt64} (hd : decode code pc = .ok (.dsub, 1)) (hp : pc + 1 = npc) (hn : Jvm.Free.Fl.NoNaN64 (FP.dsub x y)) (g : own_Go p.tables e below P (T.setTop (mkF m npc ls (.double (FP.dsub x y) :: st)))) : own_Go p.tables e below P (T.setTop (mkF m pc ls (.double y :: .double x :: st))) := by
  subst hp; obtain ⟨_, X, -, -⟩ := X
  exact g.st fun t k => Jvm.Free.XS.dsubS X.here C.1 rfl (hb C.2.1 hd) rfl hn rfl k
theorem k_dmulE (C : own_C p s m meth c Z own nm code ml rt) (X : own_S p l e R s m args below meth c Z T L k n) {x y : UInt64} (hd : decode code pc = .ok (.dmul, 1)) (hp : pc + 1 = npc) (hn : Jvm.Free.Fl.NoNaN64 (FP.dmul x y)) (g : own_Go p.tables e below P (T.setTop (mkF m npc ls (.double (FP.dmul x y) :: st)))) : own_Go p.tables e below P (T.setTop (mkF m pc ls (.double y :: .double x :: st))) := by
  subst hp; obtain ⟨_, X, -, -⟩ := X
  exact g.st fun t k => Jvm.Free.XS.dmulS X.here C.1 rfl (hb C.2.1 hd) rfl hn rfl k
theorem k_ddivE (C : own_C p s m meth c Z own nm code ml rt) (X : own_S p l e R s m args below meth c Z T L k n) {x y : UInt64} (hd : decode code pc = .ok (.ddiv, 1)) (hp : pc + 1 = npc) (hn : Jvm.Free.Fl.NoNaN64 (FP.ddiv x y)) (g : own_Go p.tables e below P (T.setTop (mkF m npc ls (.double (FP.ddiv x y) :: st)))) : own_Go p.tables e below P (T.setTop (mkF m pc ls (.double y :: .double x :: st))) := by
  subst hp; obtain ⟨_, X, -, -⟩ := X
  exact g.st fun t k => Jvm.Free.XS.ddivS X.here C.1 rfl (hb C.2.1 hd) rfl hn rfl k
theorem k_iconst (C : own_C p s m meth c Z own nm code ml rt) (X : own_S p l e R s m args below meth c Z T L k n) {i : Int} {v : Int32} (hd : decode code pc = .ok (.iconst i, 1)) (hp : pc + 1 = npc) (hv : Int32.ofInt i = v) (g : own_Go p.tables e below P (T.setTop (mkF m npc ls (.int v :: st)))) : own_Go p.tables e below P (T.setTop (mkF m pc ls (st))) := by
  subst hp; obtain ⟨_, X, -, -⟩ := X
  exact g.st fun t k => Jvm.Free.XT.iconstV X.here C.1 rfl v (hb C.2.1 hd) hv k
theorem k_bipush (C : own_C p s m meth c Z own nm code ml rt) (X : own_S p l e R s m args below meth c Z T L k n) {i : Int} {v : Int32} (hd : decode code pc = .ok (.bipush i, 2)) (hp : pc + 2 = npc) (hv : (Int8.ofInt i).toInt32 = v) (g : own_Go p.tables e below P (T.setTop (mkF m npc ls (.int v :: st)))) : own_Go p.tables e below P (T.setTop (mkF m pc ls (st))) := by
  subst hp; obtain ⟨_, X, -, -⟩ := X
  exact g.st fun t k => Jvm.Free.XT.bipushV X.here C.1 rfl v (hb C.2.1 hd) hv k
theorem k_sipush (C : own_C p s m meth c Z own nm code ml rt) (X : own_S p l e R s m args below meth c Z T L k n) {i : Int} {v : Int32} (hd : decode code pc = .ok (.sipush i, 3)) (hp : pc + 3 = npc) (hv : (Int16.ofInt i).toInt32 = v) (g : own_Go p.tables e below P (T.setTop (mkF m npc ls (.int v :: st)))) : own_Go p.tables e below P (T.setTop (mkF m pc ls (st))) := by
  subst hp; obtain ⟨_, X, -, -⟩ := X
  exact g.st fun t k => Jvm.Free.XT.sipushV X.here C.1 rfl v (hb C.2.1 hd) hv k
theorem k_lconst (C : own_C p s m meth c Z own nm code ml rt) (X : own_S p l e R s m args below meth c Z T L k n) {i : Fin 2} {v : Int64} (hd : decode code pc = .ok (.lconst i, 1)) (hp : pc + 1 = npc) (hv : Int64.ofNat i = v) (g : own_Go p.tables e below P (T.setTop (mkF m npc ls (.long v :: st)))) : own_Go p.tables e below P (T.setTop (mkF m pc ls (st))) := by
  subst hp; obtain ⟨_, X, -, -⟩ := X
  exact g.st fun t k => Jvm.Free.XT.lconstV X.here C.1 rfl v (hb C.2.1 hd) hv k
theorem k_dconst0 (C : own_C p s m meth c Z own nm code ml rt) (X : own_S p l e R s m args below meth c Z T L k n) (hd : decode code pc = .ok (.dconst 0, 1)) (hp : pc + 1 = npc) (g : own_Go p.tables e below P (T.setTop (mkF m npc ls (.double 0 :: st)))) : own_Go p.tables e below P (T.setTop (mkF m pc ls (st))) := by
  subst hp; obtain ⟨_, X, -, -⟩ := X
  exact g.st fun t k => Jvm.Free.XS.dconst0 X.here C.1 rfl (hb C.2.1 hd) rfl k
theorem k_dconst1 (C : own_C p s m meth c Z own nm code ml rt) (X : own_S p l e R s m args below meth c Z T L k n) (hd : decode code pc = .ok (.dconst 1, 1)) (hp : pc + 1 = npc) (g : own_Go p.tables e below P (T.setTop (mkF m npc ls (.double 4607182418800017408 :: st)))) : own_Go p.tables e below P (T.setTop (mkF m pc ls (st))) := by
  subst hp; obtain ⟨_, X, -, -⟩ := X
  exact g.st fun t k => Jvm.Free.XS.dconst1 X.here C.1 rfl (hb C.2.1 hd) rfl k
theorem k_aconst_null (C : own_C p s m meth c Z own nm code ml rt) (X : own_S p l e R s m args below meth c Z T L k n) (hd : decode code pc = .ok (.aconst_null, 1)) (hp : pc + 1 = npc) (g : own_Go p.tables e below P (T.setTop (mkF m npc ls (.null :: st)))) : own_Go p.tables e below P (T.setTop (mkF m pc ls (st))) := by
  subst hp; obtain ⟨_, X, -, -⟩ := X
  exact g.st fun t k => Jvm.Free.XS.aconstNull X.here C.1 rfl (hb C.2.1 hd)  k
theorem k_pop (C : own_C p s m meth c Z own nm code ml rt) (X : own_S p l e R s m args below meth c Z T L k n) {x : Value} (hd : decode code pc = .ok (.pop, 1)) (hp : pc + 1 = npc) (hc : x.category = 1) (g : own_Go p.tables e below P (T.setTop (mkF m npc ls (st)))) : own_Go p.tables e below P (T.setTop (mkF m pc ls (x :: st))) := by
  subst hp; obtain ⟨_, X, -, -⟩ := X
  exact g.st fun t k => Jvm.Free.XT.pop X.here C.1 rfl (hb C.2.1 hd) rfl hc k
theorem k_dup (C : own_C p s m meth c Z own nm code ml rt) (X : own_S p l e R s m args below meth c Z T L k n) {x : Value} (hd : decode code pc = .ok (.dup, 1)) (hp : pc + 1 = npc) (hc : x.category = 1) (g : own_Go p.tables e below P (T.setTop (mkF m npc ls (x :: x :: st)))) : own_Go p.tables e below P (T.setTop (mkF m pc ls (x :: st))) := by
  subst hp; obtain ⟨_, X, -, -⟩ := X
  exact g.st fun t k => Jvm.Free.XS.dup X.here C.1 rfl (hb C.2.1 hd) rfl hc k
theorem k_dup_x1 (C : own_C p s m meth c Z own nm code ml rt) (X : own_S p l e R s m args below meth c Z T L k n) {x y : Value} (hd : decode code pc = .ok (.dup_x1, 1)) (hp : pc + 1 = npc) (hc : x.category = 1) (hc' : y.category = 1) (g : own_Go p.tables e below P (T.setTop (mkF m npc ls (x :: y :: x :: st)))) : own_Go p.tables e below P (T.setTop (mkF m pc ls (x :: y :: st))) := by
  subst hp; obtain ⟨_, X, -, -⟩ := X
  exact g.st fun t k => Jvm.Free.XT.dupX1 X.here C.1 rfl (hb C.2.1 hd) rfl hc hc' k
theorem k_dup2 (C : own_C p s m meth c Z own nm code ml rt) (X : own_S p l e R s m args below meth c Z T L k n) {x y : Value} (hd : decode code pc = .ok (.dup2, 1)) (hp : pc + 1 = npc) (hc : x.category = 1) (hc' : y.category = 1) (g : own_Go p.tables e below P (T.setTop (mkF m npc ls (x :: y :: x :: y :: st)))) : own_Go p.tables e below P (T.setTop (mkF m pc ls (x :: y :: st))) := by
  subst hp; obtain ⟨_, X, -, -⟩ := X
  exact g.st fun t k => Jvm.Free.XT.dup2 X.here C.1 rfl (hb C.2.1 hd) rfl hc hc' k
theorem k_iload (C : own_C p s m meth c Z own nm code ml rt) (X : own_S p l e R s m args below meth c Z T L k n) {i : Nat} {v : Int32} (hd : decode code pc = .ok (.iload i, 2)) (hp : pc + 2 = npc) (hl : ls[i]? = some (.val (.int v))) (g : own_Go p.tables e below P (T.setTop (mkF m npc ls (.int v :: st)))) : own_Go p.tables e below P (T.setTop (mkF m pc ls (st))) := by
  subst hp; obtain ⟨_, X, -, -⟩ := X
  exact g.st fun t k => Jvm.Free.XS.iload X.here C.1 rfl (hb C.2.1 hd) hl k
theorem k_istore (C : own_C p s m meth c Z own nm code ml rt) (X : own_S p l e R s m args below meth c Z T L k n) {i : Nat} {v : Int32} {l' : Array Slot} (hd : decode code pc = .ok (.istore i, 2)) (hp : pc + 2 = npc) (hl : storeLocals ls i (.int v) = some l') (g : own_Go p.tables e below P (T.setTop (mkF m npc l' st))) : own_Go p.tables e below P (T.setTop (mkF m pc ls (.int v :: st))) := by
  subst hp; obtain ⟨_, X, -, -⟩ := X
  exact g.st fun t k => Jvm.Free.XS.istore X.here C.1 rfl (hb C.2.1 hd) rfl hl k
theorem k_iloadN (C : own_C p s m meth c Z own nm code ml rt) (X : own_S p l e R s m args below meth c Z T L k n) {i : Fin 4} {v : Int32} (hd : decode code pc = .ok (.iload_n i, 1)) (hp : pc + 1 = npc) (hl : ls[i.val]? = some (.val (.int v))) (g : own_Go p.tables e below P (T.setTop (mkF m npc ls (.int v :: st)))) : own_Go p.tables e below P (T.setTop (mkF m pc ls (st))) := by
  subst hp; obtain ⟨_, X, -, -⟩ := X
  exact g.st fun t k => Jvm.Free.XS.iloadN X.here C.1 rfl (hb C.2.1 hd) hl k
theorem k_istoreN (C : own_C p s m meth c Z own nm code ml rt) (X : own_S p l e R s m args below meth c Z T L k n) {i : Fin 4} {v : Int32} {l' : Array Slot} (hd : decode code pc = .ok (.istore_n i, 1)) (hp : pc + 1 = npc) (hl : storeLocals ls i.val (.int v) = some l') (g : own_Go p.tables e below P (T.setTop (mkF m npc l' st))) : own_Go p.tables e below P (T.setTop (mkF m pc ls (.int v :: st))) := by
  subst hp; obtain ⟨_, X, -, -⟩ := X
  exact g.st fun t k => Jvm.Free.XS.istoreN X.here C.1 rfl (hb C.2.1 hd) rfl hl k
theorem k_lload (C : own_C p s m meth c Z own nm code ml rt) (X : own_S p l e R s m args below meth c Z T L k n) {i : Nat} {v : Int64} (hd : decode code pc = .ok (.lload i, 2)) (hp : pc + 2 = npc) (hl : ls[i]? = some (.val (.long v))) (g : own_Go p.tables e below P (T.setTop (mkF m npc ls (.long v :: st)))) : own_Go p.tables e below P (T.setTop (mkF m pc ls (st))) := by
  subst hp; obtain ⟨_, X, -, -⟩ := X
  exact g.st fun t k => Jvm.Free.XT.lload X.here C.1 rfl (hb C.2.1 hd) hl k
theorem k_lstore (C : own_C p s m meth c Z own nm code ml rt) (X : own_S p l e R s m args below meth c Z T L k n) {i : Nat} {v : Int64} {l' : Array Slot} (hd : decode code pc = .ok (.lstore i, 2)) (hp : pc + 2 = npc) (hl : storeLocals ls i (.long v) = some l') (g : own_Go p.tables e below P (T.setTop (mkF m npc l' st))) : own_Go p.tables e below P (T.setTop (mkF m pc ls (.long v :: st))) := by
  subst hp; obtain ⟨_, X, -, -⟩ := X
  exact g.st fun t k => Jvm.Free.XT.lstore X.here C.1 rfl (hb C.2.1 hd) rfl hl k
theorem k_lloadN (C : own_C p s m meth c Z own nm code ml rt) (X : own_S p l e R s m args below meth c Z T L k n) {i : Fin 4} {v : Int64} (hd : decode code pc = .ok (.lload_n i, 1)) (hp : pc + 1 = npc) (hl : ls[i.val]? = some (.val (.long v))) (g : own_Go p.tables e below P (T.setTop (mkF m npc ls (.long v :: st)))) : own_Go p.tables e below P (T.setTop (mkF m pc ls (st))) := by
  subst hp; obtain ⟨_, X, -, -⟩ := X
  exact g.st fun t k => Jvm.Free.XT.lloadN X.here C.1 rfl (hb C.2.1 hd) hl k
theorem k_lstoreN (C : own_C p s m meth c Z own nm code ml rt) (X : own_S p l e R s m args below meth c Z T L k n) {i : Fin 4} {v : Int64} {l' : Array Slot} (hd : decode code pc = .ok (.lstore_n i, 1)) (hp : pc + 1 = npc) (hl : storeLocals ls i.val (.long v) = some l') (g : own_Go p.tables e below P (T.setTop (mkF m npc l' st))) : own_Go p.tables e below P (T.setTop (mkF m pc ls (.long v :: st))) := by
  subst hp; obtain ⟨_, X, -, -⟩ := X
  exact g.st fun t k => Jvm.Free.XT.lstoreN X.here C.1 rfl (hb C.2.1 hd) rfl hl k
theorem k_dload (C : own_C p s m meth c Z own nm code ml rt) (X : own_S p l e R s m args below meth c Z T L k n) {i : Nat} {v : UInt64} (hd : decode code pc = .ok (.dload i, 2)) (hp : pc + 2 = npc) (hl : ls[i]? = some (.val (.double v))) (g : own_Go p.tables e below P (T.setTop (mkF m npc ls (.double v :: st)))) : own_Go p.tables e below P (T.setTop (mkF m pc ls (st))) := by
  subst hp; obtain ⟨_, X, -, -⟩ := X
  exact g.st fun t k => Jvm.Free.XS.dload X.here C.1 rfl (hb C.2.1 hd) hl k
theorem k_dstore (C : own_C p s m meth c Z own nm code ml rt) (X : own_S p l e R s m args below meth c Z T L k n) {i : Nat} {v : UInt64} {l' : Array Slot} (hd : decode code pc = .ok (.dstore i, 2)) (hp : pc + 2 = npc) (hl : storeLocals ls i (.double v) = some l') (g : own_Go p.tables e below P (T.setTop (mkF m npc l' st))) : own_Go p.tables e below P (T.setTop (mkF m pc ls (.double v :: st))) := by
  subst hp; obtain ⟨_, X, -, -⟩ := X
  exact g.st fun t k => Jvm.Free.XS.dstore X.here C.1 rfl (hb C.2.1 hd) rfl hl k
theorem k_dloadN (C : own_C p s m meth c Z own nm code ml rt) (X : own_S p l e R s m args below meth c Z T L k n) {i : Fin 4} {v : UInt64} (hd : decode code pc = .ok (.dload_n i, 1)) (hp : pc + 1 = npc) (hl : ls[i.val]? = some (.val (.double v))) (g : own_Go p.tables e below P (T.setTop (mkF m npc ls (.double v :: st)))) : own_Go p.tables e below P (T.setTop (mkF m pc ls (st))) := by
  subst hp; obtain ⟨_, X, -, -⟩ := X
  exact g.st fun t k => Jvm.Free.XS.dloadN X.here C.1 rfl (hb C.2.1 hd) hl k
theorem k_dstoreN (C : own_C p s m meth c Z own nm code ml rt) (X : own_S p l e R s m args below meth c Z T L k n) {i : Fin 4} {v : UInt64} {l' : Array Slot} (hd : decode code pc = .ok (.dstore_n i, 1)) (hp : pc + 1 = npc) (hl : storeLocals ls i.val (.double v) = some l') (g : own_Go p.tables e below P (T.setTop (mkF m npc l' st))) : own_Go p.tables e below P (T.setTop (mkF m pc ls (.double v :: st))) := by
  subst hp; obtain ⟨_, X, -, -⟩ := X
  exact g.st fun t k => Jvm.Free.XS.dstoreN X.here C.1 rfl (hb C.2.1 hd) rfl hl k
theorem k_aload (C : own_C p s m meth c Z own nm code ml rt) (X : own_S p l e R s m args below meth c Z T L k n) {i : Nat} {v : Value} (hd : decode code pc = .ok (.aload i, 2)) (hp : pc + 2 = npc) (hl : ls[i]? = some (.val (v))) (hv : v.isRef = true) (g : own_Go p.tables e below P (T.setTop (mkF m npc ls (v :: st)))) : own_Go p.tables e below P (T.setTop (mkF m pc ls (st))) := by
  subst hp; obtain ⟨_, X, -, -⟩ := X
  exact g.st fun t k => Jvm.Free.XS.aload X.here C.1 rfl (hb C.2.1 hd) hl hv k
theorem k_astore (C : own_C p s m meth c Z own nm code ml rt) (X : own_S p l e R s m args below meth c Z T L k n) {i : Nat} {v : Value} {l' : Array Slot} (hd : decode code pc = .ok (.astore i, 2)) (hp : pc + 2 = npc) (hv : v.isRef = true) (hl : storeLocals ls i (v) = some l') (g : own_Go p.tables e below P (T.setTop (mkF m npc l' st))) : own_Go p.tables e below P (T.setTop (mkF m pc ls (v :: st))) := by
  subst hp; obtain ⟨_, X, -, -⟩ := X
  exact g.st fun t k => Jvm.Free.XS.astore X.here C.1 rfl (hb C.2.1 hd) rfl hv hl k
theorem k_aloadN (C : own_C p s m meth c Z own nm code ml rt) (X : own_S p l e R s m args below meth c Z T L k n) {i : Fin 4} {v : Value} (hd : decode code pc = .ok (.aload_n i, 1)) (hp : pc + 1 = npc) (hl : ls[i.val]? = some (.val (v))) (hv : v.isRef = true) (g : own_Go p.tables e below P (T.setTop (mkF m npc ls (v :: st)))) : own_Go p.tables e below P (T.setTop (mkF m pc ls (st))) := by
  subst hp; obtain ⟨_, X, -, -⟩ := X
  exact g.st fun t k => Jvm.Free.XS.aloadN X.here C.1 rfl (hb C.2.1 hd) hl hv k
theorem k_astoreN (C : own_C p s m meth c Z own nm code ml rt) (X : own_S p l e R s m args below meth c Z T L k n) {i : Fin 4} {v : Value} {l' : Array Slot} (hd : decode code pc = .ok (.astore_n i, 1)) (hp : pc + 1 = npc) (hv : v.isRef = true) (hl : storeLocals ls i.val (v) = some l') (g : own_Go p.tables e below P (T.setTop (mkF m npc l' st))) : own_Go p.tables e below P (T.setTop (mkF m pc ls (v :: st))) := by
  subst hp; obtain ⟨_, X, -, -⟩ := X
  exact g.st fun t k => Jvm.Free.XS.astoreN X.here C.1 rfl (hb C.2.1 hd) rfl hv hl k
theorem k_iinc (C : own_C p s m meth c Z own nm code ml rt) (X : own_S p l e R s m args below meth c Z T L k n) {i : Nat} {cst : Int} {x v : Int32} {l' : Array Slot} (hd : decode code pc = .ok (.iinc i cst, 3)) (hp : pc + 3 = npc) (hv : Int32.ofInt cst = v) (hl : ls[i]? = some (.val (.int x))) (hl' : storeLocals ls i (.int (x + v)) = some l') (g : own_Go p.tables e below P (T.setTop (mkF m npc l' st))) : own_Go p.tables e below P (T.setTop (mkF m pc ls st)) := by
  subst hp; obtain ⟨_, X, -, -⟩ := X
  exact g.st fun t k => Jvm.Free.XT.iincV X.here C.1 rfl v (hb C.2.1 hd) hv hl hl' k
theorem k_goto (C : own_C p s m meth c Z own nm code ml rt) (X : own_S p l e R s m args below meth c Z T L k n) {o : Int} (hd : decode code pc = .ok (.goto o, 3)) (ht : (pc : Int) + o = (tpc : Int)) (g : own_Go p.tables e below P (T.setTop (mkF m tpc ls st))) : own_Go p.tables e below P (T.setTop (mkF m pc ls st)) := by
  obtain ⟨_, X, -, -⟩ := X
  exact g.st fun t k => Jvm.Free.XS.goto X.here C.1 rfl (pc0 := pc) (pc' := tpc) rfl (hb C.2.1 hd) (by omega) (by omega) k
theorem k_if_eq (C : own_C p s m meth c Z own nm code ml rt) (X : own_S p l e R s m args below meth c Z T L k n) {x : Int32} {o : Int} (hd : decode code pc = .ok (.ifCond .eq o, 3)) (hp : pc + 3 = npc) (ht : (pc : Int) + o = (tpc : Int)) (yes : x = 0 → own_Go p.tables e below P (T.setTop (mkF m tpc ls st))) (no : ¬ x = 0 → own_Go p.tables e below P (T.setTop (mkF m npc ls st))) : own_Go p.tables e below P (T.setTop (mkF m pc ls (.int x :: st))) := by
  subst hp; obtain ⟨_, X, -, -⟩ := X
  by_cases q : x = 0
  · exact (yes q).st fun t k => Jvm.Free.XS.ifYes X.here C.1 rfl (pc0 := pc) (pc' := tpc) rfl (hb C.2.1 hd) rfl (Jvm.Free.XT.i0_eq_t q) (by omega) (by omega) k
  · exact (no q).st fun t k => Jvm.Free.XS.ifNo X.here C.1 rfl (hb C.2.1 hd) rfl (Jvm.Free.XT.i0_eq_f q) k
theorem k_if_ne (C : own_C p s m meth c Z own nm code ml rt) (X : own_S p l e R s m args below meth c Z T L k n) {x : Int32} {o : Int} (hd : decode code pc = .ok (.ifCond .ne o, 3)) (hp : pc + 3 = npc) (ht : (pc : Int) + o = (tpc : Int)) (yes : ¬ x = 0 → own_Go p.tables e below P (T.setTop (mkF m tpc ls st))) (no : x = 0 → own_Go p.tables e below P (T.setTop (mkF m npc ls st))) : own_Go p.tables e below P (T.setTop (mkF m pc ls (.int x :: st))) := by
  subst hp; obtain ⟨_, X, -, -⟩ := X
  by_cases q : ¬ x = 0
  · exact (yes q).st fun t k => Jvm.Free.XS.ifYes X.here C.1 rfl (pc0 := pc) (pc' := tpc) rfl (hb C.2.1 hd) rfl (Jvm.Free.XT.i0_ne_t q) (by omega) (by omega) k
  · have q := Decidable.not_not.mp q
    exact (no q).st fun t k => Jvm.Free.XS.ifNo X.here C.1 rfl (hb C.2.1 hd) rfl (Jvm.Free.XT.i0_ne_f q) k
theorem k_if_lt (C : own_C p s m meth c Z own nm code ml rt) (X : own_S p l e R s m args below meth c Z T L k n) {x : Int32} {o : Int} (hd : decode code pc = .ok (.ifCond .lt o, 3)) (hp : pc + 3 = npc) (ht : (pc : Int) + o = (tpc : Int)) (yes : x < 0 → own_Go p.tables e below P (T.setTop (mkF m tpc ls st))) (no : ¬ x < 0 → own_Go p.tables e below P (T.setTop (mkF m npc ls st))) : own_Go p.tables e below P (T.setTop (mkF m pc ls (.int x :: st))) := by
  subst hp; obtain ⟨_, X, -, -⟩ := X
  by_cases q : x < 0
  · exact (yes q).st fun t k => Jvm.Free.XS.ifYes X.here C.1 rfl (pc0 := pc) (pc' := tpc) rfl (hb C.2.1 hd) rfl (Jvm.Free.XT.i0_lt_t q) (by omega) (by omega) k
  · exact (no q).st fun t k => Jvm.Free.XS.ifNo X.here C.1 rfl (hb C.2.1 hd) rfl (Jvm.Free.XT.i0_lt_f q) k
theorem k_if_ge (C : own_C p s m meth c Z own nm code ml rt) (X : own_S p l e R s m args below meth c Z T L k n) {x : Int32} {o : Int} (hd : decode code pc = .ok (.ifCond .ge o, 3)) (hp : pc + 3 = npc) (ht : (pc : Int) + o = (tpc : Int)) (yes : ¬ x < 0 → own_Go p.tables e below P (T.setTop (mkF m tpc ls st))) (no : x < 0 → own_Go p.tables e below P (T.setTop (mkF m npc ls st))) : own_Go p.tables e below P (T.setTop (mkF m pc ls (.int x :: st))) := by
  subst hp; obtain ⟨_, X, -, -⟩ := X
  by_cases q : ¬ x < 0
  · exact (yes q).st fun t k => Jvm.Free.XS.ifYes X.here C.1 rfl (pc0 := pc) (pc' := tpc) rfl (hb C.2.1 hd) rfl (Jvm.Free.XT.i0_ge_t q) (by omega) (by omega) k
  · have q := Decidable.not_not.mp q
    exact (no q).st fun t k => Jvm.Free.XS.ifNo X.here C.1 rfl (hb C.2.1 hd) rfl (Jvm.Free.XT.i0_ge_f q) k
theorem k_if_gt (C : own_C p s m meth c Z own nm code ml rt) (X : own_S p l e R s m args below meth c Z T L k n) {x : Int32} {o : Int} (hd : decode code pc = .ok (.ifCond .gt o, 3)) (hp : pc + 3 = npc) (ht : (pc : Int) + o = (tpc : Int)) (yes : 0 < x → own_Go p.tables e below P (T.setTop (mkF m tpc ls st))) (no : ¬ 0 < x → own_Go p.tables e below P (T.setTop (mkF m npc ls st))) : own_Go p.tables e below P (T.setTop (mkF m pc ls (.int x :: st))) := by
  subst hp; obtain ⟨_, X, -, -⟩ := X
  by_cases q : 0 < x
  · exact (yes q).st fun t k => Jvm.Free.XS.ifYes X.here C.1 rfl (pc0 := pc) (pc' := tpc) rfl (hb C.2.1 hd) rfl (Jvm.Free.XT.i0_gt_t q) (by omega) (by omega) k
  · exact (no q).st fun t k => Jvm.Free.XS.ifNo X.here C.1 rfl (hb C.2.1 hd) rfl (Jvm.Free.XT.i0_gt_f q) k
theorem k_if_le (C : own_C p s m meth c Z own nm code ml rt) (X : own_S p l e R s m args below meth c Z T L k n) {x : Int32} {o : Int} (hd : decode code pc = .ok (.ifCond .le o, 3)) (hp : pc + 3 = npc) (ht : (pc : Int) + o = (tpc : Int)) (yes : ¬ 0 < x → own_Go p.tables e below P (T.setTop (mkF m tpc ls st))) (no : 0 < x → own_Go p.tables e below P (T.setTop (mkF m npc ls st))) : own_Go p.tables e below P (T.setTop (mkF m pc ls (.int x :: st))) := by
  subst hp; obtain ⟨_, X, -, -⟩ := X
  by_cases q : ¬ 0 < x
  · exact (yes q).st fun t k => Jvm.Free.XS.ifYes X.here C.1 rfl (pc0 := pc) (pc' := tpc) rfl (hb C.2.1 hd) rfl (Jvm.Free.XT.i0_le_t q) (by omega) (by omega) k
  · have q := Decidable.not_not.mp q
    exact (no q).st fun t k => Jvm.Free.XS.ifNo X.here C.1 rfl (hb C.2.1 hd) rfl (Jvm.Free.XT.i0_le_f q) k
theorem k_icmp_eq (C : own_C p s m meth c Z own nm code ml rt) (X : own_S p l e R s m args below meth c Z T L k n) {x y : Int32} {o : Int} (hd : decode code pc = .ok (.if_icmp .eq o, 3)) (hp : pc + 3 = npc) (ht : (pc : Int) + o = (tpc : Int)) (yes : x = y → own_Go p.tables e below P (T.setTop (mkF m tpc ls st))) (no : ¬ x = y → own_Go p.tables e below P (T.setTop (mkF m npc ls st))) : own_Go p.tables e below P (T.setTop (mkF m pc ls (.int y :: .int x :: st))) := by
  subst hp; obtain ⟨_, X, -, -⟩ := X
  by_cases q : x = y
  · exact (yes q).st fun t k => Jvm.Free.XS.icmpYes X.here C.1 rfl (pc0 := pc) (pc' := tpc) rfl (hb C.2.1 hd) rfl (Jvm.Free.XT.ii_eq_t q) (by omega) (by omega) k
  · exact (no q).st fun t k => Jvm.Free.XS.icmpNo X.here C.1 rfl (hb C.2.1 hd) rfl (Jvm.Free.XT.ii_eq_f q) k
theorem k_icmp_ne (C : own_C p s m meth c Z own nm code ml rt) (X : own_S p l e R s m args below meth c Z T L k n) {x y : Int32} {o : Int} (hd : decode code pc = .ok (.if_icmp .ne o, 3)) (hp : pc + 3 = npc) (ht : (pc : Int) + o = (tpc : Int)) (yes : ¬ x = y → own_Go p.tables e below P (T.setTop (mkF m tpc ls st))) (no : x = y → own_Go p.tables e below P (T.setTop (mkF m npc ls st))) : own_Go p.tables e below P (T.setTop (mkF m pc ls (.int y :: .int x :: st))) := by
  subst hp; obtain ⟨_, X, -, -⟩ := X
  by_cases q : ¬ x = y
  · exact (yes q).st fun t k => Jvm.Free.XS.icmpYes X.here C.1 rfl (pc0 := pc) (pc' := tpc) rfl (hb C.2.1 hd) rfl (Jvm.Free.XT.ii_ne_t q) (by omega) (by omega) k
  · have q := Decidable.not_not.mp q
    exact (no q).st fun t k => Jvm.Free.XS.icmpNo X.here C.1 rfl (hb C.2.1 hd) rfl (Jvm.Free.XT.ii_ne_f q) k
theorem k_icmp_lt (C : own_C p s m meth c Z own nm code ml rt) (X : own_S p l e R s m args below meth c Z T L k n) {x y : Int32} {o : Int} (hd : decode code pc = .ok (.if_icmp .lt o, 3)) (hp : pc + 3 = npc) (ht : (pc : Int) + o = (tpc : Int)) (yes : x < y → own_Go p.tables e below P (T.setTop (mkF m tpc ls st))) (no : ¬ x < y → own_Go p.tables e below P (T.setTop (mkF m npc ls st))) : own_Go p.tables e below P (T.setTop (mkF m pc ls (.int y :: .int x :: st))) := by
  subst hp; obtain ⟨_, X, -, -⟩ := X
  by_cases q : x < y
  · exact (yes q).st fun t k => Jvm.Free.XS.icmpYes X.here C.1 rfl (pc0 := pc) (pc' := tpc) rfl (hb C.2.1 hd) rfl (Jvm.Free.XT.ii_lt_t q) (by omega) (by omega) k
  · exact (no q).st fun t k => Jvm.Free.XS.icmpNo X.here C.1 rfl (hb C.2.1 hd) rfl (Jvm.Free.XT.ii_lt_f q) k
theorem k_icmp_ge (C : own_C p s m meth c Z own nm code ml rt) (X : own_S p l e R s m args below meth c Z T L k n) {x y : Int32} {o : Int} (hd : decode code pc = .ok (.if_icmp .ge o, 3)) (hp : pc + 3 = npc) (ht : (pc : Int) + o = (tpc : Int)) (yes : ¬ x < y → own_Go p.tables e below P (T.setTop (mkF m tpc ls st))) (no : x < y → own_Go p.tables e below P (T.setTop (mkF m npc ls st))) : own_Go p.tables e below P (T.setTop (mkF m pc ls (.int y :: .int x :: st))) := by
  subst hp; obtain ⟨_, X, -, -⟩ := X
  by_cases q : ¬ x < y
  · exact (yes q).st fun t k => Jvm.Free.XS.icmpYes X.here C.1 rfl (pc0 := pc) (pc' := tpc) rfl (hb C.2.1 hd) rfl (Jvm.Free.XT.ii_ge_t q) (by omega) (by omega) k
  · have q := Decidable.not_not.mp q
    exact (no q).st fun t k => Jvm.Free.XS.icmpNo X.here C.1 rfl (hb C.2.1 hd) rfl (Jvm.Free.XT.ii_ge_f q) k
theorem k_icmp_gt (C : own_C p s m meth c Z own nm code ml rt) (X : own_S p l e R s m args below meth c Z T L k n) {x y : Int32} {o : Int} (hd : decode code pc = .ok (.if_icmp .gt o, 3)) (hp : pc + 3 = npc) (ht : (pc : Int) + o = (tpc : Int)) (yes : y < x → own_Go p.tables e below P (T.setTop (mkF m tpc ls st))) (no : ¬ y < x → own_Go p.tables e below P (T.setTop (mkF m npc ls st))) : own_Go p.tables e below P (T.setTop (mkF m pc ls (.int y :: .int x :: st))) := by
  subst hp; obtain ⟨_, X, -, -⟩ := X
  by_cases q : y < x
  · exact (yes q).st fun t k => Jvm.Free.XS.icmpYes X.here C.1 rfl (pc0 := pc) (pc' := tpc) rfl (hb C.2.1 hd) rfl (Jvm.Free.XT.ii_gt_t q) (by omega) (by omega) k
  · exact (no q).st fun t k => Jvm.Free.XS.icmpNo X.here C.1 rfl (hb C.2.1 hd) rfl (Jvm.Free.XT.ii_gt_f q) k
theorem k_icmp_le (C : own_C p s m meth c Z own nm code ml rt) (X : own_S p l e R s m args below meth c Z T L k n) {x y : Int32} {o : Int} (hd : decode code pc = .ok (.if_icmp .le o, 3)) (hp : pc + 3 = npc) (ht : (pc : Int) + o = (tpc : Int)) (yes : ¬ y < x → own_Go p.tables e below P (T.setTop (mkF m tpc ls st))) (no : y < x → own_Go p.tables e below P (T.setTop (mkF m npc ls st))) : own_Go p.tables e below P (T.setTop (mkF m pc ls (.int y :: .int x :: st))) := by
  subst hp; obtain ⟨_, X, -, -⟩ := X
  by_cases q : ¬ y < x
  · exact (yes q).st fun t k => Jvm.Free.XS.icmpYes X.here C.1 rfl (pc0 := pc) (pc' := tpc) rfl (hb C.2.1 hd) rfl (Jvm.Free.XT.ii_le_t q) (by omega) (by omega) k
  · have q := Decidable.not_not.mp q
    exact (no q).st fun t k => Jvm.Free.XS.icmpNo X.here C.1 rfl (hb C.2.1 hd) rfl (Jvm.Free.XT.ii_le_f q) k
theorem k_ifl_eq (C : own_C p s m meth c Z own nm code ml rt) (X : own_S p l e R s m args below meth c Z T L k n) {x y : Int64} {o : Int} (hd : decode code pc = .ok (.ifCond .eq o, 3)) (hp : pc + 3 = npc) (ht : (pc : Int) + o = (tpc : Int)) (yes : x = y → own_Go p.tables e below P (T.setTop (mkF m tpc ls st))) (no : ¬ x = y → own_Go p.tables e below P (T.setTop (mkF m npc ls st))) : own_Go p.tables e below P (T.setTop (mkF m pc ls (.int (Jvm.Free.XT.cmpL x y) :: st))) := by
  subst hp; obtain ⟨_, X, -, -⟩ := X
  by_cases q : x = y
  · exact (yes q).st fun t k => Jvm.Free.XS.ifYes X.here C.1 rfl (pc0 := pc) (pc' := tpc) rfl (hb C.2.1 hd) rfl (Jvm.Free.XT.ll_eq_t q) (by omega) (by omega) k
  · exact (no q).st fun t k => Jvm.Free.XS.ifNo X.here C.1 rfl (hb C.2.1 hd) rfl (Jvm.Free.XT.ll_eq_f q) k
theorem k_ifl_ne (C : own_C p s m meth c Z own nm code ml rt) (X : own_S p l e R s m args below meth c Z T L k n) {x y : Int64} {o : Int} (hd : decode code pc = .ok (.ifCond .ne o, 3)) (hp : pc + 3 = npc) (ht : (pc : Int) + o = (tpc : Int)) (yes : ¬ x = y → own_Go p.tables e below P (T.setTop (mkF m tpc ls st))) (no : x = y → own_Go p.tables e below P (T.setTop (mkF m npc ls st))) : own_Go p.tables e below P (T.setTop (mkF m pc ls (.int (Jvm.Free.XT.cmpL x y) :: st))) := by
  subst hp; obtain ⟨_, X, -, -⟩ := X
  by_cases q : ¬ x = y
  · exact (yes q).st fun t k => Jvm.Free.XS.ifYes X.here C.1 rfl (pc0 := pc) (pc' := tpc) rfl (hb C.2.1 hd) rfl (Jvm.Free.XT.ll_ne_t q) (by omega) (by omega) k
  · have q := Decidable.not_not.mp q
    exact (no q).st fun t k => Jvm.Free.XS.ifNo X.here C.1 rfl (hb C.2.1 hd) rfl (Jvm.Free.XT.ll_ne_f q) k
theorem k_ifl_lt (C : own_C p s m meth c Z own nm code ml rt) (X : own_S p l e R s m args below meth c Z T L k n) {x y : Int64} {o : Int} (hd : decode code pc = .ok (.ifCond .lt o, 3)) (hp : pc + 3 = npc) (ht : (pc : Int) + o = (tpc : Int)) (yes : x < y → own_Go p.tables e below P (T.setTop (mkF m tpc ls st))) (no : ¬ x < y → own_Go p.tables e below P (T.setTop (mkF m npc ls st))) : own_Go p.tables e below P (T.setTop (mkF m pc ls (.int (Jvm.Free.XT.cmpL x y) :: st))) := by
  subst hp; obtain ⟨_, X, -, -⟩ := X
  by_cases q : x < y
  · exact (yes q).st fun t k => Jvm.Free.XS.ifYes X.here C.1 rfl (pc0 := pc) (pc' := tpc) rfl (hb C.2.1 hd) rfl (Jvm.Free.XT.ll_lt_t q) (by omega) (by omega) k
  · exact (no q).st fun t k => Jvm.Free.XS.ifNo X.here C.1 rfl (hb C.2.1 hd) rfl (Jvm.Free.XT.ll_lt_f q) k
theorem k_ifl_ge (C : own_C p s m meth c Z own nm code ml rt) (X : own_S p l e R s m args below meth c Z T L k n) {x y : Int64} {o : Int} (hd : decode code pc = .ok (.ifCond .ge o, 3)) (hp : pc + 3 = npc) (ht : (pc : Int) + o = (tpc : Int)) (yes : ¬ x < y → own_Go p.tables e below P (T.setTop (mkF m tpc ls st))) (no : x < y → own_Go p.tables e below P (T.setTop (mkF m npc ls st))) : own_Go p.tables e below P (T.setTop (mkF m pc ls (.int (Jvm.Free.XT.cmpL x y) :: st))) := by
  subst hp; obtain ⟨_, X, -, -⟩ := X
  by_cases q : ¬ x < y
  · exact (yes q).st fun t k => Jvm.Free.XS.ifYes X.here C.1 rfl (pc0 := pc) (pc' := tpc) rfl (hb C.2.1 hd) rfl (Jvm.Free.XT.ll_ge_t q) (by omega) (by omega) k
  · have q := Decidable.not_not.mp q
    exact (no q).st fun t k => Jvm.Free.XS.ifNo X.here C.1 rfl (hb C.2.1 hd) rfl (Jvm.Free.XT.ll_ge_f q) k
theorem k_ifl_gt (C : own_C p s m meth c Z own nm code ml rt) (X : own_S p l e R s m args below meth c Z T L k n) {x y : Int64} {o : Int} (hd : decode code pc = .ok (.ifCond .gt o, 3)) (hp : pc + 3 = npc) (ht : (pc : Int) + o = (tpc : Int)) (yes : y < x → own_Go p.tables e below P (T.setTop (mkF m tpc ls st))) (no : ¬ y < x → own_Go p.tables e below P (T.setTop (mkF m npc ls st))) : own_Go p.tables e below P (T.setTop (mkF m pc ls (.int (Jvm.Free.XT.cmpL x y) :: st))) := by
  subst hp; obtain ⟨_, X, -, -⟩ := X
  by_cases q : y < x
  · exact (yes q).st fun t k => Jvm.Free.XS.ifYes X.here C.1 rfl (pc0 := pc) (pc' := tpc) rfl (hb C.2.1 hd) rfl (Jvm.Free.XT.ll_gt_t q) (by omega) (by omega) k
  · exact (no q).st fun t k => Jvm.Free.XS.ifNo X.here C.1 rfl (hb C.2.1 hd) rfl (Jvm.Free.XT.ll_gt_f q) k
theorem k_ifl_le (C : own_C p s m meth c Z own nm code ml rt) (X : own_S p l e R s m args below meth c Z T L k n) {x y : Int64} {o : Int} (hd : decode code pc = .ok (.ifCond .le o, 3)) (hp : pc + 3 = npc) (ht : (pc : Int) + o = (tpc : Int)) (yes : ¬ y < x → own_Go p.tables e below P (T.setTop (mkF m tpc ls st))) (no : y < x → own_Go p.tables e below P (T.setTop (mkF m npc ls st))) : own_Go p.tables e below P (T.setTop (mkF m pc ls (.int (Jvm.Free.XT.cmpL x y) :: st))) := by
  subst hp; obtain ⟨_, X, -, -⟩ := X
  by_cases q : ¬ y < x
  · exact (yes q).st fun t k => Jvm.Free.XS.ifYes X.here C.1 rfl (pc0 := pc) (pc' := tpc) rfl (hb C.2.1 hd) rfl (Jvm.Free.XT.ll_le_t q) (by omega) (by omega) k
  · have q := Decidable.not_not.mp q
    exact (no q).st fun t k => Jvm.Free.XS.ifNo X.here C.1 rfl (hb C.2.1 hd) rfl (Jvm.Free.XT.ll_le_f q) k
theorem k_ifdl_eq (C : own_C p s m meth c Z own nm code ml rt) (X : own_S p l e R s m args below meth c Z T L k n) {x y : UInt64} {o : Int} (hd : decode code pc = .ok (.ifCond .eq o, 3)) (hp : pc + 3 = npc) (ht : (pc : Int) + o = (tpc : Int)) (yes : (FP.dcmp x y = some .eq) → own_Go p.tables e below P (T.setTop (mkF m tpc ls st))) (no : ¬ (FP.dcmp x y = some .eq) → own_Go p.tables e below P (T.setTop (mkF m npc ls st))) : own_Go p.tables e below P (T.setTop (mkF m pc ls (.int (FP.cmpInt (-1) (FP.dcmp x y)) :: st))) := by
  subst hp; obtain ⟨_, X, -, -⟩ := X
  rcases hq : FP.dcmp x y with _ | (_ | _ | _) <;> simp only [hq] at yes no
  all_goals first
    | exact (yes (by simp)).st fun t k => Jvm.Free.XS.ifYes X.here C.1 rfl (pc0 := pc) (pc' := tpc) rfl (hb C.2.1 hd) rfl (by decide) (by omega) (by omega) k
    | exact (no (by simp)).st fun t k => Jvm.Free.XS.ifNo X.here C.1 rfl (hb C.2.1 hd) rfl (by decide) k
theorem k_ifdl_ne (C : own_C p s m meth c Z own nm code ml rt) (X : own_S p l e R s m args below meth c Z T L k n) {x y : UInt64} {o : Int} (hd : decode code pc = .ok (.ifCond .ne o, 3)) (hp : pc + 3 = npc) (ht : (pc : Int) + o = (tpc : Int)) (yes : ¬ (FP.dcmp x y = some .eq) → own_Go p.tables e below P (T.setTop (mkF m tpc ls st))) (no : (FP.dcmp x y = some .eq) → own_Go p.tables e below P (T.setTop (mkF m npc ls st))) : own_Go p.tables e below P (T.setTop (mkF m pc ls (.int (FP.cmpInt (-1) (FP.dcmp x y)) :: st))) := by
  subst hp; obtain ⟨_, X, -, -⟩ := X
  rcases hq : FP.dcmp x y with _ | (_ | _ | _) <;> simp only [hq] at yes no
  all_goals first
    | exact (yes (by simp)).st fun t k => Jvm.Free.XS.ifYes X.here C.1 rfl (pc0 := pc) (pc' := tpc) rfl (hb C.2.1 hd) rfl (by decide) (by omega) (by omega) k
    | exact (no (by simp)).st fun t k => Jvm.Free.XS.ifNo X.here C.1 rfl (hb C.2.1 hd) rfl (by decide) k
theorem k_ifdl_lt (C : own_C p s m meth c Z own nm code ml rt) (X : own_S p l e R s m args below meth c Z T L k n) {x y : UInt64} {o : Int} (hd : decode code pc = .ok (.ifCond .lt o, 3)) (hp : pc + 3 = npc) (ht : (pc : Int) + o = (tpc : Int)) (yes : (FP.dcmp x y = some .lt ∨ FP.dcmp x y = none) → own_Go p.tables e below P (T.setTop (mkF m tpc ls st))) (no : ¬ (FP.dcmp x y = some .lt ∨ FP.dcmp x y = none) → own_Go p.tables e below P (T.setTop (mkF m npc ls st))) : own_Go p.tables e below P (T.setTop (mkF m pc ls (.int (FP.cmpInt (-1) (FP.dcmp x y)) :: st))) := by
  subst hp; obtain ⟨_, X, -, -⟩ := X
  rcases hq : FP.dcmp x y with _ | (_ | _ | _) <;> simp only [hq] at yes no
  all_goals first
    | exact (yes (by simp)).st fun t k => Jvm.Free.XS.ifYes X.here C.1 rfl (pc0 := pc) (pc' := tpc) rfl (hb C.2.1 hd) rfl (by decide) (by omega) (by omega) k
    | exact (no (by simp)).st fun t k => Jvm.Free.XS.ifNo X.here C.1 rfl (hb C.2.1 hd) rfl (by decide) k
theorem k_ifdl_ge (C : own_C p s m meth c Z own nm code ml rt) (X : own_S p l e R s m args below meth c Z T L k n) {x y : UInt64} {o : Int} (hd : decode code pc = .ok (.ifCond .ge o, 3)) (hp : pc + 3 = npc) (ht : (pc : Int) + o = (tpc : Int)) (yes : ¬ (FP.dcmp x y = some .lt ∨ FP.dcmp x y = none) → own_Go p.tables e below P (T.setTop (mkF m tpc ls st))) (no : (FP.dcmp x y = some .lt ∨ FP.dcmp x y = none) → own_Go p.tables e below P (T.setTop (mkF m npc ls st))) : own_Go p.tables e below P (T.setTop (mkF m pc ls (.int (FP.cmpInt (-1) (FP.dcmp x y)) :: st))) := by
  subst hp; obtain ⟨_, X, -, -⟩ := X
  rcases hq : FP.dcmp x y with _ | (_ | _ | _) <;> simp only [hq] at yes no
  all_goals first
    | exact (yes (by simp)).st fun t k => Jvm.Free.XS.ifYes X.here C.1 rfl (pc0 := pc) (pc' := tpc) rfl (hb C.2.1 hd) rfl (by decide) (by omega) (by omega) k
    | exact (no (by simp)).st fun t k => Jvm.Free.XS.ifNo X.here C.1 rfl (hb C.2.1 hd) rfl (by decide) k
theorem k_ifdl_gt (C : own_C p s m meth c Z own nm code ml rt) (X : own_S p l e R s m args below meth c Z T L k n) {x y : UInt64} {o : Int} (hd : decode code pc = .ok (.ifCond .gt o, 3)) (hp : pc + 3 = npc) (ht : (pc : Int) + o = (tpc : Int)) (yes : (FP.dcmp x y = some .gt) → own_Go p.tables e below P (T.setTop (mkF m tpc ls st))) (no : ¬ (FP.dcmp x y = some .gt) → own_Go p.tables e below P (T.setTop (mkF m npc ls st))) : own_Go p.tables e below P (T.setTop (mkF m pc ls (.int (FP.cmpInt (-1) (FP.dcmp x y)) :: st))) := by
  subst hp; obtain ⟨_, X, -, -⟩ := X
  rcases hq : FP.dcmp x y with _ | (_ | _ | _) <;> simp only [hq] at yes no
  all_goals first
    | exact (yes (by simp)).st fun t k => Jvm.Free.XS.ifYes X.here C.1 rfl (pc0 := pc) (pc' := tpc) rfl (hb C.2.1 hd) rfl (by decide) (by omega) (by omega) k
    | exact (no (by simp)).st fun t k => Jvm.Free.XS.ifNo X.here C.1 rfl (hb C.2.1 hd) rfl (by decide) k
theorem k_ifdl_le (C : own_C p s m meth c Z own nm code ml rt) (X : own_S p l e R s m args below meth c Z T L k n) {x y : UInt64} {o : Int} (hd : decode code pc = .ok (.ifCond .le o, 3)) (hp : pc + 3 = npc) (ht : (pc : Int) + o = (tpc : Int)) (yes : ¬ (FP.dcmp x y = some .gt) → own_Go p.tables e below P (T.setTop (mkF m tpc ls st))) (no : (FP.dcmp x y = some .gt) → own_Go p.tables e below P (T.setTop (mkF m npc ls st))) : own_Go p.tables e below P (T.setTop (mkF m pc ls (.int (FP.cmpInt (-1) (FP.dcmp x y)) :: st))) := by
  subst hp; obtain ⟨_, X, -, -⟩ := X
  rcases hq : FP.dcmp x y with _ | (_ | _ | _) <;> simp only [hq] at yes no
  all_goals first
    | exact (yes (by simp)).st fun t k => Jvm.Free.XS.ifYes X.here C.1 rfl (pc0 := pc) (pc' := tpc) rfl (hb C.2.1 hd) rfl (by decide) (by omega) (by omega) k
    | exact (no (by simp)).st fun t k => Jvm.Free.XS.ifNo X.here C.1 rfl (hb C.2.1 hd) rfl (by decide) k
theorem k_ifdg_eq (C : own_C p s m meth c Z own nm code ml rt) (X : own_S p l e R s m args below meth c Z T L k n) {x y : UInt64} {o : Int} (hd : decode code pc = .ok (.ifCond .eq o, 3)) (hp : pc + 3 = npc) (ht : (pc : Int) + o = (tpc : Int)) (yes : (FP.dcmp x y = some .eq) → own_Go p.tables e below P (T.setTop (mkF m tpc ls st))) (no : ¬ (FP.dcmp x y = some .eq) → own_Go p.tables e below P (T.setTop (mkF m npc ls st))) : own_Go p.tables e below P (T.setTop (mkF m pc ls (.int (FP.cmpInt 1 (FP.dcmp x y)) :: st))) := by
  subst hp; obtain ⟨_, X, -, -⟩ := X
  rcases hq : FP.dcmp x y with _ | (_ | _ | _) <;> simp only [hq] at yes no
  all_goals first
    | exact (yes (by simp)).st fun t k => Jvm.Free.XS.ifYes X.here C.1 rfl (pc0 := pc) (pc' := tpc) rfl (hb C.2.1 hd) rfl (by decide) (by omega) (by omega) k
    | exact (no (by simp)).st fun t k => Jvm.Free.XS.ifNo X.here C.1 rfl (hb C.2.1 hd) rfl (by decide) k
theorem k_ifdg_ne (C : own_C p s m meth c Z own nm code ml rt) (X : own_S p l e R s m args below meth c Z T L k n) {x y : UInt64} {o : Int} (hd : decode code pc = .ok (.ifCond .ne o, 3)) (hp : pc + 3 = npc) (ht : (pc : Int) + o = (tpc : Int)) (yes : ¬ (FP.dcmp x y = some .eq) → own_Go p.tables e below P (T.setTop (mkF m tpc ls st))) (no : (FP.dcmp x y = some .eq) → own_Go p.tables e below P (T.setTop (mkF m npc ls st))) : own_Go p.tables e below P (T.setTop (mkF m pc ls (.int (FP.cmpInt 1 (FP.dcmp x y)) :: st))) := by
  subst hp; obtain ⟨_, X, -, -⟩ := X
  rcases hq : FP.dcmp x y with _ | (_ | _ | _) <;> simp only [hq] at yes no
  all_goals first
    | exact (yes (by simp)).st fun t k => Jvm.Free.XS.ifYes X.here C.1 rfl (pc0 := pc) (pc' := tpc) rfl (hb C.2.1 hd) rfl (by decide) (by omega) (by omega) k
    | exact (no (by simp)).st fun t k => Jvm.Free.XS.ifNo X.here C.1 rfl (hb C.2.1 hd) rfl (by decide) k
theorem k_ifdg_lt (C : own_C p s m meth c Z own nm code ml rt) (X : own_S p l e R s m args below meth c Z T L k n) {x y : UInt64} {o : Int} (hd : decode code pc = .ok (.ifCond .lt o, 3)) (hp : pc + 3 = npc) (ht : (pc : Int) + o = (tpc : Int)) (yes : (FP.dcmp x y = some .lt) → own_Go p.tables e below P (T.setTop (mkF m tpc ls st))) (no : ¬ (FP.dcmp x y = some .lt) → own_Go p.tables e below P (T.setTop (mkF m npc ls st))) : own_Go p.tables e below P (T.setTop (mkF m pc ls (.int (FP.cmpInt 1 (FP.dcmp x y)) :: st))) := by
  subst hp; obtain ⟨_, X, -, -⟩ := X
  rcases hq : FP.dcmp x y with _ | (_ | _ | _) <;> simp only [hq] at yes no
  all_goals first
    | exact (yes (by simp)).st fun t k => Jvm.Free.XS.ifYes X.here C.1 rfl (pc0 := pc) (pc' := tpc) rfl (hb C.2.1 hd) rfl (by decide) (by omega) (by omega) k
    | exact (no (by simp)).st fun t k => Jvm.Free.XS.ifNo X.here C.1 rfl (hb C.2.1 hd) rfl (by decide) k
theorem k_ifdg_ge (C : own_C p s m meth c Z own nm code ml rt) (X : own_S p l e R s m args below meth c Z T L k n) {x y : UInt64} {o : Int} (hd : decode code pc = .ok (.ifCond .ge o, 3)) (hp : pc + 3 = npc) (ht : (pc : Int) + o = (tpc : Int)) (yes : ¬ (FP.dcmp x y = some .lt) → own_Go p.tables e below P (T.setTop (mkF m tpc ls st))) (no : (FP.dcmp x y = some .lt) → own_Go p.tables e below P (T.setTop (mkF m npc ls st))) : own_Go p.tables e below P (T.setTop (mkF m pc ls (.int (FP.cmpInt 1 (FP.dcmp x y)) :: st))) := by
  subst hp; obtain ⟨_, X, -, -⟩ := X
  rcases hq : FP.dcmp x y with _ | (_ | _ | _) <;> simp only [hq] at yes no
  all_goals first
    | exact (yes (by simp)).st fun t k => Jvm.Free.XS.ifYes X.here C.1 rfl (pc0 := pc) (pc' := tpc) rfl (hb C.2.1 hd) rfl (by decide) (by omega) (by omega) k
    | exact (no (by simp)).st fun t k => Jvm.Free.XS.ifNo X.here C.1 rfl (hb C.2.1 hd) rfl (by decide) k
theorem k_ifdg_gt (C : own_C p s m meth c Z own nm code ml rt) (X : own_S p l e R s m args below meth c Z T L k n) {x y : UInt64} {o : Int} (hd : decode code pc = .ok (.ifCond .gt o, 3)) (hp : pc + 3 = npc) (ht : (pc : Int) + o = (tpc : Int)) (yes : (FP.dcmp x y = some .gt ∨ FP.dcmp x y = none) → own_Go p.tables e below P (T.setTop (mkF m tpc ls st))) (no : ¬ (FP.dcmp x y = some .gt ∨ FP.dcmp x y = none) → own_Go p.tables e below P (T.setTop (mkF m npc ls st))) : own_Go p.tables e below P (T.setTop (mkF m pc ls (.int (FP.cmpInt 1 (FP.dcmp x y)) :: st))) := by
  subst hp; obtain ⟨_, X, -, -⟩ := X
  rcases hq : FP.dcmp x y with _ | (_ | _ | _) <;> simp only [hq] at yes no
  all_goals first
    | exact (yes (by simp)).st fun t k => Jvm.Free.XS.ifYes X.here C.1 rfl (pc0 := pc) (pc' := tpc) rfl (hb C.2.1 hd) rfl (by decide) (by omega) (by omega) k
    | exact (no (by simp)).st fun t k => Jvm.Free.XS.ifNo X.here C.1 rfl (hb C.2.1 hd) rfl (by decide) k
theorem k_ifdg_le (C : own_C p s m meth c Z own nm code ml rt) (X : own_S p l e R s m args below meth c Z T L k n) {x y : UInt64} {o : Int} (hd : decode code pc = .ok (.ifCond .le o, 3)) (hp : pc + 3 = npc) (ht : (pc : Int) + o = (tpc : Int)) (yes : ¬ (FP.dcmp x y = some .gt ∨ FP.dcmp x y = none) → own_Go p.tables e below P (T.setTop (mkF m tpc ls st))) (no : (FP.dcmp x y = some .gt ∨ FP.dcmp x y = none) → own_Go p.tables e below P (T.setTop (mkF m npc ls st))) : own_Go p.tables e below P (T.setTop (mkF m pc ls (.int (FP.cmpInt 1 (FP.dcmp x y)) :: st))) := by
  subst hp; obtain ⟨_, X, -, -⟩ := X
  rcases hq : FP.dcmp x y with _ | (_ | _ | _) <;> simp only [hq] at yes no
  all_goals first
    | exact (yes (by simp)).st fun t k => Jvm.Free.XS.ifYes X.here C.1 rfl (pc0 := pc) (pc' := tpc) rfl (hb C.2.1 hd) rfl (by decide) (by omega) (by omega) k
    | exact (no (by simp)).st fun t k => Jvm.Free.XS.ifNo X.here C.1 rfl (hb C.2.1 hd) rfl (by decide) k
theorem k_ifnull_y (C : own_C p s m meth c Z own nm code ml rt) (X : own_S p l e R s m args below meth c Z T L k n)  {o : Int} (hd : decode code pc = .ok (.ifnull o, 3)) (ht : (pc : Int) + o = (tpc : Int)) (g : own_Go p.tables e below P (T.setTop (mkF m tpc ls st))) : own_Go p.tables e below P (T.setTop (mkF m pc ls (.null :: st))) := by
  obtain ⟨_, X, -, -⟩ := X
  exact g.st fun t k => Jvm.Free.XS.ifnullYes X.here C.1 rfl (pc0 := pc) (pc' := tpc) rfl (hb C.2.1 hd) rfl (by omega) (by omega) k
theorem k_ifnull_n (C : own_C p s m meth c Z own nm code ml rt) (X : own_S p l e R s m args below meth c Z T L k n) {b : Addr} {o : Int} (hd : decode code pc = .ok (.ifnull o, 3)) (hp : pc + 3 = npc) (g : own_Go p.tables e below P (T.setTop (mkF m npc ls st))) : own_Go p.tables e below P (T.setTop (mkF m pc ls (.ref b :: st))) := by
  subst hp; obtain ⟨_, X, -, -⟩ := X
  exact g.st fun t k => Jvm.Free.XS.ifnullNo X.here C.1 rfl (hb C.2.1 hd) rfl k
theorem k_ifnonnull_y (C : own_C p s m meth c Z own nm code ml rt) (X : own_S p l e R s m args below meth c Z T L k n) {b : Addr} {o : Int} (hd : decode code pc = .ok (.ifnonnull o, 3)) (ht : (pc : Int) + o = (tpc : Int)) (g : own_Go p.tables e below P (T.setTop (mkF m tpc ls st))) : own_Go p.tables e below P (T.setTop (mkF m pc ls (.ref b :: st))) := by
  obtain ⟨_, X, -, -⟩ := X
  exact g.st fun t k => Jvm.Free.XT.ifnonnullYes X.here C.1 rfl (pc0 := pc) (pc' := tpc) rfl (hb C.2.1 hd) rfl (by omega) (by omega) k
theorem k_ifnonnull_n (C : own_C p s m meth c Z own nm code ml rt) (X : own_S p l e R s m args below meth c Z T L k n)  {o : Int} (hd : decode code pc = .ok (.ifnonnull o, 3)) (hp : pc + 3 = npc) (g : own_Go p.tables e below P (T.setTop (mkF m npc ls st))) : own_Go p.tables e below P (T.setTop (mkF m pc ls (.null :: st))) := by
  subst hp; obtain ⟨_, X, -, -⟩ := X
  exact g.st fun t k => Jvm.Free.XT.ifnonnullNo X.here C.1 rfl (hb C.2.1 hd) rfl k
theorem k_acmp_eq (C : own_C p s m meth c Z own nm code ml rt) (X : own_S p l e R s m args below meth c Z T L k n) {x y : Value} {o : Int} (hd : decode code pc = .ok (.if_acmp .eq o, 3)) (hp : pc + 3 = npc) (ht : (pc : Int) + o = (tpc : Int)) (hx : x.isRef = true) (hy : y.isRef = true) (yes : x = y → own_Go p.tables e below P (T.setTop (mkF m tpc ls st))) (no : ¬ x = y → own_Go p.tables e below P (T.setTop (mkF m npc ls st))) : own_Go p.tables e below P (T.setTop (mkF m pc ls (y :: x :: st))) := by
  subst hp; obtain ⟨_, X, -, -⟩ := X
  by_cases q : x = y
  · exact (yes q).st fun t k => Jvm.Free.XT.acmpYes X.here C.1 rfl (pc0 := pc) (pc' := tpc) rfl (hb C.2.1 hd) rfl hx hy (Jvm.Free.XT.aa_eq_t q) (by omega) (by omega) k
  · exact (no q).st fun t k => Jvm.Free.XT.acmpNo X.here C.1 rfl (hb C.2.1 hd) rfl hx hy (Jvm.Free.XT.aa_eq_f q) k
theorem k_acmp_ne (C : own_C p s m meth c Z own nm code ml rt) (X : own_S p l e R s m args below meth c Z T L k n) {x y : Value} {o : Int} (hd : decode code pc = .ok (.if_acmp .ne o, 3)) (hp : pc + 3 = npc) (ht : (pc : Int) + o = (tpc : Int)) (hx : x.isRef = true) (hy : y.isRef = true) (yes : ¬ x = y → own_Go p.tables e below P (T.setTop (mkF m tpc ls st))) (no : x = y → own_Go p.tables e below P (T.setTop (mkF m npc ls st))) : own_Go p.tables e below P (T.setTop (mkF m pc ls (y :: x :: st))) := by
  subst hp; obtain ⟨_, X, -, -⟩ := X
  by_cases q : ¬ x = y
  · exact (yes q).st fun t k => Jvm.Free.XT.acmpYes X.here C.1 rfl (pc0 := pc) (pc' := tpc) rfl (hb C.2.1 hd) rfl hx hy (Jvm.Free.XT.aa_ne_t q) (by omega) (by omega) k
  · have q := Decidable.not_not.mp q
    exact (no q).st fun t k => Jvm.Free.XT.acmpNo X.here C.1 rfl (hb C.2.1 hd) rfl hx hy (Jvm.Free.XT.aa_ne_f q) k
theorem k_ldc (C : own_C p s m meth c Z own nm code ml rt) (X : own_S p l e R s m args below meth c Z T L k n) {i : Nat} {v : Int32} (hd : decode code pc = .ok (.ldc i, 2)) (hp : pc + 2 = npc) (hw : (Jvm.Cond.constant own i v).before a0 Z = true) (g : own_Go p.tables e below P (T.setTop (mkF m npc ls (.int v :: st)))) : own_Go p.tables e below P (T.setTop (mkF m pc ls st)) := by
  subst hp; obtain ⟨_, X, -, -⟩ := X
  exact g.st fun t k => X.ldcI C.1 C.2.2.2.2.1 (mv C.2.2.2.1 hw) rfl (hb C.2.1 hd) k
theorem k_ldc2l (C : own_C p s m meth c Z own nm code ml rt) (X : own_S p l e R s m args below meth c Z T L k n) {i : Nat} {v : Int64} (hd : decode code pc = .ok (.ldc2_w i, 3)) (hp : pc + 3 = npc) (hw : (Jvm.Cond.constantLong own i v).before a0 Z = true) (g : own_Go p.tables e below P (T.setTop (mkF m npc ls (.long v :: st)))) : own_Go p.tables e below P (T.setTop (mkF m pc ls st)) := by
  subst hp; obtain ⟨_, X, -, -⟩ := X
  exact g.st fun t k => X.ldc2J C.1 C.2.2.2.2.1 (mv C.2.2.2.1 hw) rfl (hb C.2.1 hd) k
theorem k_ldc2d (C : own_C p s m meth c Z own nm code ml rt) (X : own_S p l e R s m args below meth c Z T L k n) {i : Nat} {v : UInt64} (hd : decode code pc = .ok (.ldc2_w i, 3)) (hp : pc + 3 = npc) (hw : (Jvm.Cond.constantDouble own i v).before a0 Z = true) (g : own_Go p.tables e below P (T.setTop (mkF m npc ls (.double v :: st)))) : own_Go p.tables e below P (T.setTop (mkF m pc ls st)) := by
  subst hp; obtain ⟨_, X, -, -⟩ := X
  exact g.st fun t k => X.ldc2DoubleC C.1 C.2.2.2.2.1 (mv C.2.2.2.1 hw) (g := mkF m pc ls st) rfl (hb C.2.1 hd) _ k
theorem k_new (C : own_C p s m meth c Z own nm code ml rt) (X : own_S p l e R s m args below meth c Z T L k n) {i sl : Nat} {K : String} {N : List (String × String × FieldType)} {fs : List (String × String × Value)} (hd : decode code pc = .ok (.new i, 3)) (hp : pc + 3 = npc) (w1 : (Jvm.Cond.classLink own i K).before a0 Z = true) (w2 : (Jvm.Cond.instantiable K sl).before a0 Z = true) (w3 : (Jvm.Cond.initialized K).before a0 Z = true) (hN : own_lay Z a0 K N) (hfs : N.map (fun q => (q.1, q.2.1, defaultValue q.2.2)) = fs) (hk : k + 1 ≤ R.cells) (hn : n + sl ≤ R.slots)
    (g : ∀ T' a, own_S p l e R s m args below meth c Z T' ((a, own_ob Z K fs) :: L) (k + 1) (n + sl) → own_Go p.tables e below P (T'.setTop (mkF m npc ls (.ref a :: st)))) : own_Go p.tables e below P (T.setTop (mkF m pc ls st)) := by
  subst hp hfs; obtain ⟨locs, X, hF, hH⟩ := X
  obtain ⟨T', h', X', e', E', A', D', -, st'⟩ := newO X C.1 C.2.2.2.1 C.2.2.2.2.1 w1 w2 w3 rfl (g := mkF m pc ls st) rfl (hb C.2.1 hd) hk hn
  subst e'
  refine (g T' _ ⟨locs, X', hF, ?_⟩).st st'
  obtain ⟨c', q1, q2⟩ : ∃ c', T'.heap[T.heap.size]? = some c' ∧ own_ex Z K c' := by obtain ⟨c', kk, h1, r⟩ := A'; exact ⟨c', h1, kk, r⟩
  refine hH.push E' q1 ⟨q2, fun q hq => ?_⟩
  obtain ⟨r, hr, rfl⟩ := List.mem_map.mp hq
  obtain ⟨r1, r2⟩ := hN.mem r hr
  exact own_fd.of q1 (D' r1 r2)

theorem k_getfield (C : own_C p s m meth c Z own nm code ml rt) (X : own_S p l e R s m args below meth c Z T L k n) {i : Nat} {K f d host : String} {a : Addr} {v : Value} (hd : decode code pc = .ok (.getfield i, 3)) (hp : pc + 3 = npc) (hw : (Jvm.Cond.fieldLink own i K f d).before a0 Z = true ∨ (Jvm.Cond.fieldLinkNest own i K f d host).before a0 Z = true) (hF' : own_H Z.heap T.heap L → Fld Z T.heap a K f d v)
    (g : ∀ T', own_S p l e R s m args below meth c Z T' L k n → own_Go p.tables e below P (T'.setTop (mkF m npc ls (v :: st)))) : own_Go p.tables e below P (T.setTop (mkF m pc ls (.ref a :: st))) := by
  subst hp; obtain ⟨locs, X, hF, hH⟩ := X
  obtain ⟨T', X', e', st'⟩ := getF X C.1 C.2.2.2.1 C.2.2.2.2.1 hw Via.refl rfl (hF' hH) (g := mkF m pc ls (.ref a :: st)) rfl rfl (hb C.2.1 hd)
  exact (g T' ⟨locs, X', hF, by rw [e']; exact hH⟩).st st'

theorem k_putfield (C : own_C p s m meth c Z own nm code ml rt) (X : own_S p l e R s m args below meth c Z T L k n) {i ix j sl : Nat} {K f d host : String} {a : Addr} {v old : Value} {fs fs' : List (String × String × Value)} {N : List (String × String × FieldType)} {ty : FieldType} {L' : List (Addr × (Cell → Prop))} (hd : decode code pc = .ok (.putfield i, 3)) (hp : pc + 3 = npc) (hw : (Jvm.Cond.fieldLink own i K f d).before a0 Z = true ∨ (Jvm.Cond.fieldLinkNest own i K f d host).before a0 Z = true) (w2 : (Jvm.Cond.instantiable K sl).before a0 Z = true) (hlay : (Jvm.Cond.lays K K f d).before a0 Z = true ∨ ((Jvm.Cond.laysFinal K K f d).before a0 Z = true ∧ own = K ∧ nm = "<init>"))
    (hN : own_lay Z a0 K N) (hND : (N.map (·.1)).Nodup) (hi : L[ix]? = some (a, own_ob Z K fs)) (hfN : fs.map (fun q => (q.1, q.2.1)) = N.map (fun q => (q.1, q.2.1))) (hj : fs[j]? = some (f, d, old)) (hfs : fs.set j (f, d, v) = fs') (hty : parseFieldDescriptor d = some ty) (hnar : narrow ty v = v) (hfit : fits ty v = true) (hL : L.set ix (a, own_ob Z K fs') = L')
    (g : ∀ T', own_S p l e R s m args below meth c Z T' L' k n → own_Go p.tables e below P (T'.setTop (mkF m npc ls st))) : own_Go p.tables e below P (T.setTop (mkF m pc ls (v :: .ref a :: st))) := by
  subst hp hfs hL; obtain ⟨locs, X, hF, hH⟩ := X
  obtain ⟨ha, cc, h1, h2⟩ := hH.get hi
  have F := (h2.2 _ (List.mem_of_getElem? hj)).fld h1
  obtain ⟨T', h', X', e', W', st'⟩ := putF X C.1 C.2.2.2.1 C.2.2.2.2.1 hw Via.refl rfl F (h2.1.exa h1) (hlay.imp id fun q => ⟨q.1, q.2.1, C.2.2.2.2.2.1.trans q.2.2⟩) w2 hty hnar hfit (g := mkF m pc ls (v :: .ref a :: st)) rfl rfl (hb C.2.1 hd)
  subst e'
  refine (g T' ⟨_, X', Fr.snoc X' hF ha, ?_⟩).st st'
  have hname : ∀ q ∈ fs, ∃ t, Laid Z a0 K K q.1 q.2.1 ∧ parseFieldDescriptor q.2.1 = some t := fun q hq => by
    have : (q.1, q.2.1) ∈ N.map (fun q => (q.1, q.2.1)) := by rw [← hfN]; exact List.mem_map.mpr ⟨q, hq, rfl⟩
    obtain ⟨r, hr, e⟩ := List.mem_map.mp this
    obtain ⟨r1, r2⟩ := hN.mem r hr
    have e1 : r.1 = q.1 := congrArg Prod.fst e
    have e2 : r.2.1 = q.2.1 := congrArg Prod.snd e
    exact ⟨_, by rw [← e1, ← e2]; exact r1, by rw [← e2]; exact r2⟩
  have hnd : (fs.map (·.1)).Nodup := by
    have : fs.map (·.1) = N.map (·.1) := by
      have := congrArg (List.map Prod.fst) hfN
      simpa [List.map_map, Function.comp_def] using this
    rw [this]; exact hND
  obtain ⟨t1, hl1, hp1⟩ := hname _ (List.mem_of_getElem? hj)
  refine hH.set hi W' fun c hc hsl => ⟨?_, fun q hq => ?_⟩
  · obtain ⟨k1, r1, r2, r3, r4⟩ := hc.1
    exact ⟨k1, r1, r2, r3, fun q => by rw [← r4 q]; simp [Cell.setSlot]⟩
  · rcases own_setmem hq with rfl | ⟨j', hj', e⟩
    · obtain ⟨cf, k1, i1, f1, r1, r2, r3, r4, r5, r6⟩ := hc.2 _ (List.mem_of_getElem? hj)
      refine ⟨cf, k1, i1, f1, r1, r2, r3, r4, r5, ?_⟩
      have es : Jvm.RoadKit.slotOf Z K f d = f1.slot := by simp [Jvm.RoadKit.slotOf, r1]
      rw [es] at hsl ⊢
      simp [Cell.setSlot, hsl]
    · obtain ⟨cf, k1, i1, f1, r1, r2, r3, r4, r5, r6⟩ := hc.2 q (List.mem_of_getElem? e)
      refine ⟨cf, k1, i1, f1, r1, r2, r3, r4, r5, ?_⟩
      obtain ⟨t2, hl2, hp2⟩ := hname q (List.mem_of_getElem? e)
      have hne : q.1 ≠ f := own_nodup_ne (L := fs.map (·.1)) hnd (i := j') (j := j) (by rw [List.getElem?_map, e]; rfl) (by rw [List.getElem?_map, hj]; rfl) hj'
      have hs := slot_ne hl2 hl1 hne hp2 hp1
      have es : Jvm.RoadKit.slotOf Z K q.1 q.2.1 = f1.slot := by simp [Jvm.RoadKit.slotOf, r1]
      rw [es] at hs
      rw [← r6]
      simp only [Cell.setSlot]
      exact Array.getElem?_setIfInBounds_ne (fun z => hs z.symm)

theorem k_getstatic (C : own_C p s m meth c Z own nm code ml rt) (X : own_S p l e R s m args below meth c Z T L k n) {i : Nat} {K f d : String} {v : Value} (hd : decode code pc = .ok (.getstatic i, 3)) (hp : pc + 3 = npc) (hw : (Jvm.Cond.fieldLink own i K f d).before a0 Z = true) (F : Sta Z Z.heap K f d v)
    (g : ∀ T', own_S p l e R s m args below meth c Z T' L k n → own_Go p.tables e below P (T'.setTop (mkF m npc ls (v :: st)))) : own_Go p.tables e below P (T.setTop (mkF m pc ls st)) := by
  subst hp; obtain ⟨locs, X, hF, hH⟩ := X
  obtain ⟨T', X', e', st'⟩ := getS X C.1 C.2.2.2.1 (host := "") C.2.2.2.2.1 hw Via.refl rfl (F.ext hH.1) (g := mkF m pc ls st) rfl (hb C.2.1 hd)
  exact (g T' ⟨locs, X', hF, by rw [e']; exact hH⟩).st st'

theorem k_newarray (C : own_C p s m meth c Z own nm code ml rt) (X : own_S p l e R s m args below meth c Z T L k n) {aty : ArrayType} {ty : FieldType} {z : Int32} {cap : Nat} {vs : List Value} (hd : decode code pc = .ok (.newarray aty, 2)) (hp : pc + 2 = npc) (hty : newarray.typeOf aty = ty) (w1 : (Jvm.Cond.arrayClass ty).before a0 Z = true) (hz : ¬ z < 0) (hcap : z.toNatClampNeg ≤ cap) (hb' : cap * 8 ≤ 536870912) (hk : k + 1 ≤ R.cells) (hn : n + cap ≤ R.slots) (hvs : List.replicate z.toNatClampNeg (defaultValue ty) = vs)
    (g : ∀ T' a, own_S p l e R s m args below meth c Z T' ((a, own_ar Z ty vs) :: L) (k + 1) (n + cap) → own_Go p.tables e below P (T'.setTop (mkF m npc ls (.ref a :: st)))) : own_Go p.tables e below P (T.setTop (mkF m pc ls (.int z :: st))) := by
  subst hp hvs hty; obtain ⟨locs, X, hF, hH⟩ := X
  obtain ⟨T', h', cA, X', e', E', A', B', st'⟩ := newPE X C.1 C.2.2.2.1 w1 rfl (g := mkF m pc ls (.int z :: st)) rfl (hb C.2.1 hd) rfl hz hcap hb' hk hn (ad := "[" ++ (newarray.typeOf aty).toString) rfl
  subst e'
  refine (g T' _ ⟨locs, X', hF, ?_⟩).st st'
  exact hH.push E' A'.1 ⟨A'.2.1, A'.2.2, by simp [newA], own_ex.of B' A'.1⟩

theorem k_arraylength (C : own_C p s m meth c Z own nm code ml rt) (X : own_S p l e R s m args below meth c Z T L k n) {ix : Nat} {a : Addr} {ty : FieldType} {vs : List Value} {z : Int32} (hd : decode code pc = .ok (.arraylength, 1)) (hp : pc + 1 = npc) (hi : L[ix]? = some (a, own_ar Z ty vs)) (hz : vs.length.toInt32 = z) (g : own_Go p.tables e below P (T.setTop (mkF m npc ls (.int z :: st)))) : own_Go p.tables e below P (T.setTop (mkF m pc ls (.ref a :: st))) := by
  subst hp hz; obtain ⟨locs, X, hF, hH⟩ := X
  obtain ⟨-, cc, h1, h2⟩ := hH.get hi
  have e : cc.slots.size = vs.length := by rw [← h2.2.2.1]; simp
  rw [← e] at g
  exact g.st fun t k => X.arraylength C.1 h1 (State.isArrayOf_alike C.2.2.2.1.alike h2.1) (g := mkF m pc ls (.ref a :: st)) rfl rfl (hb C.2.1 hd) _ k
theorem own_in {j : Int32} {i : Nat} {c : Cell} {vs : List Value} {v : Value} (hn : ¬ j < 0) (hj : j.toNatClampNeg = i) (e : c.slots.toList = vs) (hv : vs[i]? = some v) : ¬ (j < 0 ∨ c.slots.size ≤ j.toNatClampNeg) ∧ c.slots[j.toNatClampNeg]? = some v := by
  subst hj e
  rw [Array.getElem?_toList] at hv
  have := (Array.getElem?_eq_some_iff.mp hv).1
  exact ⟨fun q => q.elim hn (by omega), hv⟩
theorem own_len32 (L : Nat) (h : L < 2147483648) : (L.toInt32).toNatClampNeg = L ∧ ¬ L.toInt32 < 0 := by
  have q : L.toInt32.toInt = L := len_toInt (by omega)
  simp only [Int32.lt_iff_toInt_lt, Int32.toNatClampNeg, q, Int32.reduceToInt]; omega

theorem k_iaload (C : own_C p s m meth c Z own nm code ml rt) (X : own_S p l e R s m args below meth c Z T L k n) {ix i : Nat} {a : Addr} {j : Int32} {vs : List Value} {v : Value} (hd : decode code pc = .ok (.iaload, 1)) (hp : pc + 1 = npc) (hi : L[ix]? = some (a, own_ar Z .int vs)) (hn : ¬ j < 0) (hj : j.toNatClampNeg = i) (hv : vs[i]? = some v) (g : own_Go p.tables e below P (T.setTop (mkF m npc ls (v :: st)))) : own_Go p.tables e below P (T.setTop (mkF m pc ls (.int j :: .ref a :: st))) := by
  subst hp; obtain ⟨locs, X, hF, hH⟩ := X
  obtain ⟨-, cc, h1, h2⟩ := hH.get hi
  obtain ⟨q1, q2⟩ := own_in hn hj h2.2.2.1 hv
  exact g.st fun t k => X.iaload C.1 h1 (State.isArrayOf_alike C.2.2.2.1.alike h2.1) h2.2.1 q1 q2 (g := mkF m pc ls (.int j :: .ref a :: st)) rfl rfl (hb C.2.1 hd) _ k

theorem k_daload (C : own_C p s m meth c Z own nm code ml rt) (X : own_S p l e R s m args below meth c Z T L k n) {ix i : Nat} {a : Addr} {j : Int32} {vs : List Value} {v : Value} (hd : decode code pc = .ok (.daload, 1)) (hp : pc + 1 = npc) (hi : L[ix]? = some (a, own_ar Z .double vs)) (hn : ¬ j < 0) (hj : j.toNatClampNeg = i) (hv : vs[i]? = some v) (g : own_Go p.tables e below P (T.setTop (mkF m npc ls (v :: st)))) : own_Go p.tables e below P (T.setTop (mkF m pc ls (.int j :: .ref a :: st))) := by
  subst hp; obtain ⟨locs, X, hF, hH⟩ := X
  obtain ⟨-, cc, h1, h2⟩ := hH.get hi
  obtain ⟨q1, q2⟩ := own_in hn hj h2.2.2.1 hv
  exact g.st fun t k => X.daload C.1 h1 (State.isArrayOf_alike C.2.2.2.1.alike h2.1) h2.2.1 q1 q2 (g := mkF m pc ls (.int j :: .ref a :: st)) rfl rfl (hb C.2.1 hd) _ k

theorem k_laload (C : own_C p s m meth c Z own nm code ml rt) (X : own_S p l e R s m args below meth c Z T L k n) {ix i : Nat} {a : Addr} {j : Int32} {vs : List Value} {v : Value} (hd : decode code pc = .ok (.laload, 1)) (hp : pc + 1 = npc) (hi : L[ix]? = some (a, own_ar Z .long vs)) (hn : ¬ j < 0) (hj : j.toNatClampNeg = i) (hv : vs[i]? = some v) (g : own_Go p.tables e below P (T.setTop (mkF m npc ls (v :: st)))) : own_Go p.tables e below P (T.setTop (mkF m pc ls (.int j :: .ref a :: st))) := by
  subst hp; obtain ⟨locs, X, hF, hH⟩ := X
  obtain ⟨-, cc, h1, h2⟩ := hH.get hi
  obtain ⟨q1, q2⟩ := own_in hn hj h2.2.2.1 hv
  exact g.st fun t k => X.laload C.1 h1 (State.isArrayOf_alike C.2.2.2.1.alike h2.1) h2.2.1 q1 q2 (g := mkF m pc ls (.int j :: .ref a :: st)) rfl rfl (hb C.2.1 hd) _ k

theorem k_caload (C : own_C p s m meth c Z own nm code ml rt) (X : own_S p l e R s m args below meth c Z T L k n) {ix i : Nat} {a : Addr} {j : Int32} {vs : List Value} {v : Value} (hd : decode code pc = .ok (.caload, 1)) (hp : pc + 1 = npc) (hi : L[ix]? = some (a, own_ar Z .char vs)) (hn : ¬ j < 0) (hj : j.toNatClampNeg = i) (hv : vs[i]? = some v) (g : own_Go p.tables e below P (T.setTop (mkF m npc ls (v :: st)))) : own_Go p.tables e below P (T.setTop (mkF m pc ls (.int j :: .ref a :: st))) := by
  subst hp; obtain ⟨locs, X, hF, hH⟩ := X
  obtain ⟨-, cc, h1, h2⟩ := hH.get hi
  obtain ⟨q1, q2⟩ := own_in hn hj h2.2.2.1 hv
  exact g.st fun t k => X.caload C.1 h1 (State.isArrayOf_alike C.2.2.2.1.alike h2.1) h2.2.1 q1 q2 (g := mkF m pc ls (.int j :: .ref a :: st)) rfl rfl (hb C.2.1 hd) _ k

theorem k_iastore (C : own_C p s m meth c Z own nm code ml rt) (X : own_S p l e R s m args below meth c Z T L k n) {ix i : Nat} {a : Addr} {j : Int32} {x : Int32} {vs vs' : List Value} {L' : List (Addr × (Cell → Prop))} (hd : decode code pc = .ok (.iastore, 1)) (hp : pc + 1 = npc) (hi : L[ix]? = some (a, own_ar Z .int vs)) (hn : ¬ j < 0) (hj : j.toNatClampNeg = i) (hl : i < vs.length) (hvs : vs.set i (.int x) = vs') (hL : L.set ix (a, own_ar Z .int vs') = L')
    (g : ∀ T', own_S p l e R s m args below meth c Z T' L' k n → own_Go p.tables e below P (T'.setTop (mkF m npc ls st))) : own_Go p.tables e below P (T.setTop (mkF m pc ls (.int x :: .int j :: .ref a :: st))) := by
  subst hp hvs hL; obtain ⟨locs, X, hF, hH⟩ := X
  obtain ⟨ha, cc, h1, h2⟩ := hH.get hi
  obtain ⟨q1, -⟩ := own_in hn hj h2.2.2.1 (List.getElem?_eq_getElem hl)
  obtain ⟨T', h', X', e', W', st'⟩ := stI X C.1 C.2.2.2.1 rfl (h2.arr h1) (j := j) (x := x) q1 (g := mkF m pc ls (.int x :: .int j :: .ref a :: st)) rfl rfl (hb C.2.1 hd)
  subst e'
  refine (g T' ⟨_, X', Fr.snoc X' hF ha, ?_⟩).st st'
  refine hH.set hi W' fun c hc hsl => ⟨hc.1, hc.2.1, ?_, ?_⟩
  · rw [← hc.2.2.1, hj]; simp [Cell.setSlot]
  · obtain ⟨k1, r1, r2, r3, r4⟩ := hc.2.2.2
    exact ⟨k1, r1, r2, r3, fun q => by rw [← r4 q]; simp [Cell.setSlot]⟩

theorem k_dastore (C : own_C p s m meth c Z own nm code ml rt) (X : own_S p l e R s m args below meth c Z T L k n) {ix i : Nat} {a : Addr} {j : Int32} {x : UInt64} {vs vs' : List Value} {L' : List (Addr × (Cell → Prop))} (hd : decode code pc = .ok (.dastore, 1)) (hp : pc + 1 = npc) (hi : L[ix]? = some (a, own_ar Z .double vs)) (hn : ¬ j < 0) (hj : j.toNatClampNeg = i) (hl : i < vs.length) (hvs : vs.set i (.double x) = vs') (hL : L.set ix (a, own_ar Z .double vs') = L')
    (g : ∀ T', own_S p l e R s m args below meth c Z T' L' k n → own_Go p.tables e below P (T'.setTop (mkF m npc ls st))) : own_Go p.tables e below P (T.setTop (mkF m pc ls (.double x :: .int j :: .ref a :: st))) := by
  subst hp hvs hL; obtain ⟨locs, X, hF, hH⟩ := X
  obtain ⟨ha, cc, h1, h2⟩ := hH.get hi
  obtain ⟨q1, -⟩ := own_in hn hj h2.2.2.1 (List.getElem?_eq_getElem hl)
  obtain ⟨T', h', X', e', W', st'⟩ := stD X C.1 C.2.2.2.1 rfl (h2.arr h1) (j := j) (x := x) q1 (g := mkF m pc ls (.double x :: .int j :: .ref a :: st)) rfl rfl (hb C.2.1 hd)
  subst e'
  refine (g T' ⟨_, X', Fr.snoc X' hF ha, ?_⟩).st st'
  refine hH.set hi W' fun c hc hsl => ⟨hc.1, hc.2.1, ?_, ?_⟩
  · rw [← hc.2.2.1, hj]; simp [Cell.setSlot]
  · obtain ⟨k1, r1, r2, r3, r4⟩ := hc.2.2.2
    exact ⟨k1, r1, r2, r3, fun q => by rw [← r4 q]; simp [Cell.setSlot]⟩

theorem k_lastore (C : own_C p s m meth c Z own nm code ml rt) (X : own_S p l e R s m args below meth c Z T L k n) {ix i : Nat} {a : Addr} {j : Int32} {x : Int64} {vs vs' : List Value} {L' : List (Addr × (Cell → Prop))} (hd : decode code pc = .ok (.lastore, 1)) (hp : pc + 1 = npc) (hi : L[ix]? = some (a, own_ar Z .long vs)) (hn : ¬ j < 0) (hj : j.toNatClampNeg = i) (hl : i < vs.length) (hvs : vs.set i (.long x) = vs') (hL : L.set ix (a, own_ar Z .long vs') = L')
    (g : ∀ T', own_S p l e R s m args below meth c Z T' L' k n → own_Go p.tables e below P (T'.setTop (mkF m npc ls st))) : own_Go p.tables e below P (T.setTop (mkF m pc ls (.long x :: .int j :: .ref a :: st))) := by
  subst hp hvs hL; obtain ⟨locs, X, hF, hH⟩ := X
  obtain ⟨ha, cc, h1, h2⟩ := hH.get hi
  obtain ⟨q1, -⟩ := own_in hn hj h2.2.2.1 (List.getElem?_eq_getElem hl)
  obtain ⟨T', h', X', e', W', st'⟩ := stJ X C.1 C.2.2.2.1 rfl (h2.arr h1) (j := j) (x := x) q1 (g := mkF m pc ls (.long x :: .int j :: .ref a :: st)) rfl rfl (hb C.2.1 hd)
  subst e'
  refine (g T' ⟨_, X', Fr.snoc X' hF ha, ?_⟩).st st'
  refine hH.set hi W' fun c hc hsl => ⟨hc.1, hc.2.1, ?_, ?_⟩
  · rw [← hc.2.2.1, hj]; simp [Cell.setSlot]
  · obtain ⟨k1, r1, r2, r3, r4⟩ := hc.2.2.2
    exact ⟨k1, r1, r2, r3, fun q => by rw [← r4 q]; simp [Cell.setSlot]⟩

theorem own_fitsD (xs : List UInt64) : ∀ v ∈ xs.map Value.double, fits .double v = true := fun v hv => by obtain ⟨x, -, rfl⟩ := List.mem_map.mp hv; rfl
theorem k_clone (C : own_C p s m meth c Z own nm code ml rt) (X : own_S p l e R s m args below meth c Z T L k n) {i ix cap W : Nat} {a : Addr} {ty : FieldType} {ad : String} {vs : List Value} (hd : decode code pc = .ok (.invokevirtual i, 3)) (hp : pc + 3 = npc) (w1 : (Jvm.Cond.methodLink own i ⟨ad, "clone", "()Ljava/lang/Object;"⟩).before a0 Z = true) (w2 : (Jvm.Cond.sameMethod ad "java/lang/Object" "clone" "()Ljava/lang/Object;").before a0 Z = true) (w3 : (Jvm.Cond.native ⟨"java/lang/Object", "clone", "()Ljava/lang/Object;"⟩).before a0 Z = true) (w4 : (Jvm.Cond.instanceMethod ⟨"java/lang/Object", "clone", "()Ljava/lang/Object;"⟩).before a0 Z = true) (w5 : (Jvm.Cond.selects ad ⟨ad, "clone", "()Ljava/lang/Object;"⟩ ⟨"java/lang/Object", "clone", "()Ljava/lang/Object;"⟩).before a0 Z = true) (w6 : (Jvm.Cond.castable ad "java/lang/Cloneable").before a0 Z = true)
    (hi : L[ix]? = some (a, own_ar Z ty vs)) (had : "[" ++ ty.toString = ad) (hfit : ∀ v ∈ vs, fits ty v = true) (hsz : ls.size = ml) (hW : (st.map fun v => v.category).sum ≤ W) (hf : 1 ≤ R.frames) (hlo : W + 14 ≤ R.locals) (hcap : vs.length ≤ cap) (hk : k + 1 ≤ R.cells) (hn : n + cap ≤ R.slots)
    (g : ∀ T' b, own_S p l e R s m args below meth c Z T' ((b, own_ar Z ty vs) :: L) (k + 1) (n + cap) → own_Go p.tables e below P (T'.setTop (mkF m npc ls (.ref b :: st)))) : own_Go p.tables e below P (T.setTop (mkF m pc ls (.ref a :: st))) := by
  subst hp had; obtain ⟨locs, X, hF, hH⟩ := X
  obtain ⟨-, cc, h1, h2⟩ := hH.get hi
  have A := h2.arr h1
  have FC : FitC Z cc := fitC_of A fun j hj v hv => hfit v (by rw [← h2.2.2.1]; exact Array.mem_toList_iff.mpr (Array.mem_of_getElem? hv))
  have hl : cc.slots.size = vs.length := by rw [← h2.2.2.1]; simp
  obtain ⟨T', h', X', e', E', A', B', st'⟩ := cloneA X C.1 C.2.2.2.1 C.2.2.2.2.1 w1 w2 w3 w4 w5 w6 rfl A (h2.2.2.2.exa h1) FC (g := mkF m pc ls (.ref a :: st)) rfl (hsz.trans C.2.2.1.symm) rfl (hb C.2.1 hd) hf (W := W) (cap := cap) (by show 2 * 0 + _ ≤ _; omega) hlo (by omega) hk hn
  subst e'
  refine (g T' _ ⟨locs, X', hF, ?_⟩).st st'
  exact hH.push E' A'.1 ⟨A'.2.1, A'.2.2, h2.2.2.1, own_ex.of B' A'.1⟩
theorem k_checkcast (C : own_C p s m meth c Z own nm code ml rt) (X : own_S p l e R s m args below meth c Z T L k n) {i : Nat} {a : Addr} {K : String} (hd : decode code pc = .ok (.checkcast i, 3)) (hp : pc + 3 = npc) (hw : (Jvm.Cond.classLink own i K).before a0 Z = true) (hI : own_H Z.heap T.heap L → Ins Z T.heap a K true)
    (g : ∀ T', own_S p l e R s m args below meth c Z T' L k n → own_Go p.tables e below P (T'.setTop (mkF m npc ls (.ref a :: st)))) : own_Go p.tables e below P (T.setTop (mkF m pc ls (.ref a :: st))) := by
  subst hp; obtain ⟨locs, X, hF, hH⟩ := X
  obtain ⟨T', X', e', st'⟩ := castY X C.1 C.2.2.2.1 C.2.2.2.2.1 hw rfl (hI hH) (g := mkF m pc ls (.ref a :: st)) rfl rfl (hb C.2.1 hd)
  exact (g T' ⟨locs, X', hF, by rw [e']; exact hH⟩).st st'
theorem own_iA {ix : Nat} {a : Addr} {ty : FieldType} {K : String} {vs : List Value} (hi : L[ix]? = some (a, own_ar Z ty vs)) (hK : "[" ++ ty.toString = K) (H : own_H Z.heap T.heap L) : Ins Z T.heap a K true := by
  subst hK
  obtain ⟨-, cc, h1, h2⟩ := H.get hi
  exact Ins.self (h2.2.2.2.exa h1)

theorem own_Con.back {y : MethodName} {bytes : ByteArray} {maxL : Nat} {ret : Option FieldType} {rm : Room} {as' : Array Value} {Q : Option Value → List (Addr × (Cell → Prop)) → Prop} (K : own_Con l Z y bytes maxL ret rm as' L Q) (hZ : Z.Warmed39 s.vm) (hH : own_H Z.heap T.heap L) (wc : (Jvm.Cond.code y bytes maxL ret).before a0 Z = true) (wz : (Jvm.Cond.initialized y.cls).before a0 Z = true) {W : Nat} (hf : rm.frames + 1 ≤ R.frames) (hl : W + (maxL + 11) + rm.locals ≤ R.locals) :
    Back l R p e below s args y 3 W (fun A a => a = as' ∧ A.U.heap = T.heap ∧ A.cells + rm.cells ≤ R.cells ∧ A.slots + rm.slots ≤ R.slots)
      (fun A _ v B => ∃ L0, (∃ M, Q v M ∧ own_H Z.heap B.U.heap M ∧ Fr Z.heap.size L0) ∧ B.locs = A.locs ++ L0 ∧ B.cells = A.cells + rm.cells ∧ B.slots = A.slots + rm.slots) :=
  backOf (h := T.heap) (Q := fun v h L0 => ∃ M, Q v M ∧ own_H Z.heap h M ∧ Fr Z.heap.size L0) ((K []).mono (fun a U q => ⟨q.1, q.2.1, by rw [q.2.2]; exact hH⟩) (fun _ _ _ _ _ q => q) fun a U o U' _ ⟨v, M, locs, q1, q2, q3, q4, q5⟩ => ⟨v, locs, q1, ⟨M, q2, q3, q4⟩, q5⟩) hZ wc wz hf hl
theorem own_Con.weak {y : MethodName} {bytes : ByteArray} {maxL : Nat} {ret : Option FieldType} {rm : Room} {as' : Array Value} {Q Q' : Option Value → List (Addr × (Cell → Prop)) → Prop} (K : own_Con l Z y bytes maxL ret rm as' L Q) (h : ∀ v M, Q v M → Q' v M) : own_Con l Z y bytes maxL ret rm as' L Q' := fun ws =>
  (K ws).mono (fun _ _ q => q) (fun _ _ _ _ _ q => q) fun a U o U' _ ⟨v, M, locs, q1, q2, q3⟩ => ⟨v, M, locs, q1, h v M q2, q3⟩

theorem k_static (C : own_C p s m meth c Z own nm code ml rt) (X : own_S p l e R s m args below meth c Z T L k n) {y : MethodName} {i : Nat} {bytes : ByteArray} {maxL : Nat} {ret : Option FieldType} {rm : Room} {as' : Array Value} {Q : Option Value → List (Addr × (Cell → Prop)) → Prop} {W : Nat} {rest argsL : List Value} {ps : List FieldType} {rr : Option FieldType} (hd : decode code pc = .ok (.invokestatic i, 3)) (hp : pc + 3 = npc) (w1 : (Jvm.Cond.methodLink own i y).before a0 Z = true) (w2 : (Jvm.Cond.static y).before a0 Z = true) (w3 : (Jvm.Cond.initialized y.cls).before a0 Z = true) (w4 : (Jvm.Cond.code y bytes maxL ret).before a0 Z = true) (hy : y.cls ≠ "java/lang/invoke/MethodHandle" ∧ y.cls ≠ "java/lang/invoke/VarHandle") (K : own_Con l Z y bytes maxL ret rm as' L Q) (hst : argsL.reverse ++ rest = st) (has : argsL.toArray = as') (hsz : ls.size = ml) (hpd : parseMethodDescriptor y.desc = some ⟨ps, rr⟩) (hle : argsL.length = ps.length) (hW : (rest.map fun v => v.category).sum ≤ W) (hf : rm.frames + 1 ≤ R.frames) (hlo : W + (maxL + 11) + rm.locals ≤ R.locals) (hk : k + rm.cells ≤ R.cells) (hn : n + rm.slots ≤ R.slots)
    (g : ∀ v T' M, Q v M → own_S p l e R s m args below meth c Z T' M (k + rm.cells) (n + rm.slots) → own_Go p.tables e below P (T'.setTop (mkF m npc ls (v.toList ++ rest)))) : own_Go p.tables e below P (T.setTop (mkF m pc ls st)) := by
  subst hp hst has; obtain ⟨locs, X, hF, hH⟩ := X
  obtain ⟨v, vm1, ⟨T1, Lq, kq, nq⟩, -, X1, ⟨L0, ⟨M, hQ, hH1, hF1⟩, hl1, hc1, hs1⟩, st1⟩ := Jvm.LawKit.callS X C.1 (y := y) C.2.2.2.2.1 (mvT C.2.2.2.1 w1) (mvT C.2.2.2.1 w2) (mvT C.2.2.2.1 w3) (mvT C.2.2.2.1 w4) hy (K.back (T := T) (W := W) C.2.2.2.1 hH w4 w3 hf hlo) (g := mkF m pc ls (argsL.reverse ++ rest)) rfl (hsz.trans C.2.2.1.symm) (argsL := argsL) (rest := rest) (lenOf hpd hle) rfl (by show 2 * 0 + _ ≤ _; omega) (hb C.2.1 hd) (fun _ _ => ⟨rfl, rfl, hk, hn⟩)
  dsimp only [Pt.U, Pt.locs, Pt.cells, Pt.slots] at X1 hl1 hc1 hs1 st1 hH1
  subst hl1 hc1 hs1
  exact (g v T1 M hQ ⟨_, X1, hF.app hF1, hH1⟩).st st1
theorem k_init (C : own_C p s m meth c Z own nm code ml rt) (X : own_S p l e R s m args below meth c Z T L k n) {y : MethodName} {i : Nat} {bytes : ByteArray} {maxL : Nat} {rm : Room} {as' : Array Value} {Q : Option Value → List (Addr × (Cell → Prop)) → Prop} {W : Nat} {rest argsL : List Value} {ps : List FieldType} {rr : Option FieldType} {a : Addr} (hd : decode code pc = .ok (.invokespecial i, 3)) (hp : pc + 3 = npc) (hnm : y.name = "<init>") (w1 : (Jvm.Cond.methodLink own i y).before a0 Z = true) (w2 : (Jvm.Cond.instanceMethod y).before a0 Z = true) (w3 : (Jvm.Cond.initialized y.cls).before a0 Z = true) (w4 : (Jvm.Cond.code y bytes maxL none).before a0 Z = true) (hy : y.cls ≠ "java/lang/invoke/MethodHandle" ∧ y.cls ≠ "java/lang/invoke/VarHandle") (K : own_Con l Z y bytes maxL none rm as' L Q) (hst : argsL.reverse ++ .ref a :: rest = st) (has : (.ref a :: argsL).toArray = as') (hsz : ls.size = ml) (hpd : parseMethodDescriptor y.desc = some ⟨ps, rr⟩) (hle : argsL.length = ps.length) (hW : (rest.map fun v => v.category).sum ≤ W) (hf : rm.frames + 1 ≤ R.frames) (hlo : W + (maxL + 11) + rm.locals ≤ R.locals) (hk : k + rm.cells ≤ R.cells) (hn : n + rm.slots ≤ R.slots)
    (g : ∀ v T' M, Q v M → own_S p l e R s m args below meth c Z T' M (k + rm.cells) (n + rm.slots) → own_Go p.tables e below P (T'.setTop (mkF m npc ls (v.toList ++ rest)))) : own_Go p.tables e below P (T.setTop (mkF m pc ls st)) := by
  subst hp hst has; obtain ⟨locs, X, hF, hH⟩ := X
  obtain ⟨v, vm1, ⟨T1, Lq, kq, nq⟩, -, X1, ⟨L0, ⟨M, hQ, hH1, hF1⟩, hl1, hc1, hs1⟩, st1⟩ := X.specialBack C.1 (y := y) hnm C.2.2.2.2.1 (mvT C.2.2.2.1 w1) (mvT C.2.2.2.1 w2) (mvT C.2.2.2.1 w4) hy (K.back (T := T) (W := W) C.2.2.2.1 hH w4 w3 hf hlo) (g := mkF m pc ls (argsL.reverse ++ .ref a :: rest)) rfl (hsz.trans C.2.2.1.symm) (Steps.refl _) (a := a) (argsL := argsL) (rest := rest) (lenOf hpd hle) rfl (by show 2 * 0 + _ ≤ _; omega) (hb C.2.1 hd) (fun _ _ => ⟨rfl, rfl, hk, hn⟩)
  dsimp only [Pt.U, Pt.locs, Pt.cells, Pt.slots] at X1 hl1 hc1 hs1 st1 hH1
  subst hl1 hc1 hs1
  exact (g v T1 M hQ ⟨_, X1, hF.app hF1, hH1⟩).st fun t q => st1.trans q
theorem k_virtual (C : own_C p s m meth c Z own nm code ml rt) (X : own_S p l e R s m args below meth c Z T L k n) {y : MethodName} {i : Nat} {bytes : ByteArray} {maxL : Nat} {ret : Option FieldType} {rm : Room} {as' : Array Value} {Q : Option Value → List (Addr × (Cell → Prop)) → Prop} {W : Nat} {rest argsL : List Value} {ps : List FieldType} {rr : Option FieldType} {K' : String} {a : Addr} (hd : decode code pc = .ok (.invokevirtual i, 3)) (hp : pc + 3 = npc) (w1 : (Jvm.Cond.methodLink own i y).before a0 Z = true) (w2 : (Jvm.Cond.declares y).before a0 Z = true) (w3 : (Jvm.Cond.initialized y.cls).before a0 Z = true) (w4 : (Jvm.Cond.code y bytes maxL ret).before a0 Z = true) (w5 : (Jvm.Cond.selects K' y y).before a0 Z = true) (w6 : (Jvm.Cond.instanceMethod y).before a0 Z = true) (hy : y.cls ≠ "java/lang/invoke/MethodHandle" ∧ y.cls ≠ "java/lang/invoke/VarHandle") (nf : NotFace s y) (hE : own_H Z.heap T.heap L → Exa Z T.heap a K') (K : own_Con l Z y bytes maxL ret rm as' L Q) (hst : argsL.reverse ++ .ref a :: rest = st) (has : (.ref a :: argsL).toArray = as') (hsz : ls.size = ml) (hpd : parseMethodDescriptor y.desc = some ⟨ps, rr⟩) (hle : argsL.length = ps.length) (hW : (rest.map fun v => v.category).sum ≤ W) (hf : rm.frames + 1 ≤ R.frames) (hlo : W + (maxL + 11) + rm.locals ≤ R.locals) (hk : k + rm.cells ≤ R.cells) (hn : n + rm.slots ≤ R.slots)
    (g : ∀ v T' M, Q v M → own_S p l e R s m args below meth c Z T' M (k + rm.cells) (n + rm.slots) → own_Go p.tables e below P (T'.setTop (mkF m npc ls (v.toList ++ rest)))) : own_Go p.tables e below P (T.setTop (mkF m pc ls st)) := by
  subst hp hst has; obtain ⟨locs, X, hF, hH⟩ := X
  obtain ⟨cB, kB, qa, -, qc⟩ := isOf (T := T) C.2.2.2.1 rfl (hE hH)
  obtain ⟨v, vm1, ⟨T1, Lq, kq, nq⟩, -, X1, ⟨L0, ⟨M, hQ, hH1, hF1⟩, hl1, hc1, hs1⟩, st1⟩ := X.virtualBack C.1 (y := y) (z := y) C.2.2.2.2.1 (mvT C.2.2.2.1 w1) (mvT C.2.2.2.1 w2) nf (mvT C.2.2.2.1 w5) (mvT C.2.2.2.1 w6) hy (K.back (T := T) (W := W) C.2.2.2.1 hH w4 w3 hf hlo) qa qc (g := mkF m pc ls (argsL.reverse ++ .ref a :: rest)) rfl (hsz.trans C.2.2.1.symm) (Steps.refl _) (argsL := argsL) (rest := rest) (lenOf hpd hle) rfl (by show 2 * 0 + _ ≤ _; omega) (hb C.2.1 hd) (fun _ _ => ⟨rfl, rfl, hk, hn⟩)
  dsimp only [Pt.U, Pt.locs, Pt.cells, Pt.slots] at X1 hl1 hc1 hs1 st1 hH1
  subst hl1 hc1 hs1
  exact (g v T1 M hQ ⟨_, X1, hF.app hF1, hH1⟩).st fun t q => st1.trans q
theorem k_initO (C : own_C p s m meth c Z own nm code ml rt) (X : own_S p l e R s m args below meth c Z T L k n) {i : Nat} {a : Addr} {W : Nat} (hd : decode code pc = .ok (.invokespecial i, 3)) (hp : pc + 3 = npc) (w1 : (Jvm.Cond.methodLink own i Lib.objectInit).before a0 Z = true) (w2 : (Jvm.Cond.instanceMethod Lib.objectInit).before a0 Z = true) (w3 : (Jvm.Cond.code Lib.objectInit ⟨#[0xb1]⟩ 1 none).before a0 Z = true) (hsz : ls.size = ml) (hW : (st.map fun v => v.category).sum ≤ W) (hf : 1 ≤ R.frames) (hlo : W + 12 ≤ R.locals)
    (g : ∀ T', own_S p l e R s m args below meth c Z T' L k n → own_Go p.tables e below P (T'.setTop (mkF m npc ls st))) : own_Go p.tables e below P (T.setTop (mkF m pc ls (.ref a :: st))) := by
  subst hp; obtain ⟨locs, X, hF, hH⟩ := X
  obtain ⟨T', X', e', st'⟩ := initO X C.1 C.2.2.2.1 C.2.2.2.2.1 w1 w2 w3 rfl (g := mkF m pc ls (.ref a :: st)) rfl (hsz.trans C.2.2.1.symm) rfl (hb C.2.1 hd) hf (W := W) (by show 2 * 0 + _ ≤ _; omega) hlo
  exact (g T' ⟨locs, X', hF, by rw [e']; exact hH⟩).st st'

theorem k_abs (C : own_C p s m meth c Z own nm code ml rt) (X : own_S p l e R s m args below meth c Z T L k n) {i : Nat} {bytes : ByteArray} {maxL W : Nat} {x : UInt64} (hd : decode code pc = .ok (.invokestatic i, 3)) (hp : pc + 3 = npc) (w1 : (Jvm.Cond.methodLink own i Jvm.Free.NT.mathAbs64N).before a0 Z = true) (w2 : (Jvm.Cond.static Jvm.Free.NT.mathAbs64N).before a0 Z = true) (w3 : (Jvm.Cond.initialized "java/lang/Math").before a0 Z = true) (w4 : (Jvm.Cond.code Jvm.Free.NT.mathAbs64N bytes maxL (some .double)).before a0 Z = true) (hx : Jvm.Free.Fl.NoNaN64 x) (hsz : ls.size = ml) (hW : (st.map fun v => v.category).sum ≤ W) (hf : 1 ≤ R.frames) (hlo : W + (maxL + 11) ≤ R.locals)
    (g : ∀ T', own_S p l e R s m args below meth c Z T' L k n → own_Go p.tables e below P (T'.setTop (mkF m npc ls (.double (x &&& 0x7fffffffffffffff) :: st)))) : own_Go p.tables e below P (T.setTop (mkF m pc ls (.double x :: st))) := by
  subst hp; obtain ⟨locs, X, hF, hH⟩ := X
  obtain ⟨v, vm1, ⟨T1, Lq, kq, nq⟩, -, X1, ⟨hB, hv⟩, st1⟩ := Jvm.LawKit.callS X C.1 (y := Jvm.Free.NT.mathAbs64N) C.2.2.2.2.1 (mvT C.2.2.2.1 w1) (mvT C.2.2.2.1 w2) (mvT C.2.2.2.1 w3) (mvT C.2.2.2.1 w4) (by decide) (Jvm.Free.NT.Abs64.pays (W := W) (len := 3) (mvT C.2.2.2.1 w4) (mvT C.2.2.2.1 w2) hf hlo) (g := mkF m pc ls (.double x :: st)) rfl (hsz.trans C.2.2.1.symm) (argsL := [.double x]) (rest := st) (lenOf Jvm.Free.NT.mathAbs64_desc rfl) rfl (by show 2 * 0 + _ ≤ _; omega) (hb C.2.1 hd) (fun _ _ => ⟨x, rfl, hx⟩)
  cases hB
  rw [hv x ⟨rfl, hx⟩] at st1
  exact (g _ ⟨locs, X1, hF, hH⟩).st st1

theorem k_return (C : own_C p s m meth c Z own nm code ml none) (X : own_S p l e R s m args below meth c Z T L k n) {Q : Option Value → List (Addr × (Cell → Prop)) → Prop} (hd : decode code pc = .ok (.return_, 1)) (hQ : Q none L) (hk : k ≤ R.cells) (hn : n ≤ R.slots) : own_Go p.tables e below (own_E Z s R Q) (T.setTop (mkF m pc ls [])) := by
  obtain ⟨locs, X, hF, hH⟩ := X
  obtain ⟨fs, hr, hrun, hended, hW, hsame⟩ := X.leave (v := none) (fun _ => rfl) C.2.2.2.2.2.2.2
  exact ⟨_, _, X.returnOut C.1 C.2.2.2.2.2.2.1 (hb C.2.1 hd) hr, hrun, hended, none, L, locs, rfl, hQ, hH, hF, ⟨_, rfl⟩, hW, hsame.mono hk hn⟩

theorem k_ireturn {t : FieldType} (C : own_C p s m meth c Z own nm code ml (some t)) (X : own_S p l e R s m args below meth c Z T L k n) {x : Int32} {Q : Option Value → List (Addr × (Cell → Prop)) → Prop} (hd : decode code pc = .ok (.ireturn, 1)) (ht : t = .int ∨ t = .boolean ∨ t = .byte ∨ t = .char ∨ t = .short) (hnr : narrow t (.int x) = .int x) (hQ : Q (some (.int x)) L) (hk : k ≤ R.cells) (hn : n ≤ R.slots) : own_Go p.tables e below (own_E Z s R Q) (T.setTop (mkF m pc ls (.int x :: st))) := by
  obtain ⟨locs, X, hF, hH⟩ := X
  obtain ⟨fs, hr, hrun, hended, hW, hsame⟩ := X.leave (v := some (.int x)) (fun h => by rw [C.2.2.2.2.2.2.1] at h; cases h) C.2.2.2.2.2.2.2
  exact ⟨_, _, retOut X C.1 C.2.2.2.2.2.2.1 hnr (Or.inl ⟨rfl, ht, x, rfl⟩) (hb C.2.1 hd) hr, hrun, hended, _, L, locs, rfl, hQ, hH, hF, ⟨_, rfl⟩, hW, hsame.mono hk hn⟩

theorem k_lreturn (C : own_C p s m meth c Z own nm code ml (some .long)) (X : own_S p l e R s m args below meth c Z T L k n) {x : Int64} {Q : Option Value → List (Addr × (Cell → Prop)) → Prop} (hd : decode code pc = .ok (.lreturn, 1)) (hQ : Q (some (.long x)) L) (hk : k ≤ R.cells) (hn : n ≤ R.slots) : own_Go p.tables e below (own_E Z s R Q) (T.setTop (mkF m pc ls (.long x :: st))) := by
  obtain ⟨locs, X, hF, hH⟩ := X
  obtain ⟨fs, hr, hrun, hended, hW, hsame⟩ := X.leave (v := some (.long x)) (fun h => by rw [C.2.2.2.2.2.2.1] at h; cases h) C.2.2.2.2.2.2.2
  exact ⟨_, _, retOut X C.1 C.2.2.2.2.2.2.1 rfl (Or.inr (Or.inl ⟨rfl, rfl, x, rfl⟩)) (hb C.2.1 hd) hr, hrun, hended, _, L, locs, rfl, hQ, hH, hF, ⟨_, rfl⟩, hW, hsame.mono hk hn⟩

theorem k_dreturn (C : own_C p s m meth c Z own nm code ml (some .double)) (X : own_S p l e R s m args below meth c Z T L k n) {x : UInt64} {Q : Option Value → List (Addr × (Cell → Prop)) → Prop} (hd : decode code pc = .ok (.dreturn, 1)) (hQ : Q (some (.double x)) L) (hk : k ≤ R.cells) (hn : n ≤ R.slots) : own_Go p.tables e below (own_E Z s R Q) (T.setTop (mkF m pc ls (.double x :: st))) := by
  obtain ⟨locs, X, hF, hH⟩ := X
  obtain ⟨fs, hr, hrun, hended, hW, hsame⟩ := X.leave (v := some (.double x)) (fun h => by rw [C.2.2.2.2.2.2.1] at h; cases h) C.2.2.2.2.2.2.2
  exact ⟨_, _, retOut X C.1 C.2.2.2.2.2.2.1 rfl (Or.inr (Or.inr (Or.inl ⟨rfl, rfl, x, rfl⟩))) (hb C.2.1 hd) hr, hrun, hended, _, L, locs, rfl, hQ, hH, hF, ⟨_, rfl⟩, hW, hsame.mono hk hn⟩

theorem k_areturn {t : FieldType} (C : own_C p s m meth c Z own nm code ml (some t)) (X : own_S p l e R s m args below meth c Z T L k n) {x : Value} {Q : Option Value → List (Addr × (Cell → Prop)) → Prop} (hd : decode code pc = .ok (.areturn, 1)) (ht : t.isReference = true) (hx : x.isRef = true) (hnr : narrow t x = x) (hQ : Q (some (x)) L) (hk : k ≤ R.cells) (hn : n ≤ R.slots) : own_Go p.tables e below (own_E Z s R Q) (T.setTop (mkF m pc ls (x :: st))) := by
  obtain ⟨locs, X, hF, hH⟩ := X
  obtain ⟨fs, hr, hrun, hended, hW, hsame⟩ := X.leave (v := some (x)) (fun h => by rw [C.2.2.2.2.2.2.1] at h; cases h) C.2.2.2.2.2.2.2
  exact ⟨_, _, retOut X C.1 C.2.2.2.2.2.2.1 hnr (Or.inr (Or.inr (Or.inr (Or.inr ⟨rfl, ht, hx⟩)))) (hb C.2.1 hd) hr, hrun, hended, _, L, locs, rfl, hQ, hH, hF, ⟨_, rfl⟩, hW, hsame.mono hk hn⟩

theorem own_nf {y : MethodName} {K' : String} (hZ : Z.Warmed39 s.vm) (w : (Jvm.Cond.selects K' y y).before a0 Z = true) : NotFace s y := notFace_of_selects (args := #[]) (mvT hZ w)
theorem own_i32 (x : Int32) : -2147483648 ≤ x.toInt ∧ x.toInt ≤ 2147483647 := by have h1 := Int32.toInt_lt x; have h2 := Int32.le_toInt x; omega
theorem own_fin {i : Int} {a : UInt64} (h : Jvm.FP.Core.DInt i a) : Jvm.Free.Fl.Fin64 a := by
  refine Jvm.Free.Fl.fin64_core.mpr ?_
  unfold Jvm.FP.Core.DInt at h
  rcases hv : Jvm.FP.Core.val64 a with _ | _ | ⟨s, c, q⟩
  · rw [hv] at h; exact h.elim
  · rw [hv] at h; exact h.elim
  · exact ⟨s, c, q, hv⟩
theorem own_nn {i : Int} {a : UInt64} (h : Jvm.FP.Core.DInt i a) : Jvm.Free.Fl.NoNaN64 a := (own_fin h).noNaN
theorem own_l (x : Int32) : x.toInt64.toInt = x.toInt := Int32.toInt_toInt64 x
theorem own_eq {i j : Int} {a b : UInt64} (ha : Jvm.FP.Core.DInt i a) (hb : Jvm.FP.Core.DInt j b) (h : i = j) : FP.dcmp a b = some .eq := by
  have q := Jvm.FP.Core.dcmp_int ha hb
  rw [show FP.dcmp a b = Jvm.FP.Core.dcmp a b from rfl, q, h, Jvm.FP.Core.compare_eq_iff _ _ |>.mpr rfl]
theorem own_lit (n : Int32) {d : UInt64} (h : FP.i2d n = d) : Jvm.FP.Core.DInt n.toInt d := h ▸ Jvm.FP.Core.i2d_int n
theorem own_litI (n : Int32) {d : UInt64} {i : Int} (h : FP.i2d n = d) (hi : n.toInt = i) : Jvm.FP.Core.DInt i d := hi ▸ h ▸ Jvm.FP.Core.i2d_int n
theorem own_self {x : UInt64} (h : Jvm.Free.Fl.NoNaN64 x) : FP.dcmp x x = some .eq := by
  have q := dcmpV_self h .l
  rcases hq : FP.dcmp x x with _ | (_ | _ | _) <;> rw [hq] at q <;> first | rfl | exact absurd q (by decide)
theorem own_mask (x : Int32) : ¬ (x &&& 2147483647) < 0 := fun h => absurd ((Jvm.Free.XT.and_neg32 _ _).mp h).2 (by decide)
theorem own_mod (m : Int32) (hm : 0 < m.toInt) {x : Int32} (hx : ¬ x < 0) : ¬ (x % m) < 0 ∧ (x % m).toNatClampNeg < m.toNatClampNeg ∧ 0 ≤ (x % m).toInt ∧ (x % m).toInt < m.toInt := by
  have h0 : 0 ≤ x.toInt := by rw [Int32.lt_iff_toInt_lt] at hx; simpa using hx
  have e : (x % m).toInt = x.toInt % m.toInt := by rw [Int32.toInt_mod, Int.tmod_eq_emod_of_nonneg h0]
  have a1 := Int.emod_nonneg x.toInt (Int.ne_of_gt hm)
  have a2 := Int.emod_lt_of_pos x.toInt hm
  rw [Int32.lt_iff_toInt_lt]
  simp only [Int32.toNatClampNeg, e, Int32.reduceToInt]
  omega
theorem own_dd (a b : Int32) : Jvm.Free.Fl.NoNaN64 (FP.dadd (FP.i2d a) (FP.i2d b)) := own_nn (Jvm.FP.Core.dadd_int (Jvm.FP.Core.i2d_int a) (Jvm.FP.Core.i2d_int b) (by have q := own_i32 a; have q2 := own_i32 b; omega))
theorem own_bool {x : Int32} (h : x = 0 ∨ x = 1) : narrow .boolean (.int x) = .int x := by rcases h with rfl | rfl <;> rfl
end OwnKit
section OwnAdd
variable {p : Program} {l : Launch} {e : Env} {R : Room} {s : State} {m : MethodId} {args : Array Value} {below : List Frame} {meth : Method} {c : Code} {Z T : State} {L : List (Addr × (Cell → Prop))} {k n : Nat} {own nm : String} {code : ByteArray} {ml : Nat} {rt : Option FieldType} {P : State → Outcome → Prop} {pc npc tpc : Nat} {ls : Array Slot} {st : List Value} {a0 : Array Value}
theorem own_H.ext {h0 h h' : Heap} (H : own_H h0 h L) (E : Ext h h') : own_H h0 h' L :=
  ⟨⟨Nat.le_trans H.1.1 E.1, fun a c q => E.2 a c (H.1.2 a c q)⟩, fun q hq => by obtain ⟨h1, c', h2, h3⟩ := H.2.1 q hq; exact ⟨h1, c', E.2 _ _ h2, h3⟩, H.2.2⟩
theorem own_H.add {h0 h : Heap} {a : Addr} {Pq : Cell → Prop} {c : Cell} (H : own_H h0 h L) (ha : h0.size ≤ a) (hc : h[a]? = some c) (hP : Pq c) (hn : ∀ q ∈ L, q.1 ≠ a) : own_H h0 h ((a, Pq) :: L) := by
  refine ⟨H.1, fun q hq => ?_, ?_⟩
  · rcases List.mem_cons.mp hq with rfl | hq
    · exact ⟨ha, c, hc, hP⟩
    · exact H.2.1 q hq
  · rw [List.map_cons, List.nodup_cons]
    refine ⟨fun hm => ?_, H.2.2⟩
    obtain ⟨q, hq, e⟩ := List.mem_map.mp hm
    exact hn q hq e
end OwnAdd
section OwnWide
variable {p : Program} {l : Launch} {e : Env} {R : Room} {s : State} {m : MethodId} {args : Array Value} {below : List Frame} {meth : Method} {c : Code} {Z T : State} {L : List (Addr × (Cell → Prop))} {k n : Nat} {own nm : String} {code : ByteArray} {ml : Nat} {rt : Option FieldType} {P : State → Outcome → Prop} {pc npc tpc : Nat} {ls : Array Slot} {st : List Value} {a0 : Array Value}
variable {vm0 : Vm} {Lq A M G : List (Addr × (Cell → Prop))}
/-- what the walk has interned since its start lies in cells that the list G names -/
def own_W (s : State) (vm : Vm) (G : List (Addr × (Cell → Prop))) : Prop := (∃ n, s.Since vm n) ∧ ∀ (h0 h : Heap), own_H h0 h G → ∀ (j : Nat) (p : Array UInt16 × Addr), s.vm.interned.size ≤ j → vm.interned[j]? = some p → p.2 < h.size
def own_EW (Z s : State) (R : Room) (Q : Option Value → List (Addr × (Cell → Prop)) → List (Addr × (Cell → Prop)) → Prop) (t : State) (o : Outcome) : Prop :=
  ∃ v M G locs, o = .returned v ∧ Q v M G ∧ own_H Z.heap t.heap (M ++ G) ∧ (∀ (h0 h : Heap), own_H h0 h G → ∀ (j : Nat) (p : Array UInt16 × Addr), s.vm.interned.size ≤ j → t.vm.interned[j]? = some p → p.2 < h.size) ∧ Fr Z.heap.size locs ∧ ReturnedEndW s o t locs R.cells R.slots
def own_ConW (l : Launch) (Z : State) (y : MethodName) (bytes : ByteArray) (maxL : Nat) (ret : Option FieldType) (rm : Room) (as' : Array Value) (L : List (Addr × (Cell → Prop))) (Jv : Vm → Prop) (Q : Option Value → List (Addr × (Cell → Prop)) → List (Addr × (Cell → Prop)) → Prop) : Prop :=
  ∀ ws, MetFree l y (head1 (Jvm.Cond.code y bytes maxL ret :: ws) rm) (fun a U => a = as' ∧ Z.Warmed39 U.vm ∧ own_H Z.heap U.heap L ∧ Jv U.vm) (fun _ _ _ _ _ => True) (fun _ U o U' => own_EW Z U rm Q U' o)
theorem own_conW {y : MethodName} {bytes : ByteArray} {maxL : Nat} {ret : Option FieldType} {rm : Room} {as' : Array Value} {Jv : Vm → Prop} {Q : Option Value → List (Addr × (Cell → Prop)) → List (Addr × (Cell → Prop)) → Prop} (hx : plainFor y = true) (hent : ∀ m, entryFrame m as' maxL = mkF m 0 ls [])
    (body : ∀ p e s m below meth c T, own_C p s m meth c Z y.cls y.name bytes maxL ret → own_S p l e rm s m as' below meth c Z T L 0 0 → Jv s.vm → own_Go p.tables e below (own_EW Z s rm Q) (T.setTop (mkF m 0 ls []))) : own_ConW l Z y bytes maxL ret rm as' L Jv Q := by
  intro ws
  refine MetFree.of_bodySF hx hisR ?_
  intro p e s m args below meth c s₁ Bd hml hP hK
  obtain ⟨rfl, hZ, hH, hJ⟩ := hP
  have hnm := (name_of_methodNamed Bd.named Bd.method).1
  have X0 : Stand p l e rm s m args below meth c s₁ [] 0 0 := Stand.of_body Bd
  have q := body p e s m below meth c s₁ ⟨Bd.exec, Bd.bytes, hml, hZ, findClass_of_methodNamed Bd.named, hnm, Bd.returns, Bd.notSynchronized⟩ ⟨[], X0, Fr.nil _, by rw [Bd.state]; exact hH⟩ hJ
  rw [← hent] at q
  exact q
theorem own_W.start : own_W s s.vm [] := by
  refine ⟨⟨0, State.Warmed39.refl s, fun j p hj hp => ?_⟩, fun h0 h _ j p hj hp => ?_⟩
  · have := (Array.getElem?_eq_some_iff.mp hp).1; omega
  · have := (Array.getElem?_eq_some_iff.mp hp).1; omega
theorem k_ldcS (C : own_C p (s.setVm vm0) m meth c Z own nm code ml rt) (X : own_S p l e R (s.setVm vm0) m args below meth c Z T Lq k n) (hA : A ++ G = Lq) (W : own_W s vm0 G) {i N : Nat} {text : String} (hd : decode code pc = .ok (.ldc i, 2)) (hp : pc + 2 = npc) (w1 : (Jvm.Cond.stringLink own i text).before a0 Z = true) (wS : ∀ d ∈ Bundle.stringAtoms, d.before a0 Z = true) (hN : 4 * text.toList.length ≤ N) (hbig : N ≤ 536870912) (hk : k + 2 ≤ R.cells) (hl : n + (N + 4) ≤ R.slots)
    (g : ∀ T' vm1 a G1, own_C p (s.setVm vm1) m meth c Z own nm code ml rt → own_W s vm1 G1 → own_S p l e R (s.setVm vm1) m args below meth c Z T' (A ++ G1) (k + 2) (n + (N + 4)) → own_Go p.tables e below P (T'.setTop (mkF m npc ls (.ref a :: st)))) : own_Go p.tables e below P (T.setTop (mkF m pc ls st)) := by
  subst hp hA; obtain ⟨locs, X, hF, hH⟩ := X
  have hZ : Z.Warmed39 vm0 := C.2.2.2.1
  obtain ⟨a, T', X', hS', -, hq, hI, st'⟩ := X.ldcStringCold C.1 (own := own) C.2.2.2.2.1 (mvS hZ w1) (fun d hd' => by
    have q := wS d hd'
    simp only [Bundle.stringAtoms, List.mem_cons, List.not_mem_nil, or_false] at hd'
    rcases hd' with rfl | rfl | rfl | rfl | rfl | rfl | rfl
    · exact mv (s := s.setVm vm0) hZ q
    · exact mv (s := s.setVm vm0) hZ q
    · exact mvA (s := s.setVm vm0) hZ q
    · exact mv (s := s.setVm vm0) hZ q
    · exact mv (s := s.setVm vm0) hZ q
    · exact mv (s := s.setVm vm0) hZ q
    · exact mv (s := s.setVm vm0) hZ q) (g := mkF m pc ls st) rfl (hb C.2.1 hd) hN hbig hk hl
  have hW : Z.Warmed39 T'.vm := State.Warmed39.trans (t := s.setVm vm0) hZ hS'.1
  have hown : T'.vm.findClass own = some m.cls := by rw [hS'.1.alike.findClass]; exact C.2.2.2.2.1
  have C' : own_C p (s.setVm T'.vm) m meth c Z own nm code ml rt := ⟨C.1, C.2.1, C.2.2.1, hW, hown, C.2.2.2.2.2⟩
  have HA : own_H Z.heap T'.heap (A ++ G) := hH.ext (ext_of hq)
  obtain ⟨⟨n0, hS0⟩, hB⟩ := W
  have hi : T.vm.interned = vm0.interned := X.warmed.interned_eq
  have hS1 : s.Since T'.vm (max n0 T'.heap.size) := hS0.trans ⟨hS'.1, hS'.2.mono (Nat.le_max_right _ _)⟩ (Nat.le_max_left _ _)
  rcases hI with ⟨hsz, e1 | ⟨u, b, e1, hb1, hb2⟩⟩
  · refine (g T' T'.vm a G C' ⟨⟨_, hS1⟩, fun h0 h H j p hj hp => ?_⟩ ⟨locs, X', hF, HA⟩).st st'
    exact hB h0 h H j p hj (by rw [← hi, ← e1]; exact hp)
  · have hcb := Array.getElem?_eq_getElem hb2
    have H2 : own_H Z.heap T'.heap ((b, fun _ => True) :: (A ++ G)) := HA.add (by have := hH.1.1; omega) hcb trivial (fun q hq' => Nat.ne_of_lt (Nat.lt_of_lt_of_le (hH.lt q hq') hb1))
    have H3 : own_H Z.heap T'.heap (A ++ (b, fun _ => True) :: G) := H2.perm List.perm_middle.symm
    refine (g T' T'.vm a ((b, fun _ => True) :: G) C' ⟨⟨_, hS1⟩, fun h0 h H j p hj hp => ?_⟩ ⟨locs, X', hF, H3⟩).st st'
    have hp' : (vm0.interned.push (u, b))[j]? = some p := by rw [← hi, ← e1]; exact hp
    rw [Array.getElem?_push] at hp'
    split at hp'
    · cases hp'; exact H.lt _ List.mem_cons_self
    · exact hB h0 h (H.sub (List.sublist_cons_self _ _)) j p hj hp'
theorem k_returnW (C : own_C p (s.setVm vm0) m meth c Z own nm code ml none) (X : own_S p l e R (s.setVm vm0) m args below meth c Z T Lq k n) {Q : Option Value → List (Addr × (Cell → Prop)) → List (Addr × (Cell → Prop)) → Prop} (hM : M ++ G = Lq) (W : own_W s vm0 G) (hd : decode code pc = .ok (.return_, 1)) (hQ : Q none M G) (hk : k ≤ R.cells) (hn : n ≤ R.slots) : own_Go p.tables e below (own_EW Z s R Q) (T.setTop (mkF m pc ls [])) := by
  subst hM; obtain ⟨locs, X, hF, hH⟩ := X
  obtain ⟨⟨n0, hS0⟩, hB⟩ := W
  have HG : own_H Z.heap T.heap G := hH.sub (List.sublist_append_right _ _)
  have hS : s.Since vm0 T.heap.size := ⟨hS0.1, fun j p hj hp => ⟨(hS0.2 j p hj hp).1, hB _ _ HG j p hj hp⟩⟩
  have hi : T.vm.interned = vm0.interned := X.warmed.interned_eq
  obtain ⟨fs, hr, hrun, hended, hE⟩ := X.leaveW hS (Nat.le_refl _) (v := none) (fun _ => rfl) C.2.2.2.2.2.2.2
  refine ⟨_, _, X.returnOut C.1 C.2.2.2.2.2.2.1 (hb C.2.1 hd) hr, hrun, hended, _, M, G, locs, rfl, hQ, hH, ?_, hF, hE.1, hE.2.1, hE.2.2.1, hE.2.2.2.mono hk hn⟩
  intro h0 h H j p hj hp
  exact hB h0 h H j p hj (by rw [← hi]; exact hp)
theorem k_ireturnW {t : FieldType} (C : own_C p (s.setVm vm0) m meth c Z own nm code ml (some t)) (X : own_S p l e R (s.setVm vm0) m args below meth c Z T Lq k n) {x : Int32} {Q : Option Value → List (Addr × (Cell → Prop)) → List (Addr × (Cell → Prop)) → Prop} (hM : M ++ G = Lq) (W : own_W s vm0 G) (hd : decode code pc = .ok (.ireturn, 1)) (ht : t = .int ∨ t = .boolean ∨ t = .byte ∨ t = .char ∨ t = .short) (hnr : narrow t (.int x) = .int x) (hQ : Q (some (.int x)) M G) (hk : k ≤ R.cells) (hn : n ≤ R.slots) : own_Go p.tables e below (own_EW Z s R Q) (T.setTop (mkF m pc ls (.int x :: st))) := by
  subst hM; obtain ⟨locs, X, hF, hH⟩ := X
  obtain ⟨⟨n0, hS0⟩, hB⟩ := W
  have HG : own_H Z.heap T.heap G := hH.sub (List.sublist_append_right _ _)
  have hS : s.Since vm0 T.heap.size := ⟨hS0.1, fun j p hj hp => ⟨(hS0.2 j p hj hp).1, hB _ _ HG j p hj hp⟩⟩
  have hi : T.vm.interned = vm0.interned := X.warmed.interned_eq
  obtain ⟨fs, hr, hrun, hended, hE⟩ := X.leaveW hS (Nat.le_refl _) (v := some (.int x)) (fun h => by rw [C.2.2.2.2.2.2.1] at h; cases h) C.2.2.2.2.2.2.2
  refine ⟨_, _, retOut X C.1 C.2.2.2.2.2.2.1 hnr (Or.inl ⟨rfl, ht, x, rfl⟩) (hb C.2.1 hd) hr, hrun, hended, _, M, G, locs, rfl, hQ, hH, ?_, hF, hE.1, hE.2.1, hE.2.2.1, hE.2.2.2.mono hk hn⟩
  intro h0 h H j p hj hp
  exact hB h0 h H j p hj (by rw [← hi]; exact hp)
theorem k_areturnW {t : FieldType} (C : own_C p (s.setVm vm0) m meth c Z own nm code ml (some t)) (X : own_S p l e R (s.setVm vm0) m args below meth c Z T Lq k n) {x : Value} {Q : Option Value → List (Addr × (Cell → Prop)) → List (Addr × (Cell → Prop)) → Prop} (hM : M ++ G = Lq) (W : own_W s vm0 G) (hd : decode code pc = .ok (.areturn, 1)) (ht : t.isReference = true) (hx : x.isRef = true) (hnr : narrow t x = x) (hQ : Q (some x) M G) (hk : k ≤ R.cells) (hn : n ≤ R.slots) : own_Go p.tables e below (own_EW Z s R Q) (T.setTop (mkF m pc ls (x :: st))) := by
  subst hM; obtain ⟨locs, X, hF, hH⟩ := X
  obtain ⟨⟨n0, hS0⟩, hB⟩ := W
  have HG : own_H Z.heap T.heap G := hH.sub (List.sublist_append_right _ _)
  have hS : s.Since vm0 T.heap.size := ⟨hS0.1, fun j p hj hp => ⟨(hS0.2 j p hj hp).1, hB _ _ HG j p hj hp⟩⟩
  have hi : T.vm.interned = vm0.interned := X.warmed.interned_eq
  obtain ⟨fs, hr, hrun, hended, hE⟩ := X.leaveW hS (Nat.le_refl _) (v := some x) (fun h => by rw [C.2.2.2.2.2.2.1] at h; cases h) C.2.2.2.2.2.2.2
  refine ⟨_, _, retOut X C.1 C.2.2.2.2.2.2.1 hnr (Or.inr (Or.inr (Or.inr (Or.inr ⟨rfl, ht, hx⟩)))) (hb C.2.1 hd) hr, hrun, hended, _, M, G, locs, rfl, hQ, hH, ?_, hF, hE.1, hE.2.1, hE.2.2.1, hE.2.2.2.mono hk hn⟩
  intro h0 h H j p hj hp
  exact hB h0 h H j p hj (by rw [← hi]; exact hp)
theorem own_ConW.back {y : MethodName} {bytes : ByteArray} {maxL : Nat} {ret : Option FieldType} {rm : Room} {as' : Array Value} {Jv : Vm → Prop} {Q : Option Value → List (Addr × (Cell → Prop)) → List (Addr × (Cell → Prop)) → Prop} (K : own_ConW l Z y bytes maxL ret rm as' L Jv Q) (hZ : Z.Warmed39 s.vm) (hH : own_H Z.heap T.heap L) (hJ : ∀ vm1 : Vm, vm1.interned = s.vm.interned → Jv vm1) (wc : (Jvm.Cond.code y bytes maxL ret).before a0 Z = true) (wz : (Jvm.Cond.initialized y.cls).before a0 Z = true) {W : Nat} (hf : rm.frames + 1 ≤ R.frames) (hl : W + (maxL + 11) + rm.locals ≤ R.locals) :
    BackS l R p e below s args y 3 W (fun A a => a = as' ∧ A.U.heap = T.heap ∧ A.cells + rm.cells ≤ R.cells ∧ A.slots + rm.slots ≤ R.slots)
      (fun A _ v B => ∃ M G L0, Q v M G ∧ own_H Z.heap B.U.heap (M ++ G) ∧ (∀ (h0 h : Heap), own_H h0 h G → ∀ (j : Nat) (p : Array UInt16 × Addr), A.U.vm.interned.size ≤ j → B.U.vm.interned[j]? = some p → p.2 < h.size) ∧ Fr Z.heap.size L0 ∧ B.locs = A.locs ++ L0 ∧ B.cells = A.cells + rm.cells ∧ B.slots = A.slots + rm.slots) :=
  BackS.of_freeW (bytes := bytes) (maxL := maxL) (ret := ret) (E := fun _ U o t L0 k n => k = rm.cells ∧ n = rm.slots ∧ ∃ v M G, o = .returned v ∧ Q v M G ∧ own_H Z.heap t.heap (M ++ G) ∧ (∀ (h0 h : Heap), own_H h0 h G → ∀ (j : Nat) (p : Array UInt16 × Addr), U.vm.interned.size ≤ j → t.vm.interned[j]? = some p → p.2 < h.size) ∧ Fr Z.heap.size L0) (K []) hf hl
    (fun m meth c A a Y hp => have hU : Z.Warmed39 A.U.vm := wtrans hZ Y.warmed
      ⟨by show (Cond.and _ .tt).before a A.U = true; rw [Cond.before_and, mv hU wc]; rfl, mv hU wc, mv hU wz, hp.2.2.1, hp.2.2.2⟩)
    (fun m meth c A a g mk Y hp => ⟨hp.1, wtrans hZ Y.warmed, by show own_H Z.heap A.U.heap L; rw [hp.2.1]; exact hH, hJ _ Y.warmed.interned_eq⟩) (fun _ _ _ _ _ _ _ _ _ => trivial)
    (fun _ _ _ _ ⟨v, M, G, L0, h1, h2, h3, h4, h5, h6⟩ => ⟨L0, _, _, h6, rfl, rfl, v, M, G, h1, h2, h3, h4, h5⟩)
    (fun m meth c A a g mk v t L0 k n Y hp _ _ ⟨e1, e2, v', M, G, e3, h2, h3, h4, h5⟩ => by cases e3; subst e1 e2; exact ⟨M, G, L0, h2, h3, h4, h5, rfl, rfl, rfl⟩)
theorem k_initW (C : own_C p (s.setVm vm0) m meth c Z own nm code ml rt) (X : own_S p l e R (s.setVm vm0) m args below meth c Z T L k n) {y : MethodName} {i : Nat} {bytes : ByteArray} {maxL : Nat} {rm : Room} {as' : Array Value} {Jv : Vm → Prop} {Q : Option Value → List (Addr × (Cell → Prop)) → List (Addr × (Cell → Prop)) → Prop} {W : Nat} {rest argsL : List Value} {ps : List FieldType} {rr : Option FieldType} {a : Addr} (W0 : own_W s vm0 G) (hJ : ∀ vm1 : Vm, vm1.interned = vm0.interned → Jv vm1) (hd : decode code pc = .ok (.invokespecial i, 3)) (hp : pc + 3 = npc) (hnm : y.name = "<init>") (w1 : (Jvm.Cond.methodLink own i y).before a0 Z = true) (w2 : (Jvm.Cond.instanceMethod y).before a0 Z = true) (w3 : (Jvm.Cond.initialized y.cls).before a0 Z = true) (w4 : (Jvm.Cond.code y bytes maxL none).before a0 Z = true) (hy : y.cls ≠ "java/lang/invoke/MethodHandle" ∧ y.cls ≠ "java/lang/invoke/VarHandle") (K : own_ConW l Z y bytes maxL none rm as' L Jv Q) (hst : argsL.reverse ++ .ref a :: rest = st) (has : (.ref a :: argsL).toArray = as') (hsz : ls.size = ml) (hpd : parseMethodDescriptor y.desc = some ⟨ps, rr⟩) (hle : argsL.length = ps.length) (hW : (rest.map fun v => v.category).sum ≤ W) (hf : rm.frames + 1 ≤ R.frames) (hlo : W + (maxL + 11) + rm.locals ≤ R.locals) (hk : k + rm.cells ≤ R.cells) (hn : n + rm.slots ≤ R.slots)
    (g : ∀ v T' M vm1 G1, Q v M G1 → own_C p (s.setVm vm1) m meth c Z own nm code ml rt → own_W s vm1 (G ++ G1) → own_S p l e R (s.setVm vm1) m args below meth c Z T' (M ++ G1) (k + rm.cells) (n + rm.slots) → own_Go p.tables e below P (T'.setTop (mkF m npc ls (v.toList ++ rest)))) : own_Go p.tables e below P (T.setTop (mkF m pc ls st)) := by
  subst hp hst has; obtain ⟨locs, X, hF, hH⟩ := X
  obtain ⟨v, vm1, ⟨T1, Lz, kq, nq⟩, hw1, X1, hS1, -, ⟨M, G1, L0, hQ, hH1, hB1, hF1, hl1, hc1, hs1⟩, st1⟩ := X.specialBackS C.1 (y := y) hnm C.2.2.2.2.1 (mvT C.2.2.2.1 w1) (mvT C.2.2.2.1 w2) (mvT C.2.2.2.1 w4) hy (K.back (s := s.setVm vm0) (T := T) (W := W) C.2.2.2.1 hH hJ w4 w3 hf hlo) (g := mkF m pc ls (argsL.reverse ++ .ref a :: rest)) rfl (hsz.trans C.2.2.1.symm) (Steps.refl _) (a := a) (argsL := argsL) (rest := rest) (lenOf hpd hle) rfl (by show 2 * 0 + _ ≤ _; omega) (hb C.2.1 hd) (fun _ _ => ⟨rfl, rfl, hk, hn⟩)
  dsimp only [Pt.U, Pt.locs, Pt.cells, Pt.slots] at X1 hl1 hc1 hs1 st1 hH1 hB1 hS1
  subst hl1 hc1 hs1
  have hW : Z.Warmed39 T1.vm := State.Warmed39.trans (t := s.setVm vm0) C.2.2.2.1 hS1.1
  have hown : T1.vm.findClass own = some m.cls := by rw [hS1.1.alike.findClass]; exact C.2.2.2.2.1
  obtain ⟨⟨n0, hS0⟩, hB0⟩ := W0
  have hS2 : s.Since T1.vm (max n0 T1.heap.size) := hS0.trans ⟨hS1.1, hS1.2.mono (Nat.le_max_right _ _)⟩ (Nat.le_max_left _ _)
  have hi : vm1.interned = vm0.interned := hw1.interned_eq
  refine (g v T1 M T1.vm G1 hQ ⟨C.1, C.2.1, C.2.2.1, hW, hown, C.2.2.2.2.2⟩ ⟨⟨_, hS2⟩, fun h0 h H j p hj hp => ?_⟩ ⟨_, X1, hF.app hF1, hH1⟩).st fun t q => st1.trans q
  by_cases hj' : j < vm0.interned.size
  · rw [hS1.1.old_pair (s := s.setVm vm0) hj'] at hp
    exact hB0 h0 h (H.sub (List.sublist_append_left _ _)) j p hj hp
  · refine hB1 h0 h (H.sub (List.sublist_append_right _ _)) j p ?_ hp
    show vm1.interned.size ≤ j
    rw [hi]; exact Nat.le_of_not_lt hj'
theorem k_staticW (C : own_C p (s.setVm vm0) m meth c Z own nm code ml rt) (X : own_S p l e R (s.setVm vm0) m args below meth c Z T L k n) {y : MethodName} {i : Nat} {bytes : ByteArray} {maxL : Nat} {ret : Option FieldType} {rm : Room} {as' : Array Value} {Jv : Vm → Prop} {Q : Option Value → List (Addr × (Cell → Prop)) → List (Addr × (Cell → Prop)) → Prop} {W : Nat} {rest argsL : List Value} {ps : List FieldType} {rr : Option FieldType} (W0 : own_W s vm0 G) (hJ : ∀ vm1 : Vm, vm1.interned = vm0.interned → Jv vm1) (hd : decode code pc = .ok (.invokestatic i, 3)) (hp : pc + 3 = npc) (w1 : (Jvm.Cond.methodLink own i y).before a0 Z = true) (w2 : (Jvm.Cond.static y).before a0 Z = true) (w3 : (Jvm.Cond.initialized y.cls).before a0 Z = true) (w4 : (Jvm.Cond.code y bytes maxL ret).before a0 Z = true) (hy : y.cls ≠ "java/lang/invoke/MethodHandle" ∧ y.cls ≠ "java/lang/invoke/VarHandle") (K : own_ConW l Z y bytes maxL ret rm as' L Jv Q) (hst : argsL.reverse ++ rest = st) (has : argsL.toArray = as') (hsz : ls.size = ml) (hpd : parseMethodDescriptor y.desc = some ⟨ps, rr⟩) (hle : argsL.length = ps.length) (hW : (rest.map fun v => v.category).sum ≤ W) (hf : rm.frames + 1 ≤ R.frames) (hlo : W + (maxL + 11) + rm.locals ≤ R.locals) (hk : k + rm.cells ≤ R.cells) (hn : n + rm.slots ≤ R.slots)
    (g : ∀ v T' M vm1 G1, Q v M G1 → own_C p (s.setVm vm1) m meth c Z own nm code ml rt → own_W s vm1 (G ++ G1) → own_S p l e R (s.setVm vm1) m args below meth c Z T' (M ++ G1) (k + rm.cells) (n + rm.slots) → own_Go p.tables e below P (T'.setTop (mkF m npc ls (v.toList ++ rest)))) : own_Go p.tables e below P (T.setTop (mkF m pc ls st)) := by
  subst hp hst has; obtain ⟨locs, X, hF, hH⟩ := X
  obtain ⟨v, vm1, ⟨T1, Lz, kq, nq⟩, hw1, X1, hS1, -, ⟨M, G1, L0, hQ, hH1, hB1, hF1, hl1, hc1, hs1⟩, st1⟩ := callSS X C.1 (y := y) C.2.2.2.2.1 (mvT C.2.2.2.1 w1) (mvT C.2.2.2.1 w2) (mvT C.2.2.2.1 w3) (mvT C.2.2.2.1 w4) hy (K.back (s := s.setVm vm0) (T := T) (W := W) C.2.2.2.1 hH hJ w4 w3 hf hlo) (g := mkF m pc ls (argsL.reverse ++ rest)) rfl (hsz.trans C.2.2.1.symm) (argsL := argsL) (rest := rest) (lenOf hpd hle) rfl (by show 2 * 0 + _ ≤ _; omega) (hb C.2.1 hd) (fun _ _ => ⟨rfl, rfl, hk, hn⟩)
  dsimp only [Pt.U, Pt.locs, Pt.cells, Pt.slots] at X1 hl1 hc1 hs1 st1 hH1 hB1 hS1
  subst hl1 hc1 hs1
  have hW : Z.Warmed39 T1.vm := State.Warmed39.trans (t := s.setVm vm0) C.2.2.2.1 hS1.1
  have hown : T1.vm.findClass own = some m.cls := by rw [hS1.1.alike.findClass]; exact C.2.2.2.2.1
  obtain ⟨⟨n0, hS0⟩, hB0⟩ := W0
  have hS2 : s.Since T1.vm (max n0 T1.heap.size) := hS0.trans ⟨hS1.1, hS1.2.mono (Nat.le_max_right _ _)⟩ (Nat.le_max_left _ _)
  have hi : vm1.interned = vm0.interned := hw1.interned_eq
  refine (g v T1 M T1.vm G1 hQ ⟨C.1, C.2.1, C.2.2.1, hW, hown, C.2.2.2.2.2⟩ ⟨⟨_, hS2⟩, fun h0 h H j p hj hp => ?_⟩ ⟨_, X1, hF.app hF1, hH1⟩).st fun t q => st1.trans q
  by_cases hj' : j < vm0.interned.size
  · rw [hS1.1.old_pair (s := s.setVm vm0) hj'] at hp
    exact hB0 h0 h (H.sub (List.sublist_append_left _ _)) j p hj hp
  · refine hB1 h0 h (H.sub (List.sublist_append_right _ _)) j p ?_ hp
    show vm1.interned.size ≤ j
    rw [hi]; exact Nat.le_of_not_lt hj'
end OwnWide
section OwnFP
open Jvm.FP.Core
/-- a double as a whole number of the format's least numbers -/
def own_z (a : UInt64) : Int := zval b64 (val64 a)
/-- a is finite, and i over 2 to the k -/
def own_Q (k : Nat) (i : Int) (a : UInt64) : Prop := DFin a ∧ own_z a * ((2 ^ k : Nat) : Int) = i * (one64 : Int)
theorem own_p2 (k : Nat) : (0 : Int) < ((2 ^ k : Nat) : Int) := Int.natCast_pos.mpr (Nat.two_pow_pos k)
theorem own_o2 : (0 : Int) < (one64 : Int) := Int.natCast_pos.mpr one64_pos
variable {k m : Nat} {i j r : Int} {a b : UInt64} {V : Datum}
theorem own_Q.of (h : DInt i a) : own_Q 0 i a := by
  refine ⟨Jvm.Free.Fl.fin64_core.mp (own_fin h), ?_⟩
  have q := whole_zval good_b64 (val64_fits a) h
  rw [pow_qmin64] at q
  unfold own_z
  rw [q, Nat.pow_zero]
  exact Int.mul_one _
theorem own_Q.fin (h : own_Q k i a) : Jvm.Free.Fl.Fin64 a := Jvm.Free.Fl.fin64_core.mpr h.1
theorem own_Q.nn (h : own_Q k i a) : Jvm.Free.Fl.NoNaN64 a := h.fin.noNaN
theorem own_Q.ne (h : own_Q k i a) : val64 a ≠ .nan := by obtain ⟨s, c, q, e⟩ := h.1; rw [e]; exact Datum.noConfusion
theorem own_Q.up (h : own_Q k i a) (m : Nat) {i' : Int} {k' : Nat} (hi : i * ((2 ^ m : Nat) : Int) = i') (hk : k + m = k') : own_Q k' i' a := by
  subst hi hk
  refine ⟨h.1, ?_⟩
  rw [Nat.pow_add, Int.natCast_mul, ← Int.mul_assoc, h.2, Int.mul_right_comm]
theorem own_Q.cmp (ha : own_Q k i a) (hb : own_Q k j b) : FP.dcmp a b = some (compare i j) := by
  have q := dcmp_zval ha.ne hb.ne
  rw [show FP.dcmp a b = Jvm.FP.Core.dcmp a b from rfl, q]
  congr 1
  rw [← compare_mul_pos (zval b64 (val64 a)) _ _ (own_p2 k), ← compare_mul_pos i j _ own_o2]
  have h1 := ha.2; have h2 := hb.2
  unfold own_z at h1 h2
  rw [h1, h2]
theorem own_Q.eqv (ha : own_Q k i a) (hb : own_Q k j b) (h : i = j) : FP.dcmp a b = some .eq := by
  rw [ha.cmp hb, h, (compare_eq_iff j j).mpr rfl]
theorem own_Q.neg (h : own_Q k i a) : own_Q k (-i) (FP.dneg a) := by
  have e : val64 (FP.dneg a) = negate (val64 a) := Jvm.FP.val64_dneg a
  obtain ⟨⟨s, c, q, h1⟩, h2⟩ := h
  refine ⟨⟨!s, c, q, by rw [e, h1]; rfl⟩, ?_⟩
  unfold own_z at h2 ⊢
  rw [e, zval_negate, Int.neg_mul, h2, Int.neg_mul]
theorem own_rep (k : Nat) (hk : k ≤ 1074) (i : Int) (hi : i.natAbs < 2 ^ 53) : ∃ V, Jvm.FP.Core.fits b64 V ∧ (∃ s c q, V = .fin s c q) ∧ zval b64 V * ((2 ^ k : Nat) : Int) = i * (one64 : Int) := by
  have hq : b64.qmax = 971 := by decide
  obtain ⟨c', q', h1, h2⟩ := round_exact good_b64 (decide (i < 0)) (c := i.natAbs) (q := -(k : Int)) hi (by rw [qmin_b64]; omega) (by rw [hq]; omega)
  have hf := round_fits good_b64 (.fin (decide (i < 0)) i.natAbs (-(k : Int)))
  refine ⟨_, hf, ⟨_, c', q', h1⟩, ?_⟩
  rw [h1]
  show signed (decide (i < 0)) (inUnits c' q' b64.qmin) * _ = _
  rw [h2]
  have e : signed (decide (i < 0)) i.natAbs = i := by unfold signed; by_cases h : i < 0 <;> simp [h] <;> omega
  unfold inUnits
  rw [qmin_b64, show (-(k : Int) - (-1074)).toNat = 1074 - k by omega, signed_mul, e, Int.mul_assoc, ← Int.natCast_mul, ← Nat.pow_add, show 1074 - k + k = 1074 by omega]
  rfl
theorem own_fin_of {s : Bool} {c : Nat} {q : Int} (hV : Jvm.FP.Core.fits b64 (.fin s c q)) (hn : val64 a ≠ .nan) (h : zval b64 (val64 a) = zval b64 (.fin s c q)) : DFin a := by
  rcases hv : val64 a with _ | t | ⟨t, d, r⟩
  · exact absurd hv hn
  · exfalso
    rw [hv] at h
    have h1 := congrArg Int.natAbs h
    unfold zval at h1
    rw [natAbs_signed, natAbs_signed] at h1
    have h2 := zmag_lt_top good_b64 hV
    have h3 : b64.tails * 2 ^ (b64.exps - 2) = inUnits c q b64.qmin := h1
    omega
  · exact ⟨t, d, r, hv⟩
theorem own_round {sg : Bool} {n : Nat} {e e0 : Int} (hV : Jvm.FP.Core.fits b64 V) (nV : V ≠ .nan) (h0 : e0 ≤ b64.qmin) (h0e : e0 ≤ e) (h : signed sg (inUnits n e e0) = zval b64 V * ((2 ^ (b64.qmin - e0).toNat : Nat) : Int)) : zval b64 (round b64 (.fin sg n e)) = zval b64 V :=
  Int.le_antisymm (zval_round_le good_b64 hV nV h0 h0e (Int.le_of_eq h)) (zval_round_ge good_b64 hV nV h0 h0e (Int.le_of_eq h.symm))
theorem own_cancel {x y : Int} (h : x * ((2 ^ k : Nat) : Int) = y * ((2 ^ k : Nat) : Int)) : x = y := Int.eq_of_mul_eq_mul_right (Int.ne_of_gt (own_p2 k)) h
theorem own_round_ne (sg : Bool) (n : Nat) (e : Int) : round b64 (.fin sg n e) ≠ .nan := roundRatio_ne_nan _ _ _ _ _
theorem own_add (ha : own_Q k i a) (hb : own_Q k j b) (h : (i + j).natAbs < 2 ^ 53) (hk : k ≤ 1074 := by decide) : own_Q k (i + j) (FP.dadd a b) := by
  obtain ⟨V, hV, ⟨vs, vc, vq, rfl⟩, hz⟩ := own_rep k hk (i + j) h
  obtain ⟨s, c, q, ea⟩ := ha.1
  obtain ⟨t, d, r, eb⟩ := hb.1
  have fa := val64_fits a; rw [ea] at fa
  have fb := val64_fits b; rw [eb] at fb
  obtain ⟨sg, n, e, h1, h2, h3⟩ := sum_units fa fb
  have hv : val64 (FP.dadd a b) = round b64 (.fin sg n e) := by rw [show FP.dadd a b = Jvm.FP.Core.dadd a b from rfl, val64_dadd, ea, eb, h1]
  have za : zval b64 (.fin s c q) = own_z a := by unfold own_z; rw [ea]
  have zb : zval b64 (.fin t d r) = own_z b := by unfold own_z; rw [eb]
  have hs : own_z a + own_z b = zval b64 (.fin vs vc vq) := own_cancel (k := k) (by rw [Int.add_mul, ha.2, hb.2, hz, Int.add_mul])
  have eq := own_round (sg := sg) (n := n) (e := e) (e0 := b64.qmin) hV Datum.noConfusion (Int.le_refl _) h2 (by rw [h3, za, zb, hs, Int.sub_self]; simp)
  rw [← hv] at eq
  exact ⟨own_fin_of hV (by rw [hv]; exact own_round_ne _ _ _) eq, by unfold own_z; rw [eq, hz]⟩
theorem own_Q.cneg (h : own_Q k i a) : own_Q k (-i) (Jvm.FP.Core.dneg a) := by
  obtain ⟨⟨s, c, q, h1⟩, h2⟩ := h
  refine ⟨⟨!s, c, q, by rw [val64_dneg, h1]; rfl⟩, ?_⟩
  unfold own_z at h2 ⊢
  rw [val64_dneg, zval_negate, Int.neg_mul, h2, Int.neg_mul]
theorem own_sub (ha : own_Q k i a) (hb : own_Q k j b) (h : (i - j).natAbs < 2 ^ 53) (hk : k ≤ 1074 := by decide) : own_Q k (i - j) (FP.dsub a b) := by
  rw [show FP.dsub a b = Jvm.FP.Core.dsub a b from rfl, dsub_eq]
  rw [Int.sub_eq_add_neg] at h ⊢
  exact own_add ha hb.cneg h hk
theorem own_mul (ha : own_Q k i a) (hb : own_Q m j b) (h : (i * j).natAbs < 2 ^ 53) {k' : Nat} (hkm : k + m = k') (hk : k' ≤ 1074 := by decide) : own_Q k' (i * j) (FP.dmul a b) := by
  subst hkm
  obtain ⟨V, hV, ⟨vs, vc, vq, rfl⟩, hz⟩ := own_rep (k + m) hk (i * j) h
  obtain ⟨s, c, q, ea⟩ := ha.1
  obtain ⟨t, d, r, eb⟩ := hb.1
  have fa := val64_fits a; rw [ea] at fa
  have fb := val64_fits b; rw [eb] at fb
  obtain ⟨h1, h2, h3⟩ := product_units fa fb
  have hv : val64 (FP.dmul a b) = round b64 (.fin (s != t) (c * d) (q + r)) := by rw [show FP.dmul a b = Jvm.FP.Core.dmul a b from rfl, val64_dmul, ea, eb, h1]
  have za : zval b64 (.fin s c q) = own_z a := by unfold own_z; rw [ea]
  have zb : zval b64 (.fin t d r) = own_z b := by unfold own_z; rw [eb]
  have hs : own_z a * own_z b = zval b64 (.fin vs vc vq) * (one64 : Int) := own_cancel (k := k + m) (by
    have e1 : own_z a * own_z b * ((2 ^ (k + m) : Nat) : Int) = (own_z a * ((2 ^ k : Nat) : Int)) * (own_z b * ((2 ^ m : Nat) : Int)) := by rw [Nat.pow_add, Int.natCast_mul]; ac_rfl
    have e2 : zval b64 (.fin vs vc vq) * (one64 : Int) * ((2 ^ (k + m) : Nat) : Int) = (zval b64 (.fin vs vc vq) * ((2 ^ (k + m) : Nat) : Int)) * (one64 : Int) := by generalize (one64 : Int) = o_; ac_rfl
    rw [e1, e2, ha.2, hb.2, hz]; generalize (one64 : Int) = o_; ac_rfl)
  have eq := own_round (sg := (s != t)) (n := c * d) (e := q + r) (e0 := 2 * b64.qmin) hV Datum.noConfusion (by rw [qmin_b64]; decide) h2 (by
    rw [h3, signed_xor]
    have : ((2 ^ (b64.qmin - 2 * b64.qmin).toNat : Nat) : Int) = (one64 : Int) := by rw [qmin_b64]; rfl
    rw [this, ← hs, ← za, ← zb]; rfl)
  rw [← hv] at eq
  exact ⟨own_fin_of hV (by rw [hv]; exact own_round_ne _ _ _) eq, by unfold own_z; rw [eq, hz]⟩
/-! quotients -/
theorem own_qpow (c : Nat) {q r : Int} (h1 : -1074 ≤ q) (h2 : -1074 ≤ r) (h3 : r ≤ 971) : inUnits c (q - r) (-4000) * 2 ^ (r + 1074).toNat = inUnits c q (-1074) * one64 * 2 ^ 2926 := by
  unfold inUnits one64
  rw [Nat.mul_assoc, ← Nat.pow_add, Nat.mul_assoc, Nat.mul_assoc, ← Nat.pow_add, ← Nat.pow_add]
  congr 2
  omega
theorem own_dpow (v d : Nat) {r : Int} (h2 : -1074 ≤ r) : v * 2 ^ ((-1074 : Int) - (-4000)).toNat * d * 2 ^ (r + 1074).toNat = v * inUnits d r (-1074) * 2 ^ 2926 := by
  unfold inUnits
  rw [show ((-1074 : Int) - (-4000)).toNat = 2926 from rfl, show (r - (-1074)).toNat = (r + 1074).toNat by omega]
  generalize 2 ^ 2926 = u_; ac_rfl
theorem own_div_le {s t u : Bool} {c d : Nat} {q r : Int} (fa : Jvm.FP.Core.fits b64 (.fin s c q)) (fb : Jvm.FP.Core.fits b64 (.fin t d r)) (hd : 0 < d) (hV : Jvm.FP.Core.fits b64 V) (nV : V ≠ .nan) (h : zmag b64 (.fin s c q) * one64 ≤ zmag b64 V * zmag b64 (.fin t d r)) : zmag b64 (roundRatio b64 u c d (q - r)) ≤ zmag b64 V := by
  have hq : b64.qmax = 971 := by decide
  have a1 := fa.2.1; have a2 := fb.2.1; have a3 := fb.2.2.1
  rw [qmin_b64] at a1 a2; rw [hq] at a3
  refine zmag_roundRatio_le good_b64 (e0 := -4000) hd hV nV (by rw [qmin_b64]; decide) (by omega) ?_
  rw [qmin_b64]
  refine Nat.le_of_mul_le_mul_right (c := 2 ^ (r + 1074).toNat) ?_ (Nat.two_pow_pos _)
  rw [own_qpow c a1 a2 a3, own_dpow _ d a2]
  refine Nat.mul_le_mul_right _ ?_
  have e1 : zmag b64 (.fin s c q) = inUnits c q (-1074) := by show inUnits c q b64.qmin = _; rw [qmin_b64]
  have e2 : zmag b64 (.fin t d r) = inUnits d r (-1074) := by show inUnits d r b64.qmin = _; rw [qmin_b64]
  rw [e1, e2] at h; exact h
theorem own_div_ge {s t u : Bool} {c d : Nat} {q r : Int} (fa : Jvm.FP.Core.fits b64 (.fin s c q)) (fb : Jvm.FP.Core.fits b64 (.fin t d r)) (hd : 0 < d) (hV : Jvm.FP.Core.fits b64 V) (h : zmag b64 V * zmag b64 (.fin t d r) ≤ zmag b64 (.fin s c q) * one64) : zmag b64 V ≤ zmag b64 (roundRatio b64 u c d (q - r)) := by
  have hq : b64.qmax = 971 := by decide
  have a1 := fa.2.1; have a2 := fb.2.1; have a3 := fb.2.2.1
  rw [qmin_b64] at a1 a2; rw [hq] at a3
  refine zmag_roundRatio_ge good_b64 (e0 := -4000) hd hV (by rw [qmin_b64]; decide) (by omega) ?_
  rw [qmin_b64]
  refine Nat.le_of_mul_le_mul_right (c := 2 ^ (r + 1074).toNat) ?_ (Nat.two_pow_pos _)
  rw [own_qpow c a1 a2 a3, own_dpow _ d a2]
  refine Nat.mul_le_mul_right _ ?_
  have e1 : zmag b64 (.fin s c q) = inUnits c q (-1074) := by show inUnits c q b64.qmin = _; rw [qmin_b64]
  have e2 : zmag b64 (.fin t d r) = inUnits d r (-1074) := by show inUnits d r b64.qmin = _; rw [qmin_b64]
  rw [e1, e2] at h; exact h
theorem own_ddiv_val {s t : Bool} {c d : Nat} {q r : Int} (ea : val64 a = .fin s c q) (eb : val64 b = .fin t d r) (hd : 0 < d) : val64 (FP.ddiv a b) = roundRatio b64 (s != t) c d (q - r) := by
  rw [show FP.ddiv a b = Jvm.FP.Core.ddiv a b from rfl, val64_ddiv, ea, eb]
  show (if d = 0 then _ else _) = _
  rw [if_neg (by omega)]
theorem own_zsgn {s : Bool} {c : Nat} {q : Int} : zval b64 (.fin s c q) = signed s (zmag b64 (.fin s c q)) := rfl
theorem own_dpos {d : Nat} {t : Bool} {r : Int} (h : zval b64 (.fin t d r) ≠ 0) : 0 < d := by
  refine Nat.pos_of_ne_zero fun e => h ?_
  subst e
  show signed t (inUnits 0 r b64.qmin) = 0
  unfold inUnits; rw [Nat.zero_mul]; exact signed_zero t
/-- the quotient by a number above nought, from above -/
theorem own_div_up {V : Datum} (ha : DFin a) (hb : DFin b) (hz : 0 < own_z b) (hV : Jvm.FP.Core.fits b64 V) (nV : V ≠ .nan) (h : own_z a * (one64 : Int) ≤ zval b64 V * own_z b) : own_z (FP.ddiv a b) ≤ zval b64 V := by
  obtain ⟨s, c, q, ea⟩ := ha
  obtain ⟨t, d, r, eb⟩ := hb
  have fa := val64_fits a; rw [ea] at fa
  have fb := val64_fits b; rw [eb] at fb
  unfold own_z at *
  rw [ea, eb] at h; rw [eb] at hz
  have hd := own_dpos (Int.ne_of_gt hz)
  rw [own_ddiv_val ea eb hd]
  have L := own_div_le (u := (s != t)) fa fb hd hV nV
  have G := own_div_ge (u := (s != t)) fa fb hd hV
  have hR : zval b64 (roundRatio b64 (s != t) c d (q - r)) = signed (s != t) (zmag b64 (roundRatio b64 (s != t) c d (q - r))) := by unfold zval; rw [sgn_roundRatio]
  rw [hR]
  rw [own_zsgn] at h hz; rw [own_zsgn] at h
  have hv : zval b64 V = signed (sgn V) (zmag b64 V) := rfl
  rw [hv] at h ⊢
  generalize zmag b64 (roundRatio b64 (s != t) c d (q - r)) = w at *
  generalize zmag b64 V = v at *
  generalize zmag b64 (.fin s c q) = x at *
  generalize zmag b64 (.fin t d r) = y at *
  have ho := one64_pos
  generalize one64 = o at *
  have ht : t = false := by cases t <;> simp [signed] at hz ⊢; omega
  subst ht
  have hy : 0 < y := by simpa [signed] using hz
  cases s <;> cases hs : sgn V <;> rw [hs] at h <;> simp only [signed, Bool.false_eq_true, if_true, if_false, bne_self_eq_false, Bool.true_bne, Bool.not_false, Bool.not_true] at h ⊢
  · have := L (by have : ((x * o : Nat) : Int) ≤ ((v * y : Nat) : Int) := by push_cast; exact h
                  exact Int.ofNat_le.mp this)
    omega
  · have h2 : (x : Int) * (o : Int) + (v : Int) * (y : Int) ≤ 0 := by rw [Int.neg_mul] at h; omega
    have h3 : x * o + v * y = 0 := by
      have : ((x * o + v * y : Nat) : Int) ≤ 0 := by push_cast; exact h2
      omega
    have hx : x * o = 0 := by omega
    have hvy : v * y = 0 := by omega
    have hv0 : v = 0 := by rcases Nat.mul_eq_zero.mp hvy with q | q <;> omega
    have := L (by rw [hx]; exact Nat.zero_le _)
    omega
  · omega
  · have := G (by
      have h2 : (v : Int) * (y : Int) ≤ (x : Int) * (o : Int) := by rw [Int.neg_mul, Int.neg_mul] at h; omega
      have : ((v * y : Nat) : Int) ≤ ((x * o : Nat) : Int) := by push_cast; exact h2
      exact Int.ofNat_le.mp this)
    omega
/-- the quotient by a number above nought, from below -/
theorem own_div_dn {V : Datum} (ha : DFin a) (hb : DFin b) (hz : 0 < own_z b) (hV : Jvm.FP.Core.fits b64 V) (nV : V ≠ .nan) (h : zval b64 V * own_z b ≤ own_z a * (one64 : Int)) : zval b64 V ≤ own_z (FP.ddiv a b) := by
  have e : FP.ddiv (Jvm.FP.Core.dneg a) b = Jvm.FP.Core.dneg (FP.ddiv a b) := ddiv_dneg a b
  have za : own_z (Jvm.FP.Core.dneg a) = -own_z a := by unfold own_z; rw [val64_dneg, zval_negate]
  have zr : own_z (FP.ddiv (Jvm.FP.Core.dneg a) b) = -own_z (FP.ddiv a b) := by rw [e]; unfold own_z; rw [val64_dneg, zval_negate]
  have ha' : DFin (Jvm.FP.Core.dneg a) := by obtain ⟨s, c, q, h⟩ := ha; exact ⟨!s, c, q, by rw [val64_dneg, h]; rfl⟩
  have q := own_div_up (V := negate V) ha' hb hz (negate_fits hV) (negate_ne_nan nV) (by rw [za, zval_negate, Int.neg_mul, Int.neg_mul]; omega)
  rw [zr, zval_negate] at q
  omega
theorem own_ddiv_ne (ha : DFin a) (hb : DFin b) (hz : 0 < own_z b) : val64 (FP.ddiv a b) ≠ .nan := by
  obtain ⟨s, c, q, ea⟩ := ha
  obtain ⟨t, d, r, eb⟩ := hb
  have hd := own_dpos (t := t) (d := d) (r := r) (by unfold own_z at hz; rw [eb] at hz; omega)
  rw [own_ddiv_val ea eb hd]; exact roundRatio_ne_nan _ _ _ _ _
theorem own_Q.zpos (hb : own_Q k j b) (hj : 0 < j) : 0 < own_z b := by
  have h := hb.2
  have h1 : 0 < own_z b * ((2 ^ k : Nat) : Int) := by rw [h]; exact Int.mul_pos hj own_o2
  refine Int.lt_of_not_ge fun q => ?_
  have h2 : own_z b * ((2 ^ k : Nat) : Int) ≤ 0 := Int.mul_nonpos_of_nonpos_of_nonneg q (Int.le_of_lt (own_p2 k))
  omega
theorem own_nnv (h : val64 a ≠ .nan) : Jvm.Free.Fl.NoNaN64 a := Jvm.Free.Fl.noNaN64_no.mpr ((notNaN_iff a).mpr h)
/-- the quotient, where it is a number of the format: i over 2^k by j over 2^m is r over 2^k' -/
theorem own_div {k' : Nat} (ha : own_Q k i a) (hb : own_Q m j b) (hj : j ≠ 0) (hr : i * ((2 ^ m : Nat) : Int) * ((2 ^ k' : Nat) : Int) = r * j * ((2 ^ k : Nat) : Int)) (h : r.natAbs < 2 ^ 53) (hk : k' ≤ 1074 := by decide) : own_Q k' r (FP.ddiv a b) := by
  obtain ⟨V, hV, ⟨vs, vc, vq, rfl⟩, hz⟩ := own_rep k' hk r h
  obtain ⟨s, c, q, ea⟩ := ha.1
  obtain ⟨t, d, r', eb⟩ := hb.1
  have fa := val64_fits a; rw [ea] at fa
  have fb := val64_fits b; rw [eb] at fb
  have za : zval b64 (.fin s c q) = own_z a := by unfold own_z; rw [ea]
  have zb : zval b64 (.fin t d r') = own_z b := by unfold own_z; rw [eb]
  have hb0 : own_z b ≠ 0 := fun e => by
    have h2 := hb.2
    rw [e, Int.zero_mul] at h2
    rcases Int.mul_eq_zero.mp h2.symm with q | q
    · exact hj q
    · exact absurd q (Int.ne_of_gt own_o2)
  have hd := own_dpos (t := t) (d := d) (r := r') (by rw [zb]; exact hb0)
  have key : own_z a * (one64 : Int) = zval b64 (.fin vs vc vq) * own_z b := by
    refine own_cancel (k := k) (own_cancel (k := m) (own_cancel (k := k') ?_))
    have e1 : own_z a * (one64 : Int) * ((2 ^ k : Nat) : Int) * ((2 ^ m : Nat) : Int) * ((2 ^ k' : Nat) : Int) = (own_z a * ((2 ^ k : Nat) : Int)) * ((2 ^ m : Nat) : Int) * ((2 ^ k' : Nat) : Int) * (one64 : Int) := by generalize (one64 : Int) = o_; ac_rfl
    have e2 : zval b64 (.fin vs vc vq) * own_z b * ((2 ^ k : Nat) : Int) * ((2 ^ m : Nat) : Int) * ((2 ^ k' : Nat) : Int) = (zval b64 (.fin vs vc vq) * ((2 ^ k' : Nat) : Int)) * (own_z b * ((2 ^ m : Nat) : Int)) * ((2 ^ k : Nat) : Int) := by generalize (one64 : Int) = o_; ac_rfl
    rw [e1, e2, ha.2, hb.2, hz]
    have e3 : i * (one64 : Int) * ((2 ^ m : Nat) : Int) * ((2 ^ k' : Nat) : Int) * (one64 : Int) = (i * ((2 ^ m : Nat) : Int) * ((2 ^ k' : Nat) : Int)) * ((one64 : Int) * (one64 : Int)) := by generalize (one64 : Int) = o_; ac_rfl
    have e4 : r * (one64 : Int) * (j * (one64 : Int)) * ((2 ^ k : Nat) : Int) = (r * j * ((2 ^ k : Nat) : Int)) * ((one64 : Int) * (one64 : Int)) := by generalize (one64 : Int) = o_; ac_rfl
    rw [e3, e4, hr]
  have hmag : zmag b64 (.fin s c q) * one64 = zmag b64 (.fin vs vc vq) * zmag b64 (.fin t d r') := by
    have h1 := congrArg Int.natAbs key
    rw [← za, ← zb, Int.natAbs_mul, Int.natAbs_mul] at h1
    unfold zval at h1
    rw [natAbs_signed, natAbs_signed, natAbs_signed] at h1
    exact h1
  have hv := own_ddiv_val ea eb hd
  have L := own_div_le (u := (s != t)) fa fb hd hV Datum.noConfusion (Nat.le_of_eq hmag)
  have G := own_div_ge (u := (s != t)) fa fb hd hV (Nat.le_of_eq hmag.symm)
  have hR : zval b64 (roundRatio b64 (s != t) c d (q - r')) = signed (s != t) (zmag b64 (.fin vs vc vq)) := by
    unfold zval; rw [sgn_roundRatio, Nat.le_antisymm L G]
  have eq : zval b64 (val64 (FP.ddiv a b)) = zval b64 (.fin vs vc vq) := by
    rw [hv, hR, own_zsgn]
    rw [← za, ← zb, own_zsgn, own_zsgn, own_zsgn] at key
    have hy : 0 < zmag b64 (.fin t d r') := by
      refine Nat.pos_of_ne_zero fun e => hb0 ?_
      rw [← zb, own_zsgn, e]; exact signed_zero t
    generalize zmag b64 (.fin vs vc vq) = v at *
    generalize zmag b64 (.fin s c q) = x at *
    generalize zmag b64 (.fin t d r') = y at *
    have ho := one64_pos
    generalize one64 = o at *
    have hz0 : x * o = 0 → v = 0 := fun e => by
      rw [hmag] at e
      rcases Nat.mul_eq_zero.mp e with q | q <;> omega
    have hxo : ((x * o : Nat) : Int) = (x : Int) * (o : Int) := by push_cast; rfl
    have hvy : ((v * y : Nat) : Int) = (v : Int) * (y : Int) := by push_cast; rfl
    cases s <;> cases t <;> cases vs <;> simp only [signed, Bool.false_eq_true, if_true, if_false, bne_self_eq_false, Bool.true_bne, Bool.false_bne, Bool.not_false, Bool.not_true, Int.neg_mul, Int.mul_neg, Int.neg_neg] at key ⊢
    all_goals first
      | rfl
      | (have hx0 : x * o = 0 := by omega
         have := hz0 hx0
         subst this
         rfl)
  exact ⟨own_fin_of hV (by rw [hv]; exact roundRatio_ne_nan _ _ _ _ _) eq, by unfold own_z; rw [eq, hz]⟩
theorem own_fits_fin {s : Bool} {c : Nat} {q : Int} : (Datum.fin s c q) ≠ .nan := Datum.noConfusion
/-- whole numbers: a quotient that is at least r over 2^m -/
theorem own_div_lo (ha : own_Q 0 i a) (hb : own_Q 0 j b) (hj : 0 < j) (hm : m ≤ 1074) (hr : r.natAbs < 2 ^ 53) (h : r * j ≤ i * ((2 ^ m : Nat) : Int)) : r * (one64 : Int) ≤ own_z (FP.ddiv a b) * ((2 ^ m : Nat) : Int) := by
  obtain ⟨V, hV, ⟨vs, vc, vq, rfl⟩, hz⟩ := own_rep m hm r hr
  have ha2 := ha.2; have hb2 := hb.2
  rw [Nat.pow_zero] at ha2 hb2
  have e0 : ((1 : Nat) : Int) = 1 := rfl
  rw [e0, Int.mul_one] at ha2 hb2
  have q := own_div_dn ha.1 hb.1 (hb.zpos hj) hV Datum.noConfusion (by
    refine Int.le_of_mul_le_mul_right ?_ (own_p2 m)
    have e1 : zval b64 (.fin vs vc vq) * own_z b * ((2 ^ m : Nat) : Int) = (zval b64 (.fin vs vc vq) * ((2 ^ m : Nat) : Int)) * own_z b := by generalize (one64 : Int) = o_; ac_rfl
    rw [e1, hz, ha2, hb2]
    have e2 : r * (one64 : Int) * (j * (one64 : Int)) = (r * j) * ((one64 : Int) * (one64 : Int)) := by generalize (one64 : Int) = o_; ac_rfl
    have e3 : i * (one64 : Int) * (one64 : Int) * ((2 ^ m : Nat) : Int) = (i * ((2 ^ m : Nat) : Int)) * ((one64 : Int) * (one64 : Int)) := by generalize (one64 : Int) = o_; ac_rfl
    rw [e2, e3]
    exact Int.mul_le_mul_of_nonneg_right h (Int.le_of_lt (Int.mul_pos own_o2 own_o2)))
  rw [← hz]
  exact Int.mul_le_mul_of_nonneg_right q (Int.le_of_lt (own_p2 m))
theorem own_div_hi (ha : own_Q 0 i a) (hb : own_Q 0 j b) (hj : 0 < j) (hm : m ≤ 1074) (hr : r.natAbs < 2 ^ 53) (h : i * ((2 ^ m : Nat) : Int) ≤ r * j) : own_z (FP.ddiv a b) * ((2 ^ m : Nat) : Int) ≤ r * (one64 : Int) := by
  obtain ⟨V, hV, ⟨vs, vc, vq, rfl⟩, hz⟩ := own_rep m hm r hr
  have ha2 := ha.2; have hb2 := hb.2
  rw [Nat.pow_zero] at ha2 hb2
  have e0 : ((1 : Nat) : Int) = 1 := rfl
  rw [e0, Int.mul_one] at ha2 hb2
  have q := own_div_up ha.1 hb.1 (hb.zpos hj) hV Datum.noConfusion (by
    refine Int.le_of_mul_le_mul_right ?_ (own_p2 m)
    have e1 : zval b64 (.fin vs vc vq) * own_z b * ((2 ^ m : Nat) : Int) = (zval b64 (.fin vs vc vq) * ((2 ^ m : Nat) : Int)) * own_z b := by generalize (one64 : Int) = o_; ac_rfl
    rw [e1, hz, ha2, hb2]
    have e2 : r * (one64 : Int) * (j * (one64 : Int)) = (r * j) * ((one64 : Int) * (one64 : Int)) := by generalize (one64 : Int) = o_; ac_rfl
    have e3 : i * (one64 : Int) * (one64 : Int) * ((2 ^ m : Nat) : Int) = (i * ((2 ^ m : Nat) : Int)) * ((one64 : Int) * (one64 : Int)) := by generalize (one64 : Int) = o_; ac_rfl
    rw [e2, e3]
    exact Int.mul_le_mul_of_nonneg_right h (Int.le_of_lt (Int.mul_pos own_o2 own_o2)))
  rw [← hz]
  exact Int.mul_le_mul_of_nonneg_right q (Int.le_of_lt (own_p2 m))
theorem own_zcmp (ha : val64 a ≠ .nan) (hb : val64 b ≠ .nan) (h : own_z a < own_z b) : FP.dcmp a b = some .lt := by
  have q := dcmp_zval ha hb
  rw [show FP.dcmp a b = Jvm.FP.Core.dcmp a b from rfl, q]; exact congrArg some ((compare_lt_iff _ _).mpr h)
end OwnFP
theorem own_feq {args : Array Value} {s : State} {t : Term} {C f d : String} {n : Int32} {a : Addr} (h : (Jvm.Cond.eq (Jvm.Term.field t C f d) (Jvm.Term.int n)).value args s none s [] = some true) (ht : t.eval args s none [] s = some (.ref a)) : s.fieldOf? a C f d = some (.int n) := by
  have e : (Jvm.Term.field t C f d).eval args s none [] s = s.fieldOf? a C f d := fld_at ht
  cases hv : s.fieldOf? a C f d with
  | none => simp [Cond.value, e, hv] at h
  | some v => cases v <;> simp_all [Cond.value, Term.eval]
theorem own_and (x : Int32) (m : Nat) (hm : m < 2147483648) : (x &&& Int32.ofNat m).toInt = (((x &&& Int32.ofNat m).toBitVec.toNat : Nat) : Int) ∧ (x &&& Int32.ofNat m).toBitVec.toNat ≤ m := by
  have h : (x &&& Int32.ofNat m).toBitVec.toNat ≤ m := by
    rw [Int32.toBitVec_and, BitVec.toNat_and]
    refine Nat.le_trans Nat.and_le_right ?_
    show (BitVec.ofNat 32 m).toNat ≤ m
    rw [BitVec.toNat_ofNat]; exact Nat.mod_le _ _
  refine ⟨?_, h⟩
  show (x &&& Int32.ofNat m).toBitVec.toInt = _
  rw [BitVec.toInt_eq_toNat_of_lt (by omega)]
theorem own_and1 (x : Int32) : (x &&& 1) = 0 ∨ (x &&& 1) = 1 := by
  obtain ⟨e, h⟩ := own_and x 1 (by decide)
  rcases (by omega : (x &&& Int32.ofNat 1).toInt = 0 ∨ (x &&& Int32.ofNat 1).toInt = 1) with q | q
  · exact Or.inl (Int32.toInt_inj.mp (q.trans (by decide)))
  · exact Or.inr (Int32.toInt_inj.mp (q.trans (by decide)))
theorem own_and3 (x : Int32) : (x &&& 3) = 0 ∨ (x &&& 3) = 1 ∨ (x &&& 3) = 2 ∨ (x &&& 3) = 3 := by
  obtain ⟨e, h⟩ := own_and x 3 (by decide)
  rcases (by omega : (x &&& Int32.ofNat 3).toInt = 0 ∨ (x &&& Int32.ofNat 3).toInt = 1 ∨ (x &&& Int32.ofNat 3).toInt = 2 ∨ (x &&& Int32.ofNat 3).toInt = 3) with q | q | q | q
  · exact Or.inl (Int32.toInt_inj.mp (q.trans (by decide)))
  · exact Or.inr (Or.inl (Int32.toInt_inj.mp (q.trans (by decide))))
  · exact Or.inr (Or.inr (Or.inl (Int32.toInt_inj.mp (q.trans (by decide)))))
  · exact Or.inr (Or.inr (Or.inr (Int32.toInt_inj.mp (q.trans (by decide)))))
section OwnLease
open Jvm.FP.Core
theorem own_i2dnn (n : Int32) : Jvm.Free.Fl.NoNaN64 (FP.i2d n) := (Jvm.Free.Fl.i2d_fin n).noNaN
theorem own_qz (k : Nat) : own_Q k 0 0 := (own_Q.of (own_litI 0 (i := 0) (d := 0) (by decide +kernel) (by decide))).up k (i' := 0) (k' := k) (Int.zero_mul _) (Nat.zero_add _)
theorem own_absQ {k : Nat} {i : Int} {a : UInt64} (h : own_Q k i a) : own_Q k (i.natAbs : Int) (a &&& 0x7fffffffffffffff) := by
  have hc : Jvm.FP.Core.dcmp a 0 = some (compare i 0) := h.cmp (own_qz k)
  rcases Int.lt_trichotomy i 0 with q | q | q
  · rw [(compare_lt_iff _ _).mpr q] at hc
    rw [abs_neg hc, show (i.natAbs : Int) = -i by omega]; exact h.cneg
  · rw [(compare_eq_iff _ _).mpr q] at hc
    rw [abs_zero hc, q]; exact own_qz k
  · rw [(compare_gt_iff _ _).mpr q] at hc
    rw [abs_pos hc, show (i.natAbs : Int) = i by omega]; exact h
theorem own_farQ {k : Nat} {i : Int} {a : UInt64} (h : own_Q k i a) (hi : (i.natAbs : Int) ≤ 9007199254740992 * ((2 ^ k : Nat) : Int)) : ¬ (FP.dcmp (a &&& 0x7fffffffffffffff) 4845873199050653696 = some .gt ∨ FP.dcmp (a &&& 0x7fffffffffffffff) 4845873199050653696 = none) := by
  have h53 : own_Q 0 9007199254740992 4845873199050653696 := by
    have q : Jvm.FP.Core.l2d 9007199254740992 = 4845873199050653696 := by decide +kernel
    have e : (9007199254740992 : Int64).toInt = 9007199254740992 := by decide +kernel
    have q2 := own_Q.of (l2d_int (a := 9007199254740992) (by rw [e]; decide))
    rw [e, q] at q2
    exact q2
  have hk := h53.up k (i' := 9007199254740992 * ((2 ^ k : Nat) : Int)) (k' := k) rfl (Nat.zero_add _)
  rw [(own_absQ h).cmp hk]
  rintro (q | q)
  · have := (compare_gt_iff _ _).mp (Option.some.inj q); omega
  · exact nomatch q
theorem own_far (n : Int32) : ¬ (FP.dcmp (FP.i2d n &&& 0x7fffffffffffffff) 4845873199050653696 = some .gt ∨ FP.dcmp (FP.i2d n &&& 0x7fffffffffffffff) 4845873199050653696 = none) := by
  have b := own_i32 n
  exact own_farQ (own_Q.of (i2d_int n)) (by
    have e1 : ((2 ^ 0 : Nat) : Int) = 1 := rfl
    rw [e1]; omega)
theorem own_i2dinf (n : Int32) : ¬ FP.dcmp (FP.i2d n) 9218868437227405312 = some .eq := by
  have q : FP.dcmp (FP.i2d n) 9218868437227405312 = some .lt := (fin_lt_inf (own_Q.of (i2d_int n)).1).1
  rw [q]; exact fun h => nomatch h
theorem own_mb (x : Int32) : 0 < ((x &&& 1073741823) + (1)) := by
  obtain ⟨e, h⟩ := own_and x 1073741823 (by decide)
  have e3 : (x &&& 1073741823).toInt = (x &&& Int32.ofNat 1073741823).toInt := rfl
  have e1 : (1 : Int32).toInt = 1 := by decide
  have e0 : (0 : Int32).toInt = 0 := by decide
  rw [Int32.lt_iff_toInt_lt, Jvm.Free.XT.add32 (by unfold Jvm.Free.XT.fits32; rw [e3, e, e1]; omega), e3, e, e1, e0]; omega
theorem own_four (x : Int32) : own_Q 2 x.toInt (FP.ddiv (FP.i2d x) 4616189618054758400) := by
  have b := own_i32 x
  exact own_div (k' := 2) (own_Q.of (i2d_int x)) (own_Q.of (own_litI 4 (i := 4) (by decide +kernel) (by decide))) (by decide) (by
    have e1 : ((2 ^ 0 : Nat) : Int) = 1 := rfl
    have e2 : ((2 ^ 2 : Nat) : Int) = 4 := rfl
    rw [e1, e2]; omega) (by omega)
theorem own_duQ {x z : Int32} {d y : UInt64} (ed : d = FP.ddiv (FP.i2d x) 4616189618054758400) (e : y = (if z = 0 then d else (FP.dneg d))) : own_Q 2 (if z = 0 then x.toInt else -x.toInt) y := by
  subst ed e
  by_cases h : z = 0
  · rw [if_pos h, if_pos h]; exact own_four x
  · rw [if_neg h, if_neg h]; exact (own_four x).neg
theorem own_dun {x z : Int32} {d y : UInt64} (ed : d = FP.ddiv (FP.i2d x) 4616189618054758400) (e : y = (if z = 0 then d else (FP.dneg d))) : Jvm.Free.Fl.NoNaN64 y := (own_duQ ed e).nn
theorem own_duf {x z : Int32} {d y : UInt64} (ed : d = FP.ddiv (FP.i2d x) 4616189618054758400) (e : y = (if z = 0 then d else (FP.dneg d))) : ¬ (FP.dcmp (y &&& 0x7fffffffffffffff) 4845873199050653696 = some .gt ∨ FP.dcmp (y &&& 0x7fffffffffffffff) 4845873199050653696 = none) := by
  have b := own_i32 x
  refine own_farQ (own_duQ ed e) ?_
  have e4 : ((2 ^ 2 : Nat) : Int) = 4 := rfl
  rw [e4]
  by_cases h : z = 0
  · rw [if_pos h]; omega
  · rw [if_neg h]; omega
theorem own_t3 {x t : Int32} (e : t = ((x >>> ((2) &&& 31)) &&& (3))) (h0 : ¬ t = 0) (h1 : ¬ t = (1)) (h2 : ¬ t = (2)) (hc : t < (2)) : False := by
  rcases own_and3 (x >>> ((2) &&& 31)) with q | q | q | q <;> rw [q] at e <;> subst e
  · exact h0 rfl
  · exact h1 rfl
  · exact h2 rfl
  · exact absurd hc (by decide)
theorem own_set {x z v kn y got ex : Int32} {d du : UInt64} (ed : d = FP.ddiv (FP.i2d x) 4616189618054758400) (e : du = (if z = 0 then d else (FP.dneg d)))
    (ey : y = (if z = 0 then (if 0 < x then (1) else (0)) else (if x < 0 then (1) else (0)))) (eg : got = (if 0 < v then (if FP.dcmp du 0 = some .gt then (if kn = 0 then (1) else (0)) else (1)) else (1))) (ex' : ex = (if 0 < v then (if y = 0 then (1) else (if kn = 0 then (1) else (0))) else (1))) : got = ex := by
  have hQ := own_duQ ed e
  have hc := hQ.cmp (own_qz 2)
  have e0 : (0 : Int32).toInt = 0 := by decide
  have key : FP.dcmp du 0 = some .gt ↔ ¬ y = 0 := by
    rw [hc, ey]
    have l1 : (0 : Int32) < x ↔ 0 < x.toInt := by rw [Int32.lt_iff_toInt_lt, e0]
    have l2 : x < 0 ↔ x.toInt < 0 := by rw [Int32.lt_iff_toInt_lt, e0]
    constructor
    · intro h
      have h' := (compare_gt_iff _ _).mp (Option.some.inj h)
      by_cases hz : z = 0
      · rw [if_pos hz] at h' ⊢; rw [if_pos (l1.mpr h')]; decide
      · rw [if_neg hz] at h' ⊢; rw [if_pos (l2.mpr (by omega))]; decide
    · intro h
      refine congrArg some ((compare_gt_iff _ _).mpr ?_)
      by_cases hz : z = 0
      · rw [if_pos hz] at h ⊢
        by_cases hx : 0 < x
        · exact l1.mp hx
        · rw [if_neg hx] at h; exact absurd rfl h
      · rw [if_neg hz] at h ⊢
        by_cases hx : x < 0
        · have := l2.mp hx; omega
        · rw [if_neg hx] at h; exact absurd rfl h
  rw [eg, ex']
  by_cases hv : 0 < v
  · rw [if_pos hv, if_pos hv]
    by_cases hy : y = 0
    · rw [if_neg (fun h => key.mp h hy), if_pos hy]
    · rw [if_pos (key.mpr hy), if_neg hy]
  · rw [if_neg hv, if_neg hv]
end OwnLease

theorem d_jdk_30_method_1_code_0 : decode jdk_30_method_1_code 0 = .ok (.aload_n 0, 1) := by decide +kernel
theorem d_jdk_30_method_1_code_1 : decode jdk_30_method_1_code 1 = .ok (.invokespecial 1, 3) := by decide +kernel
theorem d_jdk_30_method_1_code_4 : decode jdk_30_method_1_code 4 = .ok (.return_, 1) := by decide +kernel
theorem own_pn0 : plainName "java/lang/Record" = true := by first | (simp [plainName, overriddenIn]; done) | decide +kernel
def rm_own_rec : Room := { frames := 1, cells := 0, slots := 0, locals := 12 }
set_option maxRecDepth 65536 in
set_option maxHeartbeats 40000000 in
theorem own_rec (l : Launch) (Z : State) (a0 : Array Value) (hw : ∀ d ∈ tables_1, d.before a0 Z = true) (a : Addr) (L : List (Addr × (Cell → Prop))) :
    own_Con l Z (⟨"java/lang/Record", "<init>", "()V"⟩ : MethodName) jdk_30_method_1_code 1 none rm_own_rec #[(.ref a)] (L) (fun v M => v = none ∧ M = L) := by
  refine own_con (ls := #[.val (.ref a)]) (plainFor_of_name own_pn0) (fun m => own_ent m rfl) ?_
  intro p e s m below meth c T C X
  refine k_aloadN C X d_jdk_30_method_1_code_0 rfl rfl rfl ?_
  refine k_initO C X d_jdk_30_method_1_code_1 rfl (hw _ (List.mem_of_getElem? (i := 19) rfl)) (hw _ (List.mem_of_getElem? (i := 20) rfl)) (hw _ (List.mem_of_getElem? (i := 21) rfl)) rfl (W := 0) (Nat.le_of_eq rfl) (by decide) (by decide) (fun T X => ?_)
  exact k_return C X d_jdk_30_method_1_code_4 ⟨rfl, rfl⟩ (by decide) (by decide)
theorem d_jdk_31_method_11_code_0 : decode jdk_31_method_11_code 0 = .ok (.aload_n 0, 1) := by decide +kernel
theorem d_jdk_31_method_11_code_1 : decode jdk_31_method_11_code 1 = .ok (.ifnonnull 12, 3) := by decide +kernel
theorem d_jdk_31_method_11_code_13 : decode jdk_31_method_11_code 13 = .ok (.aload_n 0, 1) := by decide +kernel
theorem d_jdk_31_method_11_code_14 : decode jdk_31_method_11_code 14 = .ok (.areturn, 1) := by decide +kernel
theorem own_pn1 : plainName "java/util/Objects" = true := by first | (simp [plainName, overriddenIn]; done) | decide +kernel
def rm_own_rnn : Room := { frames := 0, cells := 0, slots := 0, locals := 0 }
set_option maxRecDepth 65536 in
set_option maxHeartbeats 40000000 in
theorem own_rnn (l : Launch) (Z : State) (a0 : Array Value) (hw : ∀ d ∈ tables_1, d.before a0 Z = true) (a b : Addr) (L : List (Addr × (Cell → Prop))) :
    own_Con l Z (⟨"java/util/Objects", "requireNonNull", "(Ljava/lang/Object;Ljava/lang/String;)Ljava/lang/Object;"⟩ : MethodName) jdk_31_method_11_code 2 (some (.object "java/lang/Object")) rm_own_rnn #[(.ref a), (.ref b)] (L) (fun v M => v = some (.ref a) ∧ M = L) := by
  refine own_con (ls := #[.val (.ref a), .val (.ref b)]) (plainFor_of_name own_pn1) (fun m => own_ent m rfl) ?_
  intro p e s m below meth c T C X
  refine k_aloadN C X d_jdk_31_method_11_code_0 rfl rfl rfl ?_
  refine k_ifnonnull_y C X d_jdk_31_method_11_code_1 (tpc := 13) rfl ?_
  refine k_aloadN C X d_jdk_31_method_11_code_13 rfl rfl rfl ?_
  exact k_areturn C X d_jdk_31_method_11_code_14 rfl rfl rfl ⟨rfl, rfl⟩ (by decide) (by decide)
theorem d_prog_70_method_4_code_0 : decode prog_70_method_4_code 0 = .ok (.aload_n 0, 1) := by decide +kernel
theorem d_prog_70_method_4_code_1 : decode prog_70_method_4_code 1 = .ok (.getfield 35, 3) := by decide +kernel
theorem d_prog_70_method_4_code_4 : decode prog_70_method_4_code 4 = .ok (.ireturn, 1) := by decide +kernel
theorem own_pn2 : plainName "com/example/cotenant/cotenant/core/lease/LeaseRequest$Type" = true := by first | (simp [plainName, overriddenIn]; done) | decide +kernel
def rm_own_binds : Room := { frames := 0, cells := 0, slots := 0, locals := 0 }
set_option maxRecDepth 65536 in
set_option maxHeartbeats 40000000 in
theorem own_binds (l : Launch) (Z : State) (a0 : Array Value) (hw : ∀ d ∈ tables_1, d.before a0 Z = true) (a : Addr) (z : Int32) (hz : z = 0 ∨ z = 1) (hF : Fld Z Z.heap a "com/example/cotenant/cotenant/core/lease/LeaseRequest$Type" "bindsDeadline" "Z" (.int z)) (L : List (Addr × (Cell → Prop))) :
    own_Con l Z (⟨"com/example/cotenant/cotenant/core/lease/LeaseRequest$Type", "bindsDeadline", "()Z"⟩ : MethodName) prog_70_method_4_code 1 (some .boolean) rm_own_binds #[(.ref a)] (L) (fun v M => v = some (.int z) ∧ M = L) := by
  refine own_con (ls := #[.val (.ref a)]) (plainFor_of_name own_pn2) (fun m => own_ent m rfl) ?_
  intro p e s m below meth c T C X
  refine k_aloadN C X d_prog_70_method_4_code_0 rfl rfl rfl ?_
  refine k_getfield C X d_prog_70_method_4_code_1 rfl (host := "") (Or.inl (hw _ (List.mem_of_getElem? (i := 48) rfl))) (own_fO hF) (fun T X => ?_)
  exact k_ireturn C X d_prog_70_method_4_code_4 (by simp) (own_bool hz) ⟨rfl, rfl⟩ (by decide) (by decide)
theorem d_prog_67_method_1_code_0 : decode prog_67_method_1_code 0 = .ok (.aload_n 0, 1) := by decide +kernel
theorem d_prog_67_method_1_code_1 : decode prog_67_method_1_code 1 = .ok (.invokespecial 3, 3) := by decide +kernel
theorem own_pd0 : parseMethodDescriptor "()V" = some ⟨[], none⟩ := by decide +kernel
theorem d_prog_67_method_1_code_4 : decode prog_67_method_1_code 4 = .ok (.dload_n 3, 1) := by decide +kernel
theorem d_prog_67_method_1_code_5 : decode prog_67_method_1_code 5 = .ok (.invokestatic 9, 3) := by decide +kernel
theorem d_prog_67_method_1_code_8 : decode prog_67_method_1_code 8 = .ok (.ldc2_w 17, 3) := by decide +kernel
theorem d_prog_67_method_1_code_11 : decode prog_67_method_1_code 11 = .ok (.dcmp .g, 1) := by decide +kernel
theorem d_prog_67_method_1_code_12 : decode prog_67_method_1_code 12 = .ok (.ifCond .gt 15, 3) := by decide +kernel
theorem d_prog_67_method_1_code_15 : decode prog_67_method_1_code 15 = .ok (.dload 8, 2) := by decide +kernel
theorem d_prog_67_method_1_code_17 : decode prog_67_method_1_code 17 = .ok (.invokestatic 9, 3) := by decide +kernel
theorem d_prog_67_method_1_code_20 : decode prog_67_method_1_code 20 = .ok (.ldc2_w 17, 3) := by decide +kernel
theorem d_prog_67_method_1_code_23 : decode prog_67_method_1_code 23 = .ok (.dcmp .g, 1) := by decide +kernel
theorem d_prog_67_method_1_code_24 : decode prog_67_method_1_code 24 = .ok (.ifCond .le 20, 3) := by decide +kernel
theorem d_prog_67_method_1_code_44 : decode prog_67_method_1_code 44 = .ok (.dload 10, 2) := by decide +kernel
theorem d_prog_67_method_1_code_46 : decode prog_67_method_1_code 46 = .ok (.invokestatic 9, 3) := by decide +kernel
theorem d_prog_67_method_1_code_49 : decode prog_67_method_1_code 49 = .ok (.ldc2_w 17, 3) := by decide +kernel
theorem d_prog_67_method_1_code_52 : decode prog_67_method_1_code 52 = .ok (.dcmp .g, 1) := by decide +kernel
theorem d_prog_67_method_1_code_53 : decode prog_67_method_1_code 53 = .ok (.ifCond .le 28, 3) := by decide +kernel
theorem d_prog_67_method_1_code_56 : decode prog_67_method_1_code 56 = .ok (.dload 10, 2) := by decide +kernel
theorem d_prog_67_method_1_code_58 : decode prog_67_method_1_code 58 = .ok (.ldc2_w 28, 3) := by decide +kernel
theorem d_prog_67_method_1_code_61 : decode prog_67_method_1_code 61 = .ok (.dcmp .l, 1) := by decide +kernel
theorem d_prog_67_method_1_code_62 : decode prog_67_method_1_code 62 = .ok (.ifCond .eq 19, 3) := by decide +kernel
theorem d_prog_67_method_1_code_81 : decode prog_67_method_1_code 81 = .ok (.aload 12, 2) := by decide +kernel
theorem d_prog_67_method_1_code_83 : decode prog_67_method_1_code 83 = .ok (.ldc 33, 2) := by decide +kernel
theorem own_wS {Z : State} {a0 : Array Value} (hw : ∀ d ∈ tables_1, d.before a0 Z = true) : ∀ d ∈ Bundle.stringAtoms, d.before a0 Z = true := by
  intro d hd
  simp only [Bundle.stringAtoms, Bundle.sN, List.mem_cons, List.not_mem_nil, or_false] at hd
  rcases hd with rfl | rfl | rfl | rfl | rfl | rfl | rfl
  · exact (hw _ (List.mem_of_getElem? (i := 28) rfl))
  · exact (hw _ (List.mem_of_getElem? (i := 29) rfl))
  · exact (hw _ (List.mem_of_getElem? (i := 30) rfl))
  · exact (hw _ (List.mem_of_getElem? (i := 31) rfl))
  · exact (hw _ (List.mem_of_getElem? (i := 32) rfl))
  · exact (hw _ (List.mem_of_getElem? (i := 33) rfl))
  · exact (hw _ (List.mem_of_getElem? (i := 34) rfl))
theorem d_prog_67_method_1_code_85 : decode prog_67_method_1_code 85 = .ok (.invokestatic 35, 3) := by decide +kernel
theorem own_pd1 : parseMethodDescriptor "(Ljava/lang/Object;Ljava/lang/String;)Ljava/lang/Object;" = some ⟨[(.object "java/lang/Object"), (.object "java/lang/String")], some (.object "java/lang/Object")⟩ := by decide +kernel
theorem d_prog_67_method_1_code_88 : decode prog_67_method_1_code 88 = .ok (.pop, 1) := by decide +kernel
theorem d_prog_67_method_1_code_89 : decode prog_67_method_1_code 89 = .ok (.aload 13, 2) := by decide +kernel
theorem d_prog_67_method_1_code_91 : decode prog_67_method_1_code 91 = .ok (.ldc 41, 2) := by decide +kernel
theorem d_prog_67_method_1_code_93 : decode prog_67_method_1_code 93 = .ok (.invokestatic 35, 3) := by decide +kernel
theorem d_prog_67_method_1_code_96 : decode prog_67_method_1_code 96 = .ok (.pop, 1) := by decide +kernel
theorem d_prog_67_method_1_code_97 : decode prog_67_method_1_code 97 = .ok (.iload 7, 2) := by decide +kernel
theorem d_prog_67_method_1_code_99 : decode prog_67_method_1_code 99 = .ok (.ifCond .gt 19, 3) := by decide +kernel
theorem d_prog_67_method_1_code_118 : decode prog_67_method_1_code 118 = .ok (.aload 12, 2) := by decide +kernel
theorem d_prog_67_method_1_code_120 : decode prog_67_method_1_code 120 = .ok (.getstatic 46, 3) := by decide +kernel
theorem d_prog_67_method_1_code_123 : decode prog_67_method_1_code 123 = .ok (.if_acmp .ne 41, 3) := by decide +kernel
theorem d_prog_67_method_1_code_126 : decode prog_67_method_1_code 126 = .ok (.aload 13, 2) := by decide +kernel
theorem d_prog_67_method_1_code_128 : decode prog_67_method_1_code 128 = .ok (.getstatic 52, 3) := by decide +kernel
theorem d_prog_67_method_1_code_131 : decode prog_67_method_1_code 131 = .ok (.if_acmp .ne 12, 3) := by decide +kernel
theorem d_prog_67_method_1_code_134 : decode prog_67_method_1_code 134 = .ok (.dload 10, 2) := by decide +kernel
theorem d_prog_67_method_1_code_136 : decode prog_67_method_1_code 136 = .ok (.ldc2_w 28, 3) := by decide +kernel
theorem d_prog_67_method_1_code_139 : decode prog_67_method_1_code 139 = .ok (.dcmp .l, 1) := by decide +kernel
theorem d_prog_67_method_1_code_140 : decode prog_67_method_1_code 140 = .ok (.ifCond .eq 24, 3) := by decide +kernel
theorem d_prog_67_method_1_code_164 : decode prog_67_method_1_code 164 = .ok (.aload 12, 2) := by decide +kernel
theorem d_prog_67_method_1_code_166 : decode prog_67_method_1_code 166 = .ok (.getstatic 67, 3) := by decide +kernel
theorem d_prog_67_method_1_code_169 : decode prog_67_method_1_code 169 = .ok (.if_acmp .ne 39, 3) := by decide +kernel
theorem d_prog_67_method_1_code_208 : decode prog_67_method_1_code 208 = .ok (.aload_n 0, 1) := by decide +kernel
theorem d_prog_67_method_1_code_209 : decode prog_67_method_1_code 209 = .ok (.lload_n 1, 1) := by decide +kernel
theorem d_prog_67_method_1_code_210 : decode prog_67_method_1_code 210 = .ok (.putfield 81, 3) := by decide +kernel
def own_lay_LeaseRequest_N : List (String × String × FieldType) := [("id", "J", .long), ("arrival", "D", .double), ("arrivalKnown", "Z", .boolean), ("vms", "I", .int), ("memoryMb", "I", .int), ("duration", "D", .double), ("deadline", "D", .double), ("origin", "Lcom/example/cotenant/cotenant/core/lease/LeaseRequest$Origin;", (.object "com/example/cotenant/cotenant/core/lease/LeaseRequest$Origin")), ("type", "Lcom/example/cotenant/cotenant/core/lease/LeaseRequest$Type;", (.object "com/example/cotenant/cotenant/core/lease/LeaseRequest$Type"))]
theorem own_lay_LeaseRequest {Z : State} {a0 : Array Value} (hw : ∀ d ∈ tables_1, d.before a0 Z = true) : own_lay Z a0 "com/example/cotenant/cotenant/core/lease/LeaseRequest" own_lay_LeaseRequest_N := ⟨⟨Or.inr (hw _ (List.mem_of_getElem? (i := 51) rfl)), by decide⟩, ⟨Or.inr (hw _ (List.mem_of_getElem? (i := 53) rfl)), by decide⟩, ⟨Or.inr (hw _ (List.mem_of_getElem? (i := 55) rfl)), by decide⟩, ⟨Or.inr (hw _ (List.mem_of_getElem? (i := 57) rfl)), by decide⟩, ⟨Or.inr (hw _ (List.mem_of_getElem? (i := 59) rfl)), by decide⟩, ⟨Or.inr (hw _ (List.mem_of_getElem? (i := 61) rfl)), by decide⟩, ⟨Or.inr (hw _ (List.mem_of_getElem? (i := 63) rfl)), by decide⟩, ⟨Or.inr (hw _ (List.mem_of_getElem? (i := 65) rfl)), by decide⟩, ⟨Or.inr (hw _ (List.mem_of_getElem? (i := 67) rfl)), by decide⟩, trivial⟩
theorem own_lay_LeaseRequest_nd : (own_lay_LeaseRequest_N.map (·.1)).Nodup := by decide +kernel
theorem d_prog_67_method_1_code_213 : decode prog_67_method_1_code 213 = .ok (.aload_n 0, 1) := by decide +kernel
theorem d_prog_67_method_1_code_214 : decode prog_67_method_1_code 214 = .ok (.dload_n 3, 1) := by decide +kernel
theorem d_prog_67_method_1_code_215 : decode prog_67_method_1_code 215 = .ok (.putfield 85, 3) := by decide +kernel
theorem d_prog_67_method_1_code_218 : decode prog_67_method_1_code 218 = .ok (.aload_n 0, 1) := by decide +kernel
theorem d_prog_67_method_1_code_219 : decode prog_67_method_1_code 219 = .ok (.iload 5, 2) := by decide +kernel
theorem d_prog_67_method_1_code_221 : decode prog_67_method_1_code 221 = .ok (.putfield 89, 3) := by decide +kernel
theorem d_prog_67_method_1_code_224 : decode prog_67_method_1_code 224 = .ok (.aload_n 0, 1) := by decide +kernel
theorem d_prog_67_method_1_code_225 : decode prog_67_method_1_code 225 = .ok (.iload 6, 2) := by decide +kernel
theorem d_prog_67_method_1_code_227 : decode prog_67_method_1_code 227 = .ok (.putfield 93, 3) := by decide +kernel
theorem d_prog_67_method_1_code_230 : decode prog_67_method_1_code 230 = .ok (.aload_n 0, 1) := by decide +kernel
theorem d_prog_67_method_1_code_231 : decode prog_67_method_1_code 231 = .ok (.iload 7, 2) := by decide +kernel
theorem d_prog_67_method_1_code_233 : decode prog_67_method_1_code 233 = .ok (.putfield 97, 3) := by decide +kernel
theorem d_prog_67_method_1_code_236 : decode prog_67_method_1_code 236 = .ok (.aload_n 0, 1) := by decide +kernel
theorem d_prog_67_method_1_code_237 : decode prog_67_method_1_code 237 = .ok (.dload 8, 2) := by decide +kernel
theorem d_prog_67_method_1_code_239 : decode prog_67_method_1_code 239 = .ok (.putfield 100, 3) := by decide +kernel
theorem d_prog_67_method_1_code_242 : decode prog_67_method_1_code 242 = .ok (.aload_n 0, 1) := by decide +kernel
theorem d_prog_67_method_1_code_243 : decode prog_67_method_1_code 243 = .ok (.dload 10, 2) := by decide +kernel
theorem d_prog_67_method_1_code_245 : decode prog_67_method_1_code 245 = .ok (.putfield 103, 3) := by decide +kernel
theorem d_prog_67_method_1_code_248 : decode prog_67_method_1_code 248 = .ok (.aload_n 0, 1) := by decide +kernel
theorem d_prog_67_method_1_code_249 : decode prog_67_method_1_code 249 = .ok (.aload 12, 2) := by decide +kernel
theorem d_prog_67_method_1_code_251 : decode prog_67_method_1_code 251 = .ok (.putfield 106, 3) := by decide +kernel
theorem d_prog_67_method_1_code_254 : decode prog_67_method_1_code 254 = .ok (.aload_n 0, 1) := by decide +kernel
theorem d_prog_67_method_1_code_255 : decode prog_67_method_1_code 255 = .ok (.aload 13, 2) := by decide +kernel
theorem d_prog_67_method_1_code_257 : decode prog_67_method_1_code 257 = .ok (.putfield 108, 3) := by decide +kernel
theorem d_prog_67_method_1_code_260 : decode prog_67_method_1_code 260 = .ok (.return_, 1) := by decide +kernel
theorem own_pn3 : plainName "com/example/cotenant/cotenant/core/lease/LeaseRequest" = true := by first | (simp [plainName, overriddenIn]; done) | decide +kernel
def rm_own_ct1 : Room := { frames := 2, cells := 4, slots := 48, locals := 24 }
set_option maxRecDepth 65536 in
set_option maxHeartbeats 40000000 in
theorem own_ct1 (l : Launch) (Z : State) (a0 : Array Value) (hw : ∀ d ∈ tables_1, d.before a0 Z = true) (a aL aE tN tp : Addr) (id_ : Int64) (ar du dl : UInt64) (kn vs_ mb : Int32) (hSL : Sta Z Z.heap "com/example/cotenant/cotenant/core/lease/LeaseRequest$Origin" "LOCAL" "Lcom/example/cotenant/cotenant/core/lease/LeaseRequest$Origin;" (.ref aL)) (hSE : Sta Z Z.heap "com/example/cotenant/cotenant/core/lease/LeaseRequest$Origin" "EXTERNAL" "Lcom/example/cotenant/cotenant/core/lease/LeaseRequest$Origin;" (.ref aE)) (hSN : Sta Z Z.heap "com/example/cotenant/cotenant/core/lease/LeaseRequest$Type" "NON_PREEMPTABLE" "Lcom/example/cotenant/cotenant/core/lease/LeaseRequest$Type;" (.ref tN)) (hne : aL ≠ aE) (hkn : kn = 0 ∨ kn = 1) (hmb : 0 < mb) (nA : Jvm.Free.Fl.NoNaN64 ar) (nD : Jvm.Free.Fl.NoNaN64 du) (hA : ¬ (FP.dcmp (ar &&& 0x7fffffffffffffff) 4845873199050653696 = some .gt ∨ FP.dcmp (ar &&& 0x7fffffffffffffff) 4845873199050653696 = none)) (hD : ¬ (FP.dcmp (du &&& 0x7fffffffffffffff) 4845873199050653696 = some .gt ∨ FP.dcmp (du &&& 0x7fffffffffffffff) 4845873199050653696 = none)) (L : List (Addr × (Cell → Prop))) :
    own_ConW l Z (⟨"com/example/cotenant/cotenant/core/lease/LeaseRequest", "<init>", "(JDZIIDDLcom/example/cotenant/cotenant/core/lease/LeaseRequest$Origin;Lcom/example/cotenant/cotenant/core/lease/LeaseRequest$Type;)V"⟩ : MethodName) prog_67_method_1_code 14 none rm_own_ct1 #[(.ref a), (.long id_), (.double ar), (.int kn), (.int vs_), (.int mb), (.double du), (.double 9218868437227405312), (.ref aL), (.ref tN)] ((a, own_ob Z "com/example/cotenant/cotenant/core/lease/LeaseRequest" [("id", "J", (.long (0))), ("arrival", "D", (.double 0)), ("arrivalKnown", "Z", (.int (0))), ("vms", "I", (.int (0))), ("memoryMb", "I", (.int (0))), ("duration", "D", (.double 0)), ("deadline", "D", (.double 0)), ("origin", "Lcom/example/cotenant/cotenant/core/lease/LeaseRequest$Origin;", .null), ("type", "Lcom/example/cotenant/cotenant/core/lease/LeaseRequest$Type;", .null)]) :: L) (fun _ => True) (fun v M G => v = none ∧ M = (a, own_ob Z "com/example/cotenant/cotenant/core/lease/LeaseRequest" [("id", "J", (.long id_)), ("arrival", "D", (.double ar)), ("arrivalKnown", "Z", (.int kn)), ("vms", "I", (.int vs_)), ("memoryMb", "I", (.int mb)), ("duration", "D", (.double du)), ("deadline", "D", (.double 9218868437227405312)), ("origin", "Lcom/example/cotenant/cotenant/core/lease/LeaseRequest$Origin;", (.ref aL)), ("type", "Lcom/example/cotenant/cotenant/core/lease/LeaseRequest$Type;", (.ref tN))]) :: L) := by
  refine own_conW (ls := #[.val (.ref a), .val (.long id_), .second, .val (.double ar), .second, .val (.int kn), .val (.int vs_), .val (.int mb), .val (.double du), .second, .val (.double 9218868437227405312), .second, .val (.ref aL), .val (.ref tN)]) (plainFor_of_name own_pn3) (fun m => own_ent m rfl) ?_
  intro p e s m below meth c T C X hJ
  refine k_aloadN C X d_prog_67_method_1_code_0 rfl rfl rfl ?_
  refine k_init C X d_prog_67_method_1_code_1 rfl rfl (hw _ (List.mem_of_getElem? (i := 14) rfl)) (hw _ (List.mem_of_getElem? (i := 15) rfl)) (hw _ (List.mem_of_getElem? (i := 17) rfl)) (hw _ (List.mem_of_getElem? (i := 18) rfl)) (by decide) (own_rec l Z a0 hw a ((a, own_ob Z "com/example/cotenant/cotenant/core/lease/LeaseRequest" [("id", "J", (.long (0))), ("arrival", "D", (.double 0)), ("arrivalKnown", "Z", (.int (0))), ("vms", "I", (.int (0))), ("memoryMb", "I", (.int (0))), ("duration", "D", (.double 0)), ("deadline", "D", (.double 0)), ("origin", "Lcom/example/cotenant/cotenant/core/lease/LeaseRequest$Origin;", .null), ("type", "Lcom/example/cotenant/cotenant/core/lease/LeaseRequest$Type;", .null)]) :: L)) (W := 0) (argsL := []) (rest := []) rfl rfl rfl own_pd0 rfl (Nat.le_of_eq rfl) (by decide) (by decide) (by decide) (by decide) (fun v T M hQ X => ?_)
  obtain ⟨rfl, rfl⟩ := hQ
  refine k_dloadN C X d_prog_67_method_1_code_4 rfl rfl ?_
  refine k_abs C X d_prog_67_method_1_code_5 rfl (hw _ (List.mem_of_getElem? (i := 22) rfl)) (hw _ (List.mem_of_getElem? (i := 23) rfl)) (hw _ (List.mem_of_getElem? (i := 24) rfl)) (hw _ (List.mem_of_getElem? (i := 25) rfl)) (nA) rfl (W := 0) (Nat.le_of_eq rfl) (by decide) (by decide) (fun T X => ?_)
  refine k_ldc2d C X d_prog_67_method_1_code_8 rfl (hw _ (List.mem_of_getElem? (i := 26) rfl)) ?_
  refine k_dcmpg C X d_prog_67_method_1_code_11 rfl ?_
  refine k_ifdg_gt C X d_prog_67_method_1_code_12 rfl (tpc := 27) rfl (fun hc => (hA hc : False).elim) (fun _ => ?_)
  refine k_dload C X d_prog_67_method_1_code_15 rfl rfl ?_
  refine k_abs C X d_prog_67_method_1_code_17 rfl (hw _ (List.mem_of_getElem? (i := 22) rfl)) (hw _ (List.mem_of_getElem? (i := 23) rfl)) (hw _ (List.mem_of_getElem? (i := 24) rfl)) (hw _ (List.mem_of_getElem? (i := 25) rfl)) (nD) rfl (W := 0) (Nat.le_of_eq rfl) (by decide) (by decide) (fun T X => ?_)
  refine k_ldc2d C X d_prog_67_method_1_code_20 rfl (hw _ (List.mem_of_getElem? (i := 26) rfl)) ?_
  refine k_dcmpg C X d_prog_67_method_1_code_23 rfl ?_
  refine k_ifdg_le C X d_prog_67_method_1_code_24 rfl (tpc := 44) rfl (fun _ => ?_) (fun hc => (hD hc : False).elim)
  refine k_dload C X d_prog_67_method_1_code_44 rfl rfl ?_
  refine k_abs C X d_prog_67_method_1_code_46 rfl (hw _ (List.mem_of_getElem? (i := 22) rfl)) (hw _ (List.mem_of_getElem? (i := 23) rfl)) (hw _ (List.mem_of_getElem? (i := 24) rfl)) (hw _ (List.mem_of_getElem? (i := 25) rfl)) (by unfold Jvm.Free.Fl.NoNaN64; decide +kernel) rfl (W := 0) (Nat.le_of_eq rfl) (by decide) (by decide) (fun T X => ?_)
  refine k_ldc2d C X d_prog_67_method_1_code_49 rfl (hw _ (List.mem_of_getElem? (i := 26) rfl)) ?_
  refine k_dcmpg C X d_prog_67_method_1_code_52 rfl ?_
  refine k_ifdg_le C X d_prog_67_method_1_code_53 rfl (tpc := 81) rfl (fun hc => (hc (Or.inl (by decide +kernel)) : False).elim) (fun _ => ?_)
  refine k_dload C X d_prog_67_method_1_code_56 rfl rfl ?_
  refine k_ldc2d C X d_prog_67_method_1_code_58 rfl (hw _ (List.mem_of_getElem? (i := 77) rfl)) ?_
  refine k_dcmpl C X d_prog_67_method_1_code_61 rfl ?_
  refine k_ifdl_eq C X d_prog_67_method_1_code_62 rfl (tpc := 81) rfl (fun _ => ?_) (fun hc => (hc (by decide +kernel) : False).elim)
  refine k_aload C X d_prog_67_method_1_code_81 rfl rfl rfl ?_
  refine k_ldcS (vm0 := s.vm) (A := ((a, own_ob Z "com/example/cotenant/cotenant/core/lease/LeaseRequest" [("id", "J", (.long (0))), ("arrival", "D", (.double 0)), ("arrivalKnown", "Z", (.int (0))), ("vms", "I", (.int (0))), ("memoryMb", "I", (.int (0))), ("duration", "D", (.double 0)), ("deadline", "D", (.double 0)), ("origin", "Lcom/example/cotenant/cotenant/core/lease/LeaseRequest$Origin;", .null), ("type", "Lcom/example/cotenant/cotenant/core/lease/LeaseRequest$Type;", .null)]) :: L)) (G := []) C X (List.append_nil _) own_W.start d_prog_67_method_1_code_83 rfl (hw _ (List.mem_of_getElem? (i := 27) rfl)) (own_wS hw) (N := 24) (by decide) (by decide) (by decide) (by decide) (fun T vmw1 o83 Gw1 C Ww1 X => ?_)
  replace X : own_S p l e rm_own_ct1 (s.setVm vmw1) m #[(.ref a), (.long id_), (.double ar), (.int kn), (.int vs_), (.int mb), (.double du), (.double 9218868437227405312), (.ref aL), (.ref tN)] below meth c Z T ((a, own_ob Z "com/example/cotenant/cotenant/core/lease/LeaseRequest" [("id", "J", (.long (0))), ("arrival", "D", (.double 0)), ("arrivalKnown", "Z", (.int (0))), ("vms", "I", (.int (0))), ("memoryMb", "I", (.int (0))), ("duration", "D", (.double 0)), ("deadline", "D", (.double 0)), ("origin", "Lcom/example/cotenant/cotenant/core/lease/LeaseRequest$Origin;", .null), ("type", "Lcom/example/cotenant/cotenant/core/lease/LeaseRequest$Type;", .null)]) :: (L ++ Gw1)) 2 28 := X
  refine k_static C X d_prog_67_method_1_code_85 rfl (hw _ (List.mem_of_getElem? (i := 35) rfl)) (hw _ (List.mem_of_getElem? (i := 36) rfl)) (hw _ (List.mem_of_getElem? (i := 37) rfl)) (hw _ (List.mem_of_getElem? (i := 38) rfl)) (by decide) (own_rnn l Z a0 hw aL o83 ((a, own_ob Z "com/example/cotenant/cotenant/core/lease/LeaseRequest" [("id", "J", (.long (0))), ("arrival", "D", (.double 0)), ("arrivalKnown", "Z", (.int (0))), ("vms", "I", (.int (0))), ("memoryMb", "I", (.int (0))), ("duration", "D", (.double 0)), ("deadline", "D", (.double 0)), ("origin", "Lcom/example/cotenant/cotenant/core/lease/LeaseRequest$Origin;", .null), ("type", "Lcom/example/cotenant/cotenant/core/lease/LeaseRequest$Type;", .null)]) :: (L ++ Gw1))) (W := 0) (argsL := [(.ref aL), (.ref o83)]) (rest := []) rfl rfl rfl own_pd1 rfl (Nat.le_of_eq rfl) (by decide) (by decide) (by decide) (by decide) (fun v T M hQ X => ?_)
  obtain ⟨rfl, rfl⟩ := hQ
  refine k_pop C X d_prog_67_method_1_code_88 rfl rfl ?_
  refine k_aload C X d_prog_67_method_1_code_89 rfl rfl rfl ?_
  refine k_ldcS (A := ((a, own_ob Z "com/example/cotenant/cotenant/core/lease/LeaseRequest" [("id", "J", (.long (0))), ("arrival", "D", (.double 0)), ("arrivalKnown", "Z", (.int (0))), ("vms", "I", (.int (0))), ("memoryMb", "I", (.int (0))), ("duration", "D", (.double 0)), ("deadline", "D", (.double 0)), ("origin", "Lcom/example/cotenant/cotenant/core/lease/LeaseRequest$Origin;", .null), ("type", "Lcom/example/cotenant/cotenant/core/lease/LeaseRequest$Type;", .null)]) :: L)) (G := Gw1) C X rfl Ww1 d_prog_67_method_1_code_91 rfl (hw _ (List.mem_of_getElem? (i := 39) rfl)) (own_wS hw) (N := 16) (by decide) (by decide) (by decide) (by decide) (fun T vmw2 o91 Gw2 C Ww2 X => ?_)
  replace X : own_S p l e rm_own_ct1 (s.setVm vmw2) m #[(.ref a), (.long id_), (.double ar), (.int kn), (.int vs_), (.int mb), (.double du), (.double 9218868437227405312), (.ref aL), (.ref tN)] below meth c Z T ((a, own_ob Z "com/example/cotenant/cotenant/core/lease/LeaseRequest" [("id", "J", (.long (0))), ("arrival", "D", (.double 0)), ("arrivalKnown", "Z", (.int (0))), ("vms", "I", (.int (0))), ("memoryMb", "I", (.int (0))), ("duration", "D", (.double 0)), ("deadline", "D", (.double 0)), ("origin", "Lcom/example/cotenant/cotenant/core/lease/LeaseRequest$Origin;", .null), ("type", "Lcom/example/cotenant/cotenant/core/lease/LeaseRequest$Type;", .null)]) :: (L ++ Gw2)) 4 48 := X
  refine k_static C X d_prog_67_method_1_code_93 rfl (hw _ (List.mem_of_getElem? (i := 35) rfl)) (hw _ (List.mem_of_getElem? (i := 36) rfl)) (hw _ (List.mem_of_getElem? (i := 37) rfl)) (hw _ (List.mem_of_getElem? (i := 38) rfl)) (by decide) (own_rnn l Z a0 hw tN o91 ((a, own_ob Z "com/example/cotenant/cotenant/core/lease/LeaseRequest" [("id", "J", (.long (0))), ("arrival", "D", (.double 0)), ("arrivalKnown", "Z", (.int (0))), ("vms", "I", (.int (0))), ("memoryMb", "I", (.int (0))), ("duration", "D", (.double 0)), ("deadline", "D", (.double 0)), ("origin", "Lcom/example/cotenant/cotenant/core/lease/LeaseRequest$Origin;", .null), ("type", "Lcom/example/cotenant/cotenant/core/lease/LeaseRequest$Type;", .null)]) :: (L ++ Gw2))) (W := 0) (argsL := [(.ref tN), (.ref o91)]) (rest := []) rfl rfl rfl own_pd1 rfl (Nat.le_of_eq rfl) (by decide) (by decide) (by decide) (by decide) (fun v T M hQ X => ?_)
  obtain ⟨rfl, rfl⟩ := hQ
  refine k_pop C X d_prog_67_method_1_code_96 rfl rfl ?_
  refine k_iload C X d_prog_67_method_1_code_97 rfl rfl ?_
  refine k_if_gt C X d_prog_67_method_1_code_99 rfl (tpc := 118) rfl (fun _ => ?_) (fun hc => (hc hmb : False).elim)
  refine k_aload C X d_prog_67_method_1_code_118 rfl rfl rfl ?_
  refine k_getstatic C X d_prog_67_method_1_code_120 rfl (hw _ (List.mem_of_getElem? (i := 40) rfl)) hSL (fun T X => ?_)
  refine k_acmp_ne C X d_prog_67_method_1_code_123 rfl (tpc := 164) rfl rfl rfl (fun hc => (hc rfl : False).elim) (fun _ => ?_)
  refine k_aload C X d_prog_67_method_1_code_126 rfl rfl rfl ?_
  refine k_getstatic C X d_prog_67_method_1_code_128 rfl (hw _ (List.mem_of_getElem? (i := 78) rfl)) hSN (fun T X => ?_)
  refine k_acmp_ne C X d_prog_67_method_1_code_131 rfl (tpc := 143) rfl rfl rfl (fun hc => (hc rfl : False).elim) (fun _ => ?_)
  refine k_dload C X d_prog_67_method_1_code_134 rfl rfl ?_
  refine k_ldc2d C X d_prog_67_method_1_code_136 rfl (hw _ (List.mem_of_getElem? (i := 77) rfl)) ?_
  refine k_dcmpl C X d_prog_67_method_1_code_139 rfl ?_
  refine k_ifdl_eq C X d_prog_67_method_1_code_140 rfl (tpc := 164) rfl (fun _ => ?_) (fun hc => (hc (by decide +kernel) : False).elim)
  refine k_aload C X d_prog_67_method_1_code_164 rfl rfl rfl ?_
  refine k_getstatic C X d_prog_67_method_1_code_166 rfl (hw _ (List.mem_of_getElem? (i := 42) rfl)) hSE (fun T X => ?_)
  refine k_acmp_ne C X d_prog_67_method_1_code_169 rfl (tpc := 208) rfl rfl rfl (fun _ => ?_) (fun hc => (hne (Value.ref.inj hc) : False).elim)
  refine k_aloadN C X d_prog_67_method_1_code_208 rfl rfl rfl ?_
  refine k_lloadN C X d_prog_67_method_1_code_209 rfl rfl ?_
  refine k_putfield C X d_prog_67_method_1_code_210 rfl (host := "") (Or.inl (hw _ (List.mem_of_getElem? (i := 50) rfl))) (hw _ (List.mem_of_getElem? (i := 9) rfl)) (Or.inr ⟨(hw _ (List.mem_of_getElem? (i := 51) rfl)), rfl, rfl⟩) (own_lay_LeaseRequest hw) own_lay_LeaseRequest_nd (ix := 0) (j := 0) rfl rfl rfl (fs' := [("id", "J", (.long id_)), ("arrival", "D", (.double 0)), ("arrivalKnown", "Z", (.int (0))), ("vms", "I", (.int (0))), ("memoryMb", "I", (.int (0))), ("duration", "D", (.double 0)), ("deadline", "D", (.double 0)), ("origin", "Lcom/example/cotenant/cotenant/core/lease/LeaseRequest$Origin;", .null), ("type", "Lcom/example/cotenant/cotenant/core/lease/LeaseRequest$Type;", .null)]) rfl (ty := .long) (by decide) rfl rfl (L' := (a, own_ob Z "com/example/cotenant/cotenant/core/lease/LeaseRequest" [("id", "J", (.long id_)), ("arrival", "D", (.double 0)), ("arrivalKnown", "Z", (.int (0))), ("vms", "I", (.int (0))), ("memoryMb", "I", (.int (0))), ("duration", "D", (.double 0)), ("deadline", "D", (.double 0)), ("origin", "Lcom/example/cotenant/cotenant/core/lease/LeaseRequest$Origin;", .null), ("type", "Lcom/example/cotenant/cotenant/core/lease/LeaseRequest$Type;", .null)]) :: (L ++ Gw2)) rfl (fun T X => ?_)
  refine k_aloadN C X d_prog_67_method_1_code_213 rfl rfl rfl ?_
  refine k_dloadN C X d_prog_67_method_1_code_214 rfl rfl ?_
  refine k_putfield C X d_prog_67_method_1_code_215 rfl (host := "") (Or.inl (hw _ (List.mem_of_getElem? (i := 52) rfl))) (hw _ (List.mem_of_getElem? (i := 9) rfl)) (Or.inr ⟨(hw _ (List.mem_of_getElem? (i := 53) rfl)), rfl, rfl⟩) (own_lay_LeaseRequest hw) own_lay_LeaseRequest_nd (ix := 0) (j := 1) rfl rfl rfl (fs' := [("id", "J", (.long id_)), ("arrival", "D", (.double ar)), ("arrivalKnown", "Z", (.int (0))), ("vms", "I", (.int (0))), ("memoryMb", "I", (.int (0))), ("duration", "D", (.double 0)), ("deadline", "D", (.double 0)), ("origin", "Lcom/example/cotenant/cotenant/core/lease/LeaseRequest$Origin;", .null), ("type", "Lcom/example/cotenant/cotenant/core/lease/LeaseRequest$Type;", .null)]) rfl (ty := .double) (by decide) rfl rfl (L' := (a, own_ob Z "com/example/cotenant/cotenant/core/lease/LeaseRequest" [("id", "J", (.long id_)), ("arrival", "D", (.double ar)), ("arrivalKnown", "Z", (.int (0))), ("vms", "I", (.int (0))), ("memoryMb", "I", (.int (0))), ("duration", "D", (.double 0)), ("deadline", "D", (.double 0)), ("origin", "Lcom/example/cotenant/cotenant/core/lease/LeaseRequest$Origin;", .null), ("type", "Lcom/example/cotenant/cotenant/core/lease/LeaseRequest$Type;", .null)]) :: (L ++ Gw2)) rfl (fun T X => ?_)
  refine k_aloadN C X d_prog_67_method_1_code_218 rfl rfl rfl ?_
  refine k_iload C X d_prog_67_method_1_code_219 rfl rfl ?_
  refine k_putfield C X d_prog_67_method_1_code_221 rfl (host := "") (Or.inl (hw _ (List.mem_of_getElem? (i := 54) rfl))) (hw _ (List.mem_of_getElem? (i := 9) rfl)) (Or.inr ⟨(hw _ (List.mem_of_getElem? (i := 55) rfl)), rfl, rfl⟩) (own_lay_LeaseRequest hw) own_lay_LeaseRequest_nd (ix := 0) (j := 2) rfl rfl rfl (fs' := [("id", "J", (.long id_)), ("arrival", "D", (.double ar)), ("arrivalKnown", "Z", (.int kn)), ("vms", "I", (.int (0))), ("memoryMb", "I", (.int (0))), ("duration", "D", (.double 0)), ("deadline", "D", (.double 0)), ("origin", "Lcom/example/cotenant/cotenant/core/lease/LeaseRequest$Origin;", .null), ("type", "Lcom/example/cotenant/cotenant/core/lease/LeaseRequest$Type;", .null)]) rfl (ty := .boolean) (by decide) (own_bool hkn) (by rcases hkn with rfl | rfl <;> rfl) (L' := (a, own_ob Z "com/example/cotenant/cotenant/core/lease/LeaseRequest" [("id", "J", (.long id_)), ("arrival", "D", (.double ar)), ("arrivalKnown", "Z", (.int kn)), ("vms", "I", (.int (0))), ("memoryMb", "I", (.int (0))), ("duration", "D", (.double 0)), ("deadline", "D", (.double 0)), ("origin", "Lcom/example/cotenant/cotenant/core/lease/LeaseRequest$Origin;", .null), ("type", "Lcom/example/cotenant/cotenant/core/lease/LeaseRequest$Type;", .null)]) :: (L ++ Gw2)) rfl (fun T X => ?_)
  refine k_aloadN C X d_prog_67_method_1_code_224 rfl rfl rfl ?_
  refine k_iload C X d_prog_67_method_1_code_225 rfl rfl ?_
  refine k_putfield C X d_prog_67_method_1_code_227 rfl (host := "") (Or.inl (hw _ (List.mem_of_getElem? (i := 56) rfl))) (hw _ (List.mem_of_getElem? (i := 9) rfl)) (Or.inr ⟨(hw _ (List.mem_of_getElem? (i := 57) rfl)), rfl, rfl⟩) (own_lay_LeaseRequest hw) own_lay_LeaseRequest_nd (ix := 0) (j := 3) rfl rfl rfl (fs' := [("id", "J", (.long id_)), ("arrival", "D", (.double ar)), ("arrivalKnown", "Z", (.int kn)), ("vms", "I", (.int vs_)), ("memoryMb", "I", (.int (0))), ("duration", "D", (.double 0)), ("deadline", "D", (.double 0)), ("origin", "Lcom/example/cotenant/cotenant/core/lease/LeaseRequest$Origin;", .null), ("type", "Lcom/example/cotenant/cotenant/core/lease/LeaseRequest$Type;", .null)]) rfl (ty := .int) (by decide) rfl rfl (L' := (a, own_ob Z "com/example/cotenant/cotenant/core/lease/LeaseRequest" [("id", "J", (.long id_)), ("arrival", "D", (.double ar)), ("arrivalKnown", "Z", (.int kn)), ("vms", "I", (.int vs_)), ("memoryMb", "I", (.int (0))), ("duration", "D", (.double 0)), ("deadline", "D", (.double 0)), ("origin", "Lcom/example/cotenant/cotenant/core/lease/LeaseRequest$Origin;", .null), ("type", "Lcom/example/cotenant/cotenant/core/lease/LeaseRequest$Type;", .null)]) :: (L ++ Gw2)) rfl (fun T X => ?_)
  refine k_aloadN C X d_prog_67_method_1_code_230 rfl rfl rfl ?_
  refine k_iload C X d_prog_67_method_1_code_231 rfl rfl ?_
  refine k_putfield C X d_prog_67_method_1_code_233 rfl (host := "") (Or.inl (hw _ (List.mem_of_getElem? (i := 58) rfl))) (hw _ (List.mem_of_getElem? (i := 9) rfl)) (Or.inr ⟨(hw _ (List.mem_of_getElem? (i := 59) rfl)), rfl, rfl⟩) (own_lay_LeaseRequest hw) own_lay_LeaseRequest_nd (ix := 0) (j := 4) rfl rfl rfl (fs' := [("id", "J", (.long id_)), ("arrival", "D", (.double ar)), ("arrivalKnown", "Z", (.int kn)), ("vms", "I", (.int vs_)), ("memoryMb", "I", (.int mb)), ("duration", "D", (.double 0)), ("deadline", "D", (.double 0)), ("origin", "Lcom/example/cotenant/cotenant/core/lease/LeaseRequest$Origin;", .null), ("type", "Lcom/example/cotenant/cotenant/core/lease/LeaseRequest$Type;", .null)]) rfl (ty := .int) (by decide) rfl rfl (L' := (a, own_ob Z "com/example/cotenant/cotenant/core/lease/LeaseRequest" [("id", "J", (.long id_)), ("arrival", "D", (.double ar)), ("arrivalKnown", "Z", (.int kn)), ("vms", "I", (.int vs_)), ("memoryMb", "I", (.int mb)), ("duration", "D", (.double 0)), ("deadline", "D", (.double 0)), ("origin", "Lcom/example/cotenant/cotenant/core/lease/LeaseRequest$Origin;", .null), ("type", "Lcom/example/cotenant/cotenant/core/lease/LeaseRequest$Type;", .null)]) :: (L ++ Gw2)) rfl (fun T X => ?_)
  refine k_aloadN C X d_prog_67_method_1_code_236 rfl rfl rfl ?_
  refine k_dload C X d_prog_67_method_1_code_237 rfl rfl ?_
  refine k_putfield C X d_prog_67_method_1_code_239 rfl (host := "") (Or.inl (hw _ (List.mem_of_getElem? (i := 60) rfl))) (hw _ (List.mem_of_getElem? (i := 9) rfl)) (Or.inr ⟨(hw _ (List.mem_of_getElem? (i := 61) rfl)), rfl, rfl⟩) (own_lay_LeaseRequest hw) own_lay_LeaseRequest_nd (ix := 0) (j := 5) rfl rfl rfl (fs' := [("id", "J", (.long id_)), ("arrival", "D", (.double ar)), ("arrivalKnown", "Z", (.int kn)), ("vms", "I", (.int vs_)), ("memoryMb", "I", (.int mb)), ("duration", "D", (.double du)), ("deadline", "D", (.double 0)), ("origin", "Lcom/example/cotenant/cotenant/core/lease/LeaseRequest$Origin;", .null), ("type", "Lcom/example/cotenant/cotenant/core/lease/LeaseRequest$Type;", .null)]) rfl (ty := .double) (by decide) rfl rfl (L' := (a, own_ob Z "com/example/cotenant/cotenant/core/lease/LeaseRequest" [("id", "J", (.long id_)), ("arrival", "D", (.double ar)), ("arrivalKnown", "Z", (.int kn)), ("vms", "I", (.int vs_)), ("memoryMb", "I", (.int mb)), ("duration", "D", (.double du)), ("deadline", "D", (.double 0)), ("origin", "Lcom/example/cotenant/cotenant/core/lease/LeaseRequest$Origin;", .null), ("type", "Lcom/example/cotenant/cotenant/core/lease/LeaseRequest$Type;", .null)]) :: (L ++ Gw2)) rfl (fun T X => ?_)
  refine k_aloadN C X d_prog_67_method_1_code_242 rfl rfl rfl ?_
  refine k_dload C X d_prog_67_method_1_code_243 rfl rfl ?_
  refine k_putfield C X d_prog_67_method_1_code_245 rfl (host := "") (Or.inl (hw _ (List.mem_of_getElem? (i := 62) rfl))) (hw _ (List.mem_of_getElem? (i := 9) rfl)) (Or.inr ⟨(hw _ (List.mem_of_getElem? (i := 63) rfl)), rfl, rfl⟩) (own_lay_LeaseRequest hw) own_lay_LeaseRequest_nd (ix := 0) (j := 6) rfl rfl rfl (fs' := [("id", "J", (.long id_)), ("arrival", "D", (.double ar)), ("arrivalKnown", "Z", (.int kn)), ("vms", "I", (.int vs_)), ("memoryMb", "I", (.int mb)), ("duration", "D", (.double du)), ("deadline", "D", (.double 9218868437227405312)), ("origin", "Lcom/example/cotenant/cotenant/core/lease/LeaseRequest$Origin;", .null), ("type", "Lcom/example/cotenant/cotenant/core/lease/LeaseRequest$Type;", .null)]) rfl (ty := .double) (by decide) rfl rfl (L' := (a, own_ob Z "com/example/cotenant/cotenant/core/lease/LeaseRequest" [("id", "J", (.long id_)), ("arrival", "D", (.double ar)), ("arrivalKnown", "Z", (.int kn)), ("vms", "I", (.int vs_)), ("memoryMb", "I", (.int mb)), ("duration", "D", (.double du)), ("deadline", "D", (.double 9218868437227405312)), ("origin", "Lcom/example/cotenant/cotenant/core/lease/LeaseRequest$Origin;", .null), ("type", "Lcom/example/cotenant/cotenant/core/lease/LeaseRequest$Type;", .null)]) :: (L ++ Gw2)) rfl (fun T X => ?_)
  refine k_aloadN C X d_prog_67_method_1_code_248 rfl rfl rfl ?_
  refine k_aload C X d_prog_67_method_1_code_249 rfl rfl rfl ?_
  refine k_putfield C X d_prog_67_method_1_code_251 rfl (host := "") (Or.inl (hw _ (List.mem_of_getElem? (i := 64) rfl))) (hw _ (List.mem_of_getElem? (i := 9) rfl)) (Or.inr ⟨(hw _ (List.mem_of_getElem? (i := 65) rfl)), rfl, rfl⟩) (own_lay_LeaseRequest hw) own_lay_LeaseRequest_nd (ix := 0) (j := 7) rfl rfl rfl (fs' := [("id", "J", (.long id_)), ("arrival", "D", (.double ar)), ("arrivalKnown", "Z", (.int kn)), ("vms", "I", (.int vs_)), ("memoryMb", "I", (.int mb)), ("duration", "D", (.double du)), ("deadline", "D", (.double 9218868437227405312)), ("origin", "Lcom/example/cotenant/cotenant/core/lease/LeaseRequest$Origin;", (.ref aL)), ("type", "Lcom/example/cotenant/cotenant/core/lease/LeaseRequest$Type;", .null)]) rfl (ty := (.object "com/example/cotenant/cotenant/core/lease/LeaseRequest$Origin")) (by decide) rfl rfl (L' := (a, own_ob Z "com/example/cotenant/cotenant/core/lease/LeaseRequest" [("id", "J", (.long id_)), ("arrival", "D", (.double ar)), ("arrivalKnown", "Z", (.int kn)), ("vms", "I", (.int vs_)), ("memoryMb", "I", (.int mb)), ("duration", "D", (.double du)), ("deadline", "D", (.double 9218868437227405312)), ("origin", "Lcom/example/cotenant/cotenant/core/lease/LeaseRequest$Origin;", (.ref aL)), ("type", "Lcom/example/cotenant/cotenant/core/lease/LeaseRequest$Type;", .null)]) :: (L ++ Gw2)) rfl (fun T X => ?_)
  refine k_aloadN C X d_prog_67_method_1_code_254 rfl rfl rfl ?_
  refine k_aload C X d_prog_67_method_1_code_255 rfl rfl rfl ?_
  refine k_putfield C X d_prog_67_method_1_code_257 rfl (host := "") (Or.inl (hw _ (List.mem_of_getElem? (i := 66) rfl))) (hw _ (List.mem_of_getElem? (i := 9) rfl)) (Or.inr ⟨(hw _ (List.mem_of_getElem? (i := 67) rfl)), rfl, rfl⟩) (own_lay_LeaseRequest hw) own_lay_LeaseRequest_nd (ix := 0) (j := 8) rfl rfl rfl (fs' := [("id", "J", (.long id_)), ("arrival", "D", (.double ar)), ("arrivalKnown", "Z", (.int kn)), ("vms", "I", (.int vs_)), ("memoryMb", "I", (.int mb)), ("duration", "D", (.double du)), ("deadline", "D", (.double 9218868437227405312)), ("origin", "Lcom/example/cotenant/cotenant/core/lease/LeaseRequest$Origin;", (.ref aL)), ("type", "Lcom/example/cotenant/cotenant/core/lease/LeaseRequest$Type;", (.ref tN))]) rfl (ty := (.object "com/example/cotenant/cotenant/core/lease/LeaseRequest$Type")) (by decide) rfl rfl (L' := (a, own_ob Z "com/example/cotenant/cotenant/core/lease/LeaseRequest" [("id", "J", (.long id_)), ("arrival", "D", (.double ar)), ("arrivalKnown", "Z", (.int kn)), ("vms", "I", (.int vs_)), ("memoryMb", "I", (.int mb)), ("duration", "D", (.double du)), ("deadline", "D", (.double 9218868437227405312)), ("origin", "Lcom/example/cotenant/cotenant/core/lease/LeaseRequest$Origin;", (.ref aL)), ("type", "Lcom/example/cotenant/cotenant/core/lease/LeaseRequest$Type;", (.ref tN))]) :: (L ++ Gw2)) rfl (fun T X => ?_)
  exact k_returnW (M := ((a, own_ob Z "com/example/cotenant/cotenant/core/lease/LeaseRequest" [("id", "J", (.long id_)), ("arrival", "D", (.double ar)), ("arrivalKnown", "Z", (.int kn)), ("vms", "I", (.int vs_)), ("memoryMb", "I", (.int mb)), ("duration", "D", (.double du)), ("deadline", "D", (.double 9218868437227405312)), ("origin", "Lcom/example/cotenant/cotenant/core/lease/LeaseRequest$Origin;", (.ref aL)), ("type", "Lcom/example/cotenant/cotenant/core/lease/LeaseRequest$Type;", (.ref tN))]) :: L)) (G := Gw2) C X rfl Ww2 d_prog_67_method_1_code_260 ⟨rfl, rfl⟩ (by decide) (by decide)
theorem d_prog_67_method_1_code_172 : decode prog_67_method_1_code 172 = .ok (.aload 13, 2) := by decide +kernel
theorem d_prog_67_method_1_code_174 : decode prog_67_method_1_code 174 = .ok (.invokevirtual 70, 3) := by decide +kernel
theorem own_pd2 : parseMethodDescriptor "()Z" = some ⟨[], some .boolean⟩ := by decide +kernel
theorem d_prog_67_method_1_code_177 : decode prog_67_method_1_code 177 = .ok (.ifCond .eq 31, 3) := by decide +kernel
def rm_own_ct2 : Room := { frames := 2, cells := 4, slots := 48, locals := 24 }
set_option maxRecDepth 65536 in
set_option maxHeartbeats 40000000 in
theorem own_ct2 (l : Launch) (Z : State) (a0 : Array Value) (hw : ∀ d ∈ tables_1, d.before a0 Z = true) (a aL aE tN tp : Addr) (id_ : Int64) (ar du dl : UInt64) (kn vs_ mb : Int32) (hSL : Sta Z Z.heap "com/example/cotenant/cotenant/core/lease/LeaseRequest$Origin" "LOCAL" "Lcom/example/cotenant/cotenant/core/lease/LeaseRequest$Origin;" (.ref aL)) (hSE : Sta Z Z.heap "com/example/cotenant/cotenant/core/lease/LeaseRequest$Origin" "EXTERNAL" "Lcom/example/cotenant/cotenant/core/lease/LeaseRequest$Origin;" (.ref aE)) (hSN : Sta Z Z.heap "com/example/cotenant/cotenant/core/lease/LeaseRequest$Type" "NON_PREEMPTABLE" "Lcom/example/cotenant/cotenant/core/lease/LeaseRequest$Type;" (.ref tN)) (hne : aL ≠ aE) (hkn : kn = 0 ∨ kn = 1) (hmb : 0 < mb) (nA : Jvm.Free.Fl.NoNaN64 ar) (nD : Jvm.Free.Fl.NoNaN64 du) (hA : ¬ (FP.dcmp (ar &&& 0x7fffffffffffffff) 4845873199050653696 = some .gt ∨ FP.dcmp (ar &&& 0x7fffffffffffffff) 4845873199050653696 = none)) (hD : ¬ (FP.dcmp (du &&& 0x7fffffffffffffff) 4845873199050653696 = some .gt ∨ FP.dcmp (du &&& 0x7fffffffffffffff) 4845873199050653696 = none)) (hB : Exa Z Z.heap tp "com/example/cotenant/cotenant/core/lease/LeaseRequest$Type" ∧ Fld Z Z.heap tp "com/example/cotenant/cotenant/core/lease/LeaseRequest$Type" "bindsDeadline" "Z" (.int 0)) (L : List (Addr × (Cell → Prop))) :
    own_ConW l Z (⟨"com/example/cotenant/cotenant/core/lease/LeaseRequest", "<init>", "(JDZIIDDLcom/example/cotenant/cotenant/core/lease/LeaseRequest$Origin;Lcom/example/cotenant/cotenant/core/lease/LeaseRequest$Type;)V"⟩ : MethodName) prog_67_method_1_code 14 none rm_own_ct2 #[(.ref a), (.long id_), (.double ar), (.int kn), (.int vs_), (.int mb), (.double du), (.double 9218868437227405312), (.ref aE), (.ref tp)] ((a, own_ob Z "com/example/cotenant/cotenant/core/lease/LeaseRequest" [("id", "J", (.long (0))), ("arrival", "D", (.double 0)), ("arrivalKnown", "Z", (.int (0))), ("vms", "I", (.int (0))), ("memoryMb", "I", (.int (0))), ("duration", "D", (.double 0)), ("deadline", "D", (.double 0)), ("origin", "Lcom/example/cotenant/cotenant/core/lease/LeaseRequest$Origin;", .null), ("type", "Lcom/example/cotenant/cotenant/core/lease/LeaseRequest$Type;", .null)]) :: L) (fun _ => True) (fun v M G => v = none ∧ M = (a, own_ob Z "com/example/cotenant/cotenant/core/lease/LeaseRequest" [("id", "J", (.long id_)), ("arrival", "D", (.double ar)), ("arrivalKnown", "Z", (.int kn)), ("vms", "I", (.int vs_)), ("memoryMb", "I", (.int mb)), ("duration", "D", (.double du)), ("deadline", "D", (.double 9218868437227405312)), ("origin", "Lcom/example/cotenant/cotenant/core/lease/LeaseRequest$Origin;", (.ref aE)), ("type", "Lcom/example/cotenant/cotenant/core/lease/LeaseRequest$Type;", (.ref tp))]) :: L) := by
  refine own_conW (ls := #[.val (.ref a), .val (.long id_), .second, .val (.double ar), .second, .val (.int kn), .val (.int vs_), .val (.int mb), .val (.double du), .second, .val (.double 9218868437227405312), .second, .val (.ref aE), .val (.ref tp)]) (plainFor_of_name own_pn3) (fun m => own_ent m rfl) ?_
  intro p e s m below meth c T C X hJ
  refine k_aloadN C X d_prog_67_method_1_code_0 rfl rfl rfl ?_
  refine k_init C X d_prog_67_method_1_code_1 rfl rfl (hw _ (List.mem_of_getElem? (i := 14) rfl)) (hw _ (List.mem_of_getElem? (i := 15) rfl)) (hw _ (List.mem_of_getElem? (i := 17) rfl)) (hw _ (List.mem_of_getElem? (i := 18) rfl)) (by decide) (own_rec l Z a0 hw a ((a, own_ob Z "com/example/cotenant/cotenant/core/lease/LeaseRequest" [("id", "J", (.long (0))), ("arrival", "D", (.double 0)), ("arrivalKnown", "Z", (.int (0))), ("vms", "I", (.int (0))), ("memoryMb", "I", (.int (0))), ("duration", "D", (.double 0)), ("deadline", "D", (.double 0)), ("origin", "Lcom/example/cotenant/cotenant/core/lease/LeaseRequest$Origin;", .null), ("type", "Lcom/example/cotenant/cotenant/core/lease/LeaseRequest$Type;", .null)]) :: L)) (W := 0) (argsL := []) (rest := []) rfl rfl rfl own_pd0 rfl (Nat.le_of_eq rfl) (by decide) (by decide) (by decide) (by decide) (fun v T M hQ X => ?_)
  obtain ⟨rfl, rfl⟩ := hQ
  refine k_dloadN C X d_prog_67_method_1_code_4 rfl rfl ?_
  refine k_abs C X d_prog_67_method_1_code_5 rfl (hw _ (List.mem_of_getElem? (i := 22) rfl)) (hw _ (List.mem_of_getElem? (i := 23) rfl)) (hw _ (List.mem_of_getElem? (i := 24) rfl)) (hw _ (List.mem_of_getElem? (i := 25) rfl)) (nA) rfl (W := 0) (Nat.le_of_eq rfl) (by decide) (by decide) (fun T X => ?_)
  refine k_ldc2d C X d_prog_67_method_1_code_8 rfl (hw _ (List.mem_of_getElem? (i := 26) rfl)) ?_
  refine k_dcmpg C X d_prog_67_method_1_code_11 rfl ?_
  refine k_ifdg_gt C X d_prog_67_method_1_code_12 rfl (tpc := 27) rfl (fun hc => (hA hc : False).elim) (fun _ => ?_)
  refine k_dload C X d_prog_67_method_1_code_15 rfl rfl ?_
  refine k_abs C X d_prog_67_method_1_code_17 rfl (hw _ (List.mem_of_getElem? (i := 22) rfl)) (hw _ (List.mem_of_getElem? (i := 23) rfl)) (hw _ (List.mem_of_getElem? (i := 24) rfl)) (hw _ (List.mem_of_getElem? (i := 25) rfl)) (nD) rfl (W := 0) (Nat.le_of_eq rfl) (by decide) (by decide) (fun T X => ?_)
  refine k_ldc2d C X d_prog_67_method_1_code_20 rfl (hw _ (List.mem_of_getElem? (i := 26) rfl)) ?_
  refine k_dcmpg C X d_prog_67_method_1_code_23 rfl ?_
  refine k_ifdg_le C X d_prog_67_method_1_code_24 rfl (tpc := 44) rfl (fun _ => ?_) (fun hc => (hD hc : False).elim)
  refine k_dload C X d_prog_67_method_1_code_44 rfl rfl ?_
  refine k_abs C X d_prog_67_method_1_code_46 rfl (hw _ (List.mem_of_getElem? (i := 22) rfl)) (hw _ (List.mem_of_getElem? (i := 23) rfl)) (hw _ (List.mem_of_getElem? (i := 24) rfl)) (hw _ (List.mem_of_getElem? (i := 25) rfl)) (by unfold Jvm.Free.Fl.NoNaN64; decide +kernel) rfl (W := 0) (Nat.le_of_eq rfl) (by decide) (by decide) (fun T X => ?_)
  refine k_ldc2d C X d_prog_67_method_1_code_49 rfl (hw _ (List.mem_of_getElem? (i := 26) rfl)) ?_
  refine k_dcmpg C X d_prog_67_method_1_code_52 rfl ?_
  refine k_ifdg_le C X d_prog_67_method_1_code_53 rfl (tpc := 81) rfl (fun hc => (hc (Or.inl (by decide +kernel)) : False).elim) (fun _ => ?_)
  refine k_dload C X d_prog_67_method_1_code_56 rfl rfl ?_
  refine k_ldc2d C X d_prog_67_method_1_code_58 rfl (hw _ (List.mem_of_getElem? (i := 77) rfl)) ?_
  refine k_dcmpl C X d_prog_67_method_1_code_61 rfl ?_
  refine k_ifdl_eq C X d_prog_67_method_1_code_62 rfl (tpc := 81) rfl (fun _ => ?_) (fun hc => (hc (by decide +kernel) : False).elim)
  refine k_aload C X d_prog_67_method_1_code_81 rfl rfl rfl ?_
  refine k_ldcS (vm0 := s.vm) (A := ((a, own_ob Z "com/example/cotenant/cotenant/core/lease/LeaseRequest" [("id", "J", (.long (0))), ("arrival", "D", (.double 0)), ("arrivalKnown", "Z", (.int (0))), ("vms", "I", (.int (0))), ("memoryMb", "I", (.int (0))), ("duration", "D", (.double 0)), ("deadline", "D", (.double 0)), ("origin", "Lcom/example/cotenant/cotenant/core/lease/LeaseRequest$Origin;", .null), ("type", "Lcom/example/cotenant/cotenant/core/lease/LeaseRequest$Type;", .null)]) :: L)) (G := []) C X (List.append_nil _) own_W.start d_prog_67_method_1_code_83 rfl (hw _ (List.mem_of_getElem? (i := 27) rfl)) (own_wS hw) (N := 24) (by decide) (by decide) (by decide) (by decide) (fun T vmw1 o83 Gw1 C Ww1 X => ?_)
  replace X : own_S p l e rm_own_ct2 (s.setVm vmw1) m #[(.ref a), (.long id_), (.double ar), (.int kn), (.int vs_), (.int mb), (.double du), (.double 9218868437227405312), (.ref aE), (.ref tp)] below meth c Z T ((a, own_ob Z "com/example/cotenant/cotenant/core/lease/LeaseRequest" [("id", "J", (.long (0))), ("arrival", "D", (.double 0)), ("arrivalKnown", "Z", (.int (0))), ("vms", "I", (.int (0))), ("memoryMb", "I", (.int (0))), ("duration", "D", (.double 0)), ("deadline", "D", (.double 0)), ("origin", "Lcom/example/cotenant/cotenant/core/lease/LeaseRequest$Origin;", .null), ("type", "Lcom/example/cotenant/cotenant/core/lease/LeaseRequest$Type;", .null)]) :: (L ++ Gw1)) 2 28 := X
  refine k_static C X d_prog_67_method_1_code_85 rfl (hw _ (List.mem_of_getElem? (i := 35) rfl)) (hw _ (List.mem_of_getElem? (i := 36) rfl)) (hw _ (List.mem_of_getElem? (i := 37) rfl)) (hw _ (List.mem_of_getElem? (i := 38) rfl)) (by decide) (own_rnn l Z a0 hw aE o83 ((a, own_ob Z "com/example/cotenant/cotenant/core/lease/LeaseRequest" [("id", "J", (.long (0))), ("arrival", "D", (.double 0)), ("arrivalKnown", "Z", (.int (0))), ("vms", "I", (.int (0))), ("memoryMb", "I", (.int (0))), ("duration", "D", (.double 0)), ("deadline", "D", (.double 0)), ("origin", "Lcom/example/cotenant/cotenant/core/lease/LeaseRequest$Origin;", .null), ("type", "Lcom/example/cotenant/cotenant/core/lease/LeaseRequest$Type;", .null)]) :: (L ++ Gw1))) (W := 0) (argsL := [(.ref aE), (.ref o83)]) (rest := []) rfl rfl rfl own_pd1 rfl (Nat.le_of_eq rfl) (by decide) (by decide) (by decide) (by decide) (fun v T M hQ X => ?_)
  obtain ⟨rfl, rfl⟩ := hQ
  refine k_pop C X d_prog_67_method_1_code_88 rfl rfl ?_
  refine k_aload C X d_prog_67_method_1_code_89 rfl rfl rfl ?_
  refine k_ldcS (A := ((a, own_ob Z "com/example/cotenant/cotenant/core/lease/LeaseRequest" [("id", "J", (.long (0))), ("arrival", "D", (.double 0)), ("arrivalKnown", "Z", (.int (0))), ("vms", "I", (.int (0))), ("memoryMb", "I", (.int (0))), ("duration", "D", (.double 0)), ("deadline", "D", (.double 0)), ("origin", "Lcom/example/cotenant/cotenant/core/lease/LeaseRequest$Origin;", .null), ("type", "Lcom/example/cotenant/cotenant/core/lease/LeaseRequest$Type;", .null)]) :: L)) (G := Gw1) C X rfl Ww1 d_prog_67_method_1_code_91 rfl (hw _ (List.mem_of_getElem? (i := 39) rfl)) (own_wS hw) (N := 16) (by decide) (by decide) (by decide) (by decide) (fun T vmw2 o91 Gw2 C Ww2 X => ?_)
  replace X : own_S p l e rm_own_ct2 (s.setVm vmw2) m #[(.ref a), (.long id_), (.double ar), (.int kn), (.int vs_), (.int mb), (.double du), (.double 9218868437227405312), (.ref aE), (.ref tp)] below meth c Z T ((a, own_ob Z "com/example/cotenant/cotenant/core/lease/LeaseRequest" [("id", "J", (.long (0))), ("arrival", "D", (.double 0)), ("arrivalKnown", "Z", (.int (0))), ("vms", "I", (.int (0))), ("memoryMb", "I", (.int (0))), ("duration", "D", (.double 0)), ("deadline", "D", (.double 0)), ("origin", "Lcom/example/cotenant/cotenant/core/lease/LeaseRequest$Origin;", .null), ("type", "Lcom/example/cotenant/cotenant/core/lease/LeaseRequest$Type;", .null)]) :: (L ++ Gw2)) 4 48 := X
  refine k_static C X d_prog_67_method_1_code_93 rfl (hw _ (List.mem_of_getElem? (i := 35) rfl)) (hw _ (List.mem_of_getElem? (i := 36) rfl)) (hw _ (List.mem_of_getElem? (i := 37) rfl)) (hw _ (List.mem_of_getElem? (i := 38) rfl)) (by decide) (own_rnn l Z a0 hw tp o91 ((a, own_ob Z "com/example/cotenant/cotenant/core/lease/LeaseRequest" [("id", "J", (.long (0))), ("arrival", "D", (.double 0)), ("arrivalKnown", "Z", (.int (0))), ("vms", "I", (.int (0))), ("memoryMb", "I", (.int (0))), ("duration", "D", (.double 0)), ("deadline", "D", (.double 0)), ("origin", "Lcom/example/cotenant/cotenant/core/lease/LeaseRequest$Origin;", .null), ("type", "Lcom/example/cotenant/cotenant/core/lease/LeaseRequest$Type;", .null)]) :: (L ++ Gw2))) (W := 0) (argsL := [(.ref tp), (.ref o91)]) (rest := []) rfl rfl rfl own_pd1 rfl (Nat.le_of_eq rfl) (by decide) (by decide) (by decide) (by decide) (fun v T M hQ X => ?_)
  obtain ⟨rfl, rfl⟩ := hQ
  refine k_pop C X d_prog_67_method_1_code_96 rfl rfl ?_
  refine k_iload C X d_prog_67_method_1_code_97 rfl rfl ?_
  refine k_if_gt C X d_prog_67_method_1_code_99 rfl (tpc := 118) rfl (fun _ => ?_) (fun hc => (hc hmb : False).elim)
  refine k_aload C X d_prog_67_method_1_code_118 rfl rfl rfl ?_
  refine k_getstatic C X d_prog_67_method_1_code_120 rfl (hw _ (List.mem_of_getElem? (i := 40) rfl)) hSL (fun T X => ?_)
  refine k_acmp_ne C X d_prog_67_method_1_code_123 rfl (tpc := 164) rfl rfl rfl (fun _ => ?_) (fun hc => (hne (Value.ref.inj hc.symm) : False).elim)
  refine k_aload C X d_prog_67_method_1_code_164 rfl rfl rfl ?_
  refine k_getstatic C X d_prog_67_method_1_code_166 rfl (hw _ (List.mem_of_getElem? (i := 42) rfl)) hSE (fun T X => ?_)
  refine k_acmp_ne C X d_prog_67_method_1_code_169 rfl (tpc := 208) rfl rfl rfl (fun hc => (hc rfl : False).elim) (fun _ => ?_)
  refine k_aload C X d_prog_67_method_1_code_172 rfl rfl rfl ?_
  refine k_virtual C X d_prog_67_method_1_code_174 rfl (hw _ (List.mem_of_getElem? (i := 43) rfl)) (hw _ (List.mem_of_getElem? (i := 44) rfl)) (hw _ (List.mem_of_getElem? (i := 6) rfl)) (hw _ (List.mem_of_getElem? (i := 47) rfl)) (hw _ (List.mem_of_getElem? (i := 46) rfl)) (hw _ (List.mem_of_getElem? (i := 45) rfl)) (by decide) (own_nf C.2.2.2.1 (hw _ (List.mem_of_getElem? (i := 46) rfl))) (own_eO hB.1) (own_binds l Z a0 hw tp (0) (Or.inl rfl) hB.2 ((a, own_ob Z "com/example/cotenant/cotenant/core/lease/LeaseRequest" [("id", "J", (.long (0))), ("arrival", "D", (.double 0)), ("arrivalKnown", "Z", (.int (0))), ("vms", "I", (.int (0))), ("memoryMb", "I", (.int (0))), ("duration", "D", (.double 0)), ("deadline", "D", (.double 0)), ("origin", "Lcom/example/cotenant/cotenant/core/lease/LeaseRequest$Origin;", .null), ("type", "Lcom/example/cotenant/cotenant/core/lease/LeaseRequest$Type;", .null)]) :: (L ++ Gw2))) (W := 0) (argsL := []) (rest := []) rfl rfl rfl own_pd2 rfl (Nat.le_of_eq rfl) (by decide) (by decide) (by decide) (by decide) (fun v T M hQ X => ?_)
  obtain ⟨rfl, rfl⟩ := hQ
  refine k_if_eq C X d_prog_67_method_1_code_177 rfl (tpc := 208) rfl (fun _ => ?_) (fun hc => (absurd hc (by decide) : False).elim)
  refine k_aloadN C X d_prog_67_method_1_code_208 rfl rfl rfl ?_
  refine k_lloadN C X d_prog_67_method_1_code_209 rfl rfl ?_
  refine k_putfield C X d_prog_67_method_1_code_210 rfl (host := "") (Or.inl (hw _ (List.mem_of_getElem? (i := 50) rfl))) (hw _ (List.mem_of_getElem? (i := 9) rfl)) (Or.inr ⟨(hw _ (List.mem_of_getElem? (i := 51) rfl)), rfl, rfl⟩) (own_lay_LeaseRequest hw) own_lay_LeaseRequest_nd (ix := 0) (j := 0) rfl rfl rfl (fs' := [("id", "J", (.long id_)), ("arrival", "D", (.double 0)), ("arrivalKnown", "Z", (.int (0))), ("vms", "I", (.int (0))), ("memoryMb", "I", (.int (0))), ("duration", "D", (.double 0)), ("deadline", "D", (.double 0)), ("origin", "Lcom/example/cotenant/cotenant/core/lease/LeaseRequest$Origin;", .null), ("type", "Lcom/example/cotenant/cotenant/core/lease/LeaseRequest$Type;", .null)]) rfl (ty := .long) (by decide) rfl rfl (L' := (a, own_ob Z "com/example/cotenant/cotenant/core/lease/LeaseRequest" [("id", "J", (.long id_)), ("arrival", "D", (.double 0)), ("arrivalKnown", "Z", (.int (0))), ("vms", "I", (.int (0))), ("memoryMb", "I", (.int (0))), ("duration", "D", (.double 0)), ("deadline", "D", (.double 0)), ("origin", "Lcom/example/cotenant/cotenant/core/lease/LeaseRequest$Origin;", .null), ("type", "Lcom/example/cotenant/cotenant/core/lease/LeaseRequest$Type;", .null)]) :: (L ++ Gw2)) rfl (fun T X => ?_)
  refine k_aloadN C X d_prog_67_method_1_code_213 rfl rfl rfl ?_
  refine k_dloadN C X d_prog_67_method_1_code_214 rfl rfl ?_
  refine k_putfield C X d_prog_67_method_1_code_215 rfl (host := "") (Or.inl (hw _ (List.mem_of_getElem? (i := 52) rfl))) (hw _ (List.mem_of_getElem? (i := 9) rfl)) (Or.inr ⟨(hw _ (List.mem_of_getElem? (i := 53) rfl)), rfl, rfl⟩) (own_lay_LeaseRequest hw) own_lay_LeaseRequest_nd (ix := 0) (j := 1) rfl rfl rfl (fs' := [("id", "J", (.long id_)), ("arrival", "D", (.double ar)), ("arrivalKnown", "Z", (.int (0))), ("vms", "I", (.int (0))), ("memoryMb", "I", (.int (0))), ("duration", "D", (.double 0)), ("deadline", "D", (.double 0)), ("origin", "Lcom/example/cotenant/cotenant/core/lease/LeaseRequest$Origin;", .null), ("type", "Lcom/example/cotenant/cotenant/core/lease/LeaseRequest$Type;", .null)]) rfl (ty := .double) (by decide) rfl rfl (L' := (a, own_ob Z "com/example/cotenant/cotenant/core/lease/LeaseRequest" [("id", "J", (.long id_)), ("arrival", "D", (.double ar)), ("arrivalKnown", "Z", (.int (0))), ("vms", "I", (.int (0))), ("memoryMb", "I", (.int (0))), ("duration", "D", (.double 0)), ("deadline", "D", (.double 0)), ("origin", "Lcom/example/cotenant/cotenant/core/lease/LeaseRequest$Origin;", .null), ("type", "Lcom/example/cotenant/cotenant/core/lease/LeaseRequest$Type;", .null)]) :: (L ++ Gw2)) rfl (fun T X => ?_)
  refine k_aloadN C X d_prog_67_method_1_code_218 rfl rfl rfl ?_
  refine k_iload C X d_prog_67_method_1_code_219 rfl rfl ?_
  refine k_putfield C X d_prog_67_method_1_code_221 rfl (host := "") (Or.inl (hw _ (List.mem_of_getElem? (i := 54) rfl))) (hw _ (List.mem_of_getElem? (i := 9) rfl)) (Or.inr ⟨(hw _ (List.mem_of_getElem? (i := 55) rfl)), rfl, rfl⟩) (own_lay_LeaseRequest hw) own_lay_LeaseRequest_nd (ix := 0) (j := 2) rfl rfl rfl (fs' := [("id", "J", (.long id_)), ("arrival", "D", (.double ar)), ("arrivalKnown", "Z", (.int kn)), ("vms", "I", (.int (0))), ("memoryMb", "I", (.int (0))), ("duration", "D", (.double 0)), ("deadline", "D", (.double 0)), ("origin", "Lcom/example/cotenant/cotenant/core/lease/LeaseRequest$Origin;", .null), ("type", "Lcom/example/cotenant/cotenant/core/lease/LeaseRequest$Type;", .null)]) rfl (ty := .boolean) (by decide) (own_bool hkn) (by rcases hkn with rfl | rfl <;> rfl) (L' := (a, own_ob Z "com/example/cotenant/cotenant/core/lease/LeaseRequest" [("id", "J", (.long id_)), ("arrival", "D", (.double ar)), ("arrivalKnown", "Z", (.int kn)), ("vms", "I", (.int (0))), ("memoryMb", "I", (.int (0))), ("duration", "D", (.double 0)), ("deadline", "D", (.double 0)), ("origin", "Lcom/example/cotenant/cotenant/core/lease/LeaseRequest$Origin;", .null), ("type", "Lcom/example/cotenant/cotenant/core/lease/LeaseRequest$Type;", .null)]) :: (L ++ Gw2)) rfl (fun T X => ?_)
  refine k_aloadN C X d_prog_67_method_1_code_224 rfl rfl rfl ?_
  refine k_iload C X d_prog_67_method_1_code_225 rfl rfl ?_
  refine k_putfield C X d_prog_67_method_1_code_227 rfl (host := "") (Or.inl (hw _ (List.mem_of_getElem? (i := 56) rfl))) (hw _ (List.mem_of_getElem? (i := 9) rfl)) (Or.inr ⟨(hw _ (List.mem_of_getElem? (i := 57) rfl)), rfl, rfl⟩) (own_lay_LeaseRequest hw) own_lay_LeaseRequest_nd (ix := 0) (j := 3) rfl rfl rfl (fs' := [("id", "J", (.long id_)), ("arrival", "D", (.double ar)), ("arrivalKnown", "Z", (.int kn)), ("vms", "I", (.int vs_)), ("memoryMb", "I", (.int (0))), ("duration", "D", (.double 0)), ("deadline", "D", (.double 0)), ("origin", "Lcom/example/cotenant/cotenant/core/lease/LeaseRequest$Origin;", .null), ("type", "Lcom/example/cotenant/cotenant/core/lease/LeaseRequest$Type;", .null)]) rfl (ty := .int) (by decide) rfl rfl (L' := (a, own_ob Z "com/example/cotenant/cotenant/core/lease/LeaseRequest" [("id", "J", (.long id_)), ("arrival", "D", (.double ar)), ("arrivalKnown", "Z", (.int kn)), ("vms", "I", (.int vs_)), ("memoryMb", "I", (.int (0))), ("duration", "D", (.double 0)), ("deadline", "D", (.double 0)), ("origin", "Lcom/example/cotenant/cotenant/core/lease/LeaseRequest$Origin;", .null), ("type", "Lcom/example/cotenant/cotenant/core/lease/LeaseRequest$Type;", .null)]) :: (L ++ Gw2)) rfl (fun T X => ?_)
  refine k_aloadN C X d_prog_67_method_1_code_230 rfl rfl rfl ?_
  refine k_iload C X d_prog_67_method_1_code_231 rfl rfl ?_
  refine k_putfield C X d_prog_67_method_1_code_233 rfl (host := "") (Or.inl (hw _ (List.mem_of_getElem? (i := 58) rfl))) (hw _ (List.mem_of_getElem? (i := 9) rfl)) (Or.inr ⟨(hw _ (List.mem_of_getElem? (i := 59) rfl)), rfl, rfl⟩) (own_lay_LeaseRequest hw) own_lay_LeaseRequest_nd (ix := 0) (j := 4) rfl rfl rfl (fs' := [("id", "J", (.long id_)), ("arrival", "D", (.double ar)), ("arrivalKnown", "Z", (.int kn)), ("vms", "I", (.int vs_)), ("memoryMb", "I", (.int mb)), ("duration", "D", (.double 0)), ("deadline", "D", (.double 0)), ("origin", "Lcom/example/cotenant/cotenant/core/lease/LeaseRequest$Origin;", .null), ("type", "Lcom/example/cotenant/cotenant/core/lease/LeaseRequest$Type;", .null)]) rfl (ty := .int) (by decide) rfl rfl (L' := (a, own_ob Z "com/example/cotenant/cotenant/core/lease/LeaseRequest" [("id", "J", (.long id_)), ("arrival", "D", (.double ar)), ("arrivalKnown", "Z", (.int kn)), ("vms", "I", (.int vs_)), ("memoryMb", "I", (.int mb)), ("duration", "D", (.double 0)), ("deadline", "D", (.double 0)), ("origin", "Lcom/example/cotenant/cotenant/core/lease/LeaseRequest$Origin;", .null), ("type", "Lcom/example/cotenant/cotenant/core/lease/LeaseRequest$Type;", .null)]) :: (L ++ Gw2)) rfl (fun T X => ?_)
  refine k_aloadN C X d_prog_67_method_1_code_236 rfl rfl rfl ?_
  refine k_dload C X d_prog_67_method_1_code_237 rfl rfl ?_
  refine k_putfield C X d_prog_67_method_1_code_239 rfl (host := "") (Or.inl (hw _ (List.mem_of_getElem? (i := 60) rfl))) (hw _ (List.mem_of_getElem? (i := 9) rfl)) (Or.inr ⟨(hw _ (List.mem_of_getElem? (i := 61) rfl)), rfl, rfl⟩) (own_lay_LeaseRequest hw) own_lay_LeaseRequest_nd (ix := 0) (j := 5) rfl rfl rfl (fs' := [("id", "J", (.long id_)), ("arrival", "D", (.double ar)), ("arrivalKnown", "Z", (.int kn)), ("vms", "I", (.int vs_)), ("memoryMb", "I", (.int mb)), ("duration", "D", (.double du)), ("deadline", "D", (.double 0)), ("origin", "Lcom/example/cotenant/cotenant/core/lease/LeaseRequest$Origin;", .null), ("type", "Lcom/example/cotenant/cotenant/core/lease/LeaseRequest$Type;", .null)]) rfl (ty := .double) (by decide) rfl rfl (L' := (a, own_ob Z "com/example/cotenant/cotenant/core/lease/LeaseRequest" [("id", "J", (.long id_)), ("arrival", "D", (.double ar)), ("arrivalKnown", "Z", (.int kn)), ("vms", "I", (.int vs_)), ("memoryMb", "I", (.int mb)), ("duration", "D", (.double du)), ("deadline", "D", (.double 0)), ("origin", "Lcom/example/cotenant/cotenant/core/lease/LeaseRequest$Origin;", .null), ("type", "Lcom/example/cotenant/cotenant/core/lease/LeaseRequest$Type;", .null)]) :: (L ++ Gw2)) rfl (fun T X => ?_)
  refine k_aloadN C X d_prog_67_method_1_code_242 rfl rfl rfl ?_
  refine k_dload C X d_prog_67_method_1_code_243 rfl rfl ?_
  refine k_putfield C X d_prog_67_method_1_code_245 rfl (host := "") (Or.inl (hw _ (List.mem_of_getElem? (i := 62) rfl))) (hw _ (List.mem_of_getElem? (i := 9) rfl)) (Or.inr ⟨(hw _ (List.mem_of_getElem? (i := 63) rfl)), rfl, rfl⟩) (own_lay_LeaseRequest hw) own_lay_LeaseRequest_nd (ix := 0) (j := 6) rfl rfl rfl (fs' := [("id", "J", (.long id_)), ("arrival", "D", (.double ar)), ("arrivalKnown", "Z", (.int kn)), ("vms", "I", (.int vs_)), ("memoryMb", "I", (.int mb)), ("duration", "D", (.double du)), ("deadline", "D", (.double 9218868437227405312)), ("origin", "Lcom/example/cotenant/cotenant/core/lease/LeaseRequest$Origin;", .null), ("type", "Lcom/example/cotenant/cotenant/core/lease/LeaseRequest$Type;", .null)]) rfl (ty := .double) (by decide) rfl rfl (L' := (a, own_ob Z "com/example/cotenant/cotenant/core/lease/LeaseRequest" [("id", "J", (.long id_)), ("arrival", "D", (.double ar)), ("arrivalKnown", "Z", (.int kn)), ("vms", "I", (.int vs_)), ("memoryMb", "I", (.int mb)), ("duration", "D", (.double du)), ("deadline", "D", (.double 9218868437227405312)), ("origin", "Lcom/example/cotenant/cotenant/core/lease/LeaseRequest$Origin;", .null), ("type", "Lcom/example/cotenant/cotenant/core/lease/LeaseRequest$Type;", .null)]) :: (L ++ Gw2)) rfl (fun T X => ?_)
  refine k_aloadN C X d_prog_67_method_1_code_248 rfl rfl rfl ?_
  refine k_aload C X d_prog_67_method_1_code_249 rfl rfl rfl ?_
  refine k_putfield C X d_prog_67_method_1_code_251 rfl (host := "") (Or.inl (hw _ (List.mem_of_getElem? (i := 64) rfl))) (hw _ (List.mem_of_getElem? (i := 9) rfl)) (Or.inr ⟨(hw _ (List.mem_of_getElem? (i := 65) rfl)), rfl, rfl⟩) (own_lay_LeaseRequest hw) own_lay_LeaseRequest_nd (ix := 0) (j := 7) rfl rfl rfl (fs' := [("id", "J", (.long id_)), ("arrival", "D", (.double ar)), ("arrivalKnown", "Z", (.int kn)), ("vms", "I", (.int vs_)), ("memoryMb", "I", (.int mb)), ("duration", "D", (.double du)), ("deadline", "D", (.double 9218868437227405312)), ("origin", "Lcom/example/cotenant/cotenant/core/lease/LeaseRequest$Origin;", (.ref aE)), ("type", "Lcom/example/cotenant/cotenant/core/lease/LeaseRequest$Type;", .null)]) rfl (ty := (.object "com/example/cotenant/cotenant/core/lease/LeaseRequest$Origin")) (by decide) rfl rfl (L' := (a, own_ob Z "com/example/cotenant/cotenant/core/lease/LeaseRequest" [("id", "J", (.long id_)), ("arrival", "D", (.double ar)), ("arrivalKnown", "Z", (.int kn)), ("vms", "I", (.int vs_)), ("memoryMb", "I", (.int mb)), ("duration", "D", (.double du)), ("deadline", "D", (.double 9218868437227405312)), ("origin", "Lcom/example/cotenant/cotenant/core/lease/LeaseRequest$Origin;", (.ref aE)), ("type", "Lcom/example/cotenant/cotenant/core/lease/LeaseRequest$Type;", .null)]) :: (L ++ Gw2)) rfl (fun T X => ?_)
  refine k_aloadN C X d_prog_67_method_1_code_254 rfl rfl rfl ?_
  refine k_aload C X d_prog_67_method_1_code_255 rfl rfl rfl ?_
  refine k_putfield C X d_prog_67_method_1_code_257 rfl (host := "") (Or.inl (hw _ (List.mem_of_getElem? (i := 66) rfl))) (hw _ (List.mem_of_getElem? (i := 9) rfl)) (Or.inr ⟨(hw _ (List.mem_of_getElem? (i := 67) rfl)), rfl, rfl⟩) (own_lay_LeaseRequest hw) own_lay_LeaseRequest_nd (ix := 0) (j := 8) rfl rfl rfl (fs' := [("id", "J", (.long id_)), ("arrival", "D", (.double ar)), ("arrivalKnown", "Z", (.int kn)), ("vms", "I", (.int vs_)), ("memoryMb", "I", (.int mb)), ("duration", "D", (.double du)), ("deadline", "D", (.double 9218868437227405312)), ("origin", "Lcom/example/cotenant/cotenant/core/lease/LeaseRequest$Origin;", (.ref aE)), ("type", "Lcom/example/cotenant/cotenant/core/lease/LeaseRequest$Type;", (.ref tp))]) rfl (ty := (.object "com/example/cotenant/cotenant/core/lease/LeaseRequest$Type")) (by decide) rfl rfl (L' := (a, own_ob Z "com/example/cotenant/cotenant/core/lease/LeaseRequest" [("id", "J", (.long id_)), ("arrival", "D", (.double ar)), ("arrivalKnown", "Z", (.int kn)), ("vms", "I", (.int vs_)), ("memoryMb", "I", (.int mb)), ("duration", "D", (.double du)), ("deadline", "D", (.double 9218868437227405312)), ("origin", "Lcom/example/cotenant/cotenant/core/lease/LeaseRequest$Origin;", (.ref aE)), ("type", "Lcom/example/cotenant/cotenant/core/lease/LeaseRequest$Type;", (.ref tp))]) :: (L ++ Gw2)) rfl (fun T X => ?_)
  exact k_returnW (M := ((a, own_ob Z "com/example/cotenant/cotenant/core/lease/LeaseRequest" [("id", "J", (.long id_)), ("arrival", "D", (.double ar)), ("arrivalKnown", "Z", (.int kn)), ("vms", "I", (.int vs_)), ("memoryMb", "I", (.int mb)), ("duration", "D", (.double du)), ("deadline", "D", (.double 9218868437227405312)), ("origin", "Lcom/example/cotenant/cotenant/core/lease/LeaseRequest$Origin;", (.ref aE)), ("type", "Lcom/example/cotenant/cotenant/core/lease/LeaseRequest$Type;", (.ref tp))]) :: L)) (G := Gw2) C X rfl Ww2 d_prog_67_method_1_code_260 ⟨rfl, rfl⟩ (by decide) (by decide)
def rm_own_ct3 : Room := { frames := 2, cells := 4, slots := 48, locals := 24 }
set_option maxRecDepth 65536 in
set_option maxHeartbeats 40000000 in
theorem own_ct3 (l : Launch) (Z : State) (a0 : Array Value) (hw : ∀ d ∈ tables_1, d.before a0 Z = true) (a aL aE tN tp : Addr) (id_ : Int64) (ar du dl : UInt64) (kn vs_ mb : Int32) (hSL : Sta Z Z.heap "com/example/cotenant/cotenant/core/lease/LeaseRequest$Origin" "LOCAL" "Lcom/example/cotenant/cotenant/core/lease/LeaseRequest$Origin;" (.ref aL)) (hSE : Sta Z Z.heap "com/example/cotenant/cotenant/core/lease/LeaseRequest$Origin" "EXTERNAL" "Lcom/example/cotenant/cotenant/core/lease/LeaseRequest$Origin;" (.ref aE)) (hSN : Sta Z Z.heap "com/example/cotenant/cotenant/core/lease/LeaseRequest$Type" "NON_PREEMPTABLE" "Lcom/example/cotenant/cotenant/core/lease/LeaseRequest$Type;" (.ref tN)) (hne : aL ≠ aE) (hkn : kn = 0 ∨ kn = 1) (hmb : 0 < mb) (nA : Jvm.Free.Fl.NoNaN64 ar) (nD : Jvm.Free.Fl.NoNaN64 du) (hA : ¬ (FP.dcmp (ar &&& 0x7fffffffffffffff) 4845873199050653696 = some .gt ∨ FP.dcmp (ar &&& 0x7fffffffffffffff) 4845873199050653696 = none)) (hD : ¬ (FP.dcmp (du &&& 0x7fffffffffffffff) 4845873199050653696 = some .gt ∨ FP.dcmp (du &&& 0x7fffffffffffffff) 4845873199050653696 = none)) (nX : Jvm.Free.Fl.NoNaN64 dl) (hX : ¬ (FP.dcmp (dl &&& 0x7fffffffffffffff) 4845873199050653696 = some .gt ∨ FP.dcmp (dl &&& 0x7fffffffffffffff) 4845873199050653696 = none)) (hI : ¬ FP.dcmp dl 9218868437227405312 = some .eq) (hB : Exa Z Z.heap tp "com/example/cotenant/cotenant/core/lease/LeaseRequest$Type" ∧ Fld Z Z.heap tp "com/example/cotenant/cotenant/core/lease/LeaseRequest$Type" "bindsDeadline" "Z" (.int 0)) (L : List (Addr × (Cell → Prop))) :
    own_ConW l Z (⟨"com/example/cotenant/cotenant/core/lease/LeaseRequest", "<init>", "(JDZIIDDLcom/example/cotenant/cotenant/core/lease/LeaseRequest$Origin;Lcom/example/cotenant/cotenant/core/lease/LeaseRequest$Type;)V"⟩ : MethodName) prog_67_method_1_code 14 none rm_own_ct3 #[(.ref a), (.long id_), (.double ar), (.int kn), (.int vs_), (.int mb), (.double du), (.double dl), (.ref aE), (.ref tp)] ((a, own_ob Z "com/example/cotenant/cotenant/core/lease/LeaseRequest" [("id", "J", (.long (0))), ("arrival", "D", (.double 0)), ("arrivalKnown", "Z", (.int (0))), ("vms", "I", (.int (0))), ("memoryMb", "I", (.int (0))), ("duration", "D", (.double 0)), ("deadline", "D", (.double 0)), ("origin", "Lcom/example/cotenant/cotenant/core/lease/LeaseRequest$Origin;", .null), ("type", "Lcom/example/cotenant/cotenant/core/lease/LeaseRequest$Type;", .null)]) :: L) (fun _ => True) (fun v M G => v = none ∧ M = (a, own_ob Z "com/example/cotenant/cotenant/core/lease/LeaseRequest" [("id", "J", (.long id_)), ("arrival", "D", (.double ar)), ("arrivalKnown", "Z", (.int kn)), ("vms", "I", (.int vs_)), ("memoryMb", "I", (.int mb)), ("duration", "D", (.double du)), ("deadline", "D", (.double dl)), ("origin", "Lcom/example/cotenant/cotenant/core/lease/LeaseRequest$Origin;", (.ref aE)), ("type", "Lcom/example/cotenant/cotenant/core/lease/LeaseRequest$Type;", (.ref tp))]) :: L) := by
  refine own_conW (ls := #[.val (.ref a), .val (.long id_), .second, .val (.double ar), .second, .val (.int kn), .val (.int vs_), .val (.int mb), .val (.double du), .second, .val (.double dl), .second, .val (.ref aE), .val (.ref tp)]) (plainFor_of_name own_pn3) (fun m => own_ent m rfl) ?_
  intro p e s m below meth c T C X hJ
  refine k_aloadN C X d_prog_67_method_1_code_0 rfl rfl rfl ?_
  refine k_init C X d_prog_67_method_1_code_1 rfl rfl (hw _ (List.mem_of_getElem? (i := 14) rfl)) (hw _ (List.mem_of_getElem? (i := 15) rfl)) (hw _ (List.mem_of_getElem? (i := 17) rfl)) (hw _ (List.mem_of_getElem? (i := 18) rfl)) (by decide) (own_rec l Z a0 hw a ((a, own_ob Z "com/example/cotenant/cotenant/core/lease/LeaseRequest" [("id", "J", (.long (0))), ("arrival", "D", (.double 0)), ("arrivalKnown", "Z", (.int (0))), ("vms", "I", (.int (0))), ("memoryMb", "I", (.int (0))), ("duration", "D", (.double 0)), ("deadline", "D", (.double 0)), ("origin", "Lcom/example/cotenant/cotenant/core/lease/LeaseRequest$Origin;", .null), ("type", "Lcom/example/cotenant/cotenant/core/lease/LeaseRequest$Type;", .null)]) :: L)) (W := 0) (argsL := []) (rest := []) rfl rfl rfl own_pd0 rfl (Nat.le_of_eq rfl) (by decide) (by decide) (by decide) (by decide) (fun v T M hQ X => ?_)
  obtain ⟨rfl, rfl⟩ := hQ
  refine k_dloadN C X d_prog_67_method_1_code_4 rfl rfl ?_
  refine k_abs C X d_prog_67_method_1_code_5 rfl (hw _ (List.mem_of_getElem? (i := 22) rfl)) (hw _ (List.mem_of_getElem? (i := 23) rfl)) (hw _ (List.mem_of_getElem? (i := 24) rfl)) (hw _ (List.mem_of_getElem? (i := 25) rfl)) (nA) rfl (W := 0) (Nat.le_of_eq rfl) (by decide) (by decide) (fun T X => ?_)
  refine k_ldc2d C X d_prog_67_method_1_code_8 rfl (hw _ (List.mem_of_getElem? (i := 26) rfl)) ?_
  refine k_dcmpg C X d_prog_67_method_1_code_11 rfl ?_
  refine k_ifdg_gt C X d_prog_67_method_1_code_12 rfl (tpc := 27) rfl (fun hc => (hA hc : False).elim) (fun _ => ?_)
  refine k_dload C X d_prog_67_method_1_code_15 rfl rfl ?_
  refine k_abs C X d_prog_67_method_1_code_17 rfl (hw _ (List.mem_of_getElem? (i := 22) rfl)) (hw _ (List.mem_of_getElem? (i := 23) rfl)) (hw _ (List.mem_of_getElem? (i := 24) rfl)) (hw _ (List.mem_of_getElem? (i := 25) rfl)) (nD) rfl (W := 0) (Nat.le_of_eq rfl) (by decide) (by decide) (fun T X => ?_)
  refine k_ldc2d C X d_prog_67_method_1_code_20 rfl (hw _ (List.mem_of_getElem? (i := 26) rfl)) ?_
  refine k_dcmpg C X d_prog_67_method_1_code_23 rfl ?_
  refine k_ifdg_le C X d_prog_67_method_1_code_24 rfl (tpc := 44) rfl (fun _ => ?_) (fun hc => (hD hc : False).elim)
  refine k_dload C X d_prog_67_method_1_code_44 rfl rfl ?_
  refine k_abs C X d_prog_67_method_1_code_46 rfl (hw _ (List.mem_of_getElem? (i := 22) rfl)) (hw _ (List.mem_of_getElem? (i := 23) rfl)) (hw _ (List.mem_of_getElem? (i := 24) rfl)) (hw _ (List.mem_of_getElem? (i := 25) rfl)) (nX) rfl (W := 0) (Nat.le_of_eq rfl) (by decide) (by decide) (fun T X => ?_)
  refine k_ldc2d C X d_prog_67_method_1_code_49 rfl (hw _ (List.mem_of_getElem? (i := 26) rfl)) ?_
  refine k_dcmpg C X d_prog_67_method_1_code_52 rfl ?_
  refine k_ifdg_le C X d_prog_67_method_1_code_53 rfl (tpc := 81) rfl (fun _ => ?_) (fun hc => (hX hc : False).elim)
  refine k_aload C X d_prog_67_method_1_code_81 rfl rfl rfl ?_
  refine k_ldcS (vm0 := s.vm) (A := ((a, own_ob Z "com/example/cotenant/cotenant/core/lease/LeaseRequest" [("id", "J", (.long (0))), ("arrival", "D", (.double 0)), ("arrivalKnown", "Z", (.int (0))), ("vms", "I", (.int (0))), ("memoryMb", "I", (.int (0))), ("duration", "D", (.double 0)), ("deadline", "D", (.double 0)), ("origin", "Lcom/example/cotenant/cotenant/core/lease/LeaseRequest$Origin;", .null), ("type", "Lcom/example/cotenant/cotenant/core/lease/LeaseRequest$Type;", .null)]) :: L)) (G := []) C X (List.append_nil _) own_W.start d_prog_67_method_1_code_83 rfl (hw _ (List.mem_of_getElem? (i := 27) rfl)) (own_wS hw) (N := 24) (by decide) (by decide) (by decide) (by decide) (fun T vmw1 o83 Gw1 C Ww1 X => ?_)
  replace X : own_S p l e rm_own_ct3 (s.setVm vmw1) m #[(.ref a), (.long id_), (.double ar), (.int kn), (.int vs_), (.int mb), (.double du), (.double dl), (.ref aE), (.ref tp)] below meth c Z T ((a, own_ob Z "com/example/cotenant/cotenant/core/lease/LeaseRequest" [("id", "J", (.long (0))), ("arrival", "D", (.double 0)), ("arrivalKnown", "Z", (.int (0))), ("vms", "I", (.int (0))), ("memoryMb", "I", (.int (0))), ("duration", "D", (.double 0)), ("deadline", "D", (.double 0)), ("origin", "Lcom/example/cotenant/cotenant/core/lease/LeaseRequest$Origin;", .null), ("type", "Lcom/example/cotenant/cotenant/core/lease/LeaseRequest$Type;", .null)]) :: (L ++ Gw1)) 2 28 := X
  refine k_static C X d_prog_67_method_1_code_85 rfl (hw _ (List.mem_of_getElem? (i := 35) rfl)) (hw _ (List.mem_of_getElem? (i := 36) rfl)) (hw _ (List.mem_of_getElem? (i := 37) rfl)) (hw _ (List.mem_of_getElem? (i := 38) rfl)) (by decide) (own_rnn l Z a0 hw aE o83 ((a, own_ob Z "com/example/cotenant/cotenant/core/lease/LeaseRequest" [("id", "J", (.long (0))), ("arrival", "D", (.double 0)), ("arrivalKnown", "Z", (.int (0))), ("vms", "I", (.int (0))), ("memoryMb", "I", (.int (0))), ("duration", "D", (.double 0)), ("deadline", "D", (.double 0)), ("origin", "Lcom/example/cotenant/cotenant/core/lease/LeaseRequest$Origin;", .null), ("type", "Lcom/example/cotenant/cotenant/core/lease/LeaseRequest$Type;", .null)]) :: (L ++ Gw1))) (W := 0) (argsL := [(.ref aE), (.ref o83)]) (rest := []) rfl rfl rfl own_pd1 rfl (Nat.le_of_eq rfl) (by decide) (by decide) (by decide) (by decide) (fun v T M hQ X => ?_)
  obtain ⟨rfl, rfl⟩ := hQ
  refine k_pop C X d_prog_67_method_1_code_88 rfl rfl ?_
  refine k_aload C X d_prog_67_method_1_code_89 rfl rfl rfl ?_
  refine k_ldcS (A := ((a, own_ob Z "com/example/cotenant/cotenant/core/lease/LeaseRequest" [("id", "J", (.long (0))), ("arrival", "D", (.double 0)), ("arrivalKnown", "Z", (.int (0))), ("vms", "I", (.int (0))), ("memoryMb", "I", (.int (0))), ("duration", "D", (.double 0)), ("deadline", "D", (.double 0)), ("origin", "Lcom/example/cotenant/cotenant/core/lease/LeaseRequest$Origin;", .null), ("type", "Lcom/example/cotenant/cotenant/core/lease/LeaseRequest$Type;", .null)]) :: L)) (G := Gw1) C X rfl Ww1 d_prog_67_method_1_code_91 rfl (hw _ (List.mem_of_getElem? (i := 39) rfl)) (own_wS hw) (N := 16) (by decide) (by decide) (by decide) (by decide) (fun T vmw2 o91 Gw2 C Ww2 X => ?_)
  replace X : own_S p l e rm_own_ct3 (s.setVm vmw2) m #[(.ref a), (.long id_), (.double ar), (.int kn), (.int vs_), (.int mb), (.double du), (.double dl), (.ref aE), (.ref tp)] below meth c Z T ((a, own_ob Z "com/example/cotenant/cotenant/core/lease/LeaseRequest" [("id", "J", (.long (0))), ("arrival", "D", (.double 0)), ("arrivalKnown", "Z", (.int (0))), ("vms", "I", (.int (0))), ("memoryMb", "I", (.int (0))), ("duration", "D", (.double 0)), ("deadline", "D", (.double 0)), ("origin", "Lcom/example/cotenant/cotenant/core/lease/LeaseRequest$Origin;", .null), ("type", "Lcom/example/cotenant/cotenant/core/lease/LeaseRequest$Type;", .null)]) :: (L ++ Gw2)) 4 48 := X
  refine k_static C X d_prog_67_method_1_code_93 rfl (hw _ (List.mem_of_getElem? (i := 35) rfl)) (hw _ (List.mem_of_getElem? (i := 36) rfl)) (hw _ (List.mem_of_getElem? (i := 37) rfl)) (hw _ (List.mem_of_getElem? (i := 38) rfl)) (by decide) (own_rnn l Z a0 hw tp o91 ((a, own_ob Z "com/example/cotenant/cotenant/core/lease/LeaseRequest" [("id", "J", (.long (0))), ("arrival", "D", (.double 0)), ("arrivalKnown", "Z", (.int (0))), ("vms", "I", (.int (0))), ("memoryMb", "I", (.int (0))), ("duration", "D", (.double 0)), ("deadline", "D", (.double 0)), ("origin", "Lcom/example/cotenant/cotenant/core/lease/LeaseRequest$Origin;", .null), ("type", "Lcom/example/cotenant/cotenant/core/lease/LeaseRequest$Type;", .null)]) :: (L ++ Gw2))) (W := 0) (argsL := [(.ref tp), (.ref o91)]) (rest := []) rfl rfl rfl own_pd1 rfl (Nat.le_of_eq rfl) (by decide) (by decide) (by decide) (by decide) (fun v T M hQ X => ?_)
  obtain ⟨rfl, rfl⟩ := hQ
  refine k_pop C X d_prog_67_method_1_code_96 rfl rfl ?_
  refine k_iload C X d_prog_67_method_1_code_97 rfl rfl ?_
  refine k_if_gt C X d_prog_67_method_1_code_99 rfl (tpc := 118) rfl (fun _ => ?_) (fun hc => (hc hmb : False).elim)
  refine k_aload C X d_prog_67_method_1_code_118 rfl rfl rfl ?_
  refine k_getstatic C X d_prog_67_method_1_code_120 rfl (hw _ (List.mem_of_getElem? (i := 40) rfl)) hSL (fun T X => ?_)
  refine k_acmp_ne C X d_prog_67_method_1_code_123 rfl (tpc := 164) rfl rfl rfl (fun _ => ?_) (fun hc => (hne (Value.ref.inj hc.symm) : False).elim)
  refine k_aload C X d_prog_67_method_1_code_164 rfl rfl rfl ?_
  refine k_getstatic C X d_prog_67_method_1_code_166 rfl (hw _ (List.mem_of_getElem? (i := 42) rfl)) hSE (fun T X => ?_)
  refine k_acmp_ne C X d_prog_67_method_1_code_169 rfl (tpc := 208) rfl rfl rfl (fun hc => (hc rfl : False).elim) (fun _ => ?_)
  refine k_aload C X d_prog_67_method_1_code_172 rfl rfl rfl ?_
  refine k_virtual C X d_prog_67_method_1_code_174 rfl (hw _ (List.mem_of_getElem? (i := 43) rfl)) (hw _ (List.mem_of_getElem? (i := 44) rfl)) (hw _ (List.mem_of_getElem? (i := 6) rfl)) (hw _ (List.mem_of_getElem? (i := 47) rfl)) (hw _ (List.mem_of_getElem? (i := 46) rfl)) (hw _ (List.mem_of_getElem? (i := 45) rfl)) (by decide) (own_nf C.2.2.2.1 (hw _ (List.mem_of_getElem? (i := 46) rfl))) (own_eO hB.1) (own_binds l Z a0 hw tp (0) (Or.inl rfl) hB.2 ((a, own_ob Z "com/example/cotenant/cotenant/core/lease/LeaseRequest" [("id", "J", (.long (0))), ("arrival", "D", (.double 0)), ("arrivalKnown", "Z", (.int (0))), ("vms", "I", (.int (0))), ("memoryMb", "I", (.int (0))), ("duration", "D", (.double 0)), ("deadline", "D", (.double 0)), ("origin", "Lcom/example/cotenant/cotenant/core/lease/LeaseRequest$Origin;", .null), ("type", "Lcom/example/cotenant/cotenant/core/lease/LeaseRequest$Type;", .null)]) :: (L ++ Gw2))) (W := 0) (argsL := []) (rest := []) rfl rfl rfl own_pd2 rfl (Nat.le_of_eq rfl) (by decide) (by decide) (by decide) (by decide) (fun v T M hQ X => ?_)
  obtain ⟨rfl, rfl⟩ := hQ
  refine k_if_eq C X d_prog_67_method_1_code_177 rfl (tpc := 208) rfl (fun _ => ?_) (fun hc => (absurd hc (by decide) : False).elim)
  refine k_aloadN C X d_prog_67_method_1_code_208 rfl rfl rfl ?_
  refine k_lloadN C X d_prog_67_method_1_code_209 rfl rfl ?_
  refine k_putfield C X d_prog_67_method_1_code_210 rfl (host := "") (Or.inl (hw _ (List.mem_of_getElem? (i := 50) rfl))) (hw _ (List.mem_of_getElem? (i := 9) rfl)) (Or.inr ⟨(hw _ (List.mem_of_getElem? (i := 51) rfl)), rfl, rfl⟩) (own_lay_LeaseRequest hw) own_lay_LeaseRequest_nd (ix := 0) (j := 0) rfl rfl rfl (fs' := [("id", "J", (.long id_)), ("arrival", "D", (.double 0)), ("arrivalKnown", "Z", (.int (0))), ("vms", "I", (.int (0))), ("memoryMb", "I", (.int (0))), ("duration", "D", (.double 0)), ("deadline", "D", (.double 0)), ("origin", "Lcom/example/cotenant/cotenant/core/lease/LeaseRequest$Origin;", .null), ("type", "Lcom/example/cotenant/cotenant/core/lease/LeaseRequest$Type;", .null)]) rfl (ty := .long) (by decide) rfl rfl (L' := (a, own_ob Z "com/example/cotenant/cotenant/core/lease/LeaseRequest" [("id", "J", (.long id_)), ("arrival", "D", (.double 0)), ("arrivalKnown", "Z", (.int (0))), ("vms", "I", (.int (0))), ("memoryMb", "I", (.int (0))), ("duration", "D", (.double 0)), ("deadline", "D", (.double 0)), ("origin", "Lcom/example/cotenant/cotenant/core/lease/LeaseRequest$Origin;", .null), ("type", "Lcom/example/cotenant/cotenant/core/lease/LeaseRequest$Type;", .null)]) :: (L ++ Gw2)) rfl (fun T X => ?_)
  refine k_aloadN C X d_prog_67_method_1_code_213 rfl rfl rfl ?_
  refine k_dloadN C X d_prog_67_method_1_code_214 rfl rfl ?_
  refine k_putfield C X d_prog_67_method_1_code_215 rfl (host := "") (Or.inl (hw _ (List.mem_of_getElem? (i := 52) rfl))) (hw _ (List.mem_of_getElem? (i := 9) rfl)) (Or.inr ⟨(hw _ (List.mem_of_getElem? (i := 53) rfl)), rfl, rfl⟩) (own_lay_LeaseRequest hw) own_lay_LeaseRequest_nd (ix := 0) (j := 1) rfl rfl rfl (fs' := [("id", "J", (.long id_)), ("arrival", "D", (.double ar)), ("arrivalKnown", "Z", (.int (0))), ("vms", "I", (.int (0))), ("memoryMb", "I", (.int (0))), ("duration", "D", (.double 0)), ("deadline", "D", (.double 0)), ("origin", "Lcom/example/cotenant/cotenant/core/lease/LeaseRequest$Origin;", .null), ("type", "Lcom/example/cotenant/cotenant/core/lease/LeaseRequest$Type;", .null)]) rfl (ty := .double) (by decide) rfl rfl (L' := (a, own_ob Z "com/example/cotenant/cotenant/core/lease/LeaseRequest" [("id", "J", (.long id_)), ("arrival", "D", (.double ar)), ("arrivalKnown", "Z", (.int (0))), ("vms", "I", (.int (0))), ("memoryMb", "I", (.int (0))), ("duration", "D", (.double 0)), ("deadline", "D", (.double 0)), ("origin", "Lcom/example/cotenant/cotenant/core/lease/LeaseRequest$Origin;", .null), ("type", "Lcom/example/cotenant/cotenant/core/lease/LeaseRequest$Type;", .null)]) :: (L ++ Gw2)) rfl (fun T X => ?_)
  refine k_aloadN C X d_prog_67_method_1_code_218 rfl rfl rfl ?_
  refine k_iload C X d_prog_67_method_1_code_219 rfl rfl ?_
  refine k_putfield C X d_prog_67_method_1_code_221 rfl (host := "") (Or.inl (hw _ (List.mem_of_getElem? (i := 54) rfl))) (hw _ (List.mem_of_getElem? (i := 9) rfl)) (Or.inr ⟨(hw _ (List.mem_of_getElem? (i := 55) rfl)), rfl, rfl⟩) (own_lay_LeaseRequest hw) own_lay_LeaseRequest_nd (ix := 0) (j := 2) rfl rfl rfl (fs' := [("id", "J", (.long id_)), ("arrival", "D", (.double ar)), ("arrivalKnown", "Z", (.int kn)), ("vms", "I", (.int (0))), ("memoryMb", "I", (.int (0))), ("duration", "D", (.double 0)), ("deadline", "D", (.double 0)), ("origin", "Lcom/example/cotenant/cotenant/core/lease/LeaseRequest$Origin;", .null), ("type", "Lcom/example/cotenant/cotenant/core/lease/LeaseRequest$Type;", .null)]) rfl (ty := .boolean) (by decide) (own_bool hkn) (by rcases hkn with rfl | rfl <;> rfl) (L' := (a, own_ob Z "com/example/cotenant/cotenant/core/lease/LeaseRequest" [("id", "J", (.long id_)), ("arrival", "D", (.double ar)), ("arrivalKnown", "Z", (.int kn)), ("vms", "I", (.int (0))), ("memoryMb", "I", (.int (0))), ("duration", "D", (.double 0)), ("deadline", "D", (.double 0)), ("origin", "Lcom/example/cotenant/cotenant/core/lease/LeaseRequest$Origin;", .null), ("type", "Lcom/example/cotenant/cotenant/core/lease/LeaseRequest$Type;", .null)]) :: (L ++ Gw2)) rfl (fun T X => ?_)
  refine k_aloadN C X d_prog_67_method_1_code_224 rfl rfl rfl ?_
  refine k_iload C X d_prog_67_method_1_code_225 rfl rfl ?_
  refine k_putfield C X d_prog_67_method_1_code_227 rfl (host := "") (Or.inl (hw _ (List.mem_of_getElem? (i := 56) rfl))) (hw _ (List.mem_of_getElem? (i := 9) rfl)) (Or.inr ⟨(hw _ (List.mem_of_getElem? (i := 57) rfl)), rfl, rfl⟩) (own_lay_LeaseRequest hw) own_lay_LeaseRequest_nd (ix := 0) (j := 3) rfl rfl rfl (fs' := [("id", "J", (.long id_)), ("arrival", "D", (.double ar)), ("arrivalKnown", "Z", (.int kn)), ("vms", "I", (.int vs_)), ("memoryMb", "I", (.int (0))), ("duration", "D", (.double 0)), ("deadline", "D", (.double 0)), ("origin", "Lcom/example/cotenant/cotenant/core/lease/LeaseRequest$Origin;", .null), ("type", "Lcom/example/cotenant/cotenant/core/lease/LeaseRequest$Type;", .null)]) rfl (ty := .int) (by decide) rfl rfl (L' := (a, own_ob Z "com/example/cotenant/cotenant/core/lease/LeaseRequest" [("id", "J", (.long id_)), ("arrival", "D", (.double ar)), ("arrivalKnown", "Z", (.int kn)), ("vms", "I", (.int vs_)), ("memoryMb", "I", (.int (0))), ("duration", "D", (.double 0)), ("deadline", "D", (.double 0)), ("origin", "Lcom/example/cotenant/cotenant/core/lease/LeaseRequest$Origin;", .null), ("type", "Lcom/example/cotenant/cotenant/core/lease/LeaseRequest$Type;", .null)]) :: (L ++ Gw2)) rfl (fun T X => ?_)
  refine k_aloadN C X d_prog_67_method_1_code_230 rfl rfl rfl ?_
  refine k_iload C X d_prog_67_method_1_code_231 rfl rfl ?_
  refine k_putfield C X d_prog_67_method_1_code_233 rfl (host := "") (Or.inl (hw _ (List.mem_of_getElem? (i := 58) rfl))) (hw _ (List.mem_of_getElem? (i := 9) rfl)) (Or.inr ⟨(hw _ (List.mem_of_getElem? (i := 59) rfl)), rfl, rfl⟩) (own_lay_LeaseRequest hw) own_lay_LeaseRequest_nd (ix := 0) (j := 4) rfl rfl rfl (fs' := [("id", "J", (.long id_)), ("arrival", "D", (.double ar)), ("arrivalKnown", "Z", (.int kn)), ("vms", "I", (.int vs_)), ("memoryMb", "I", (.int mb)), ("duration", "D", (.double 0)), ("deadline", "D", (.double 0)), ("origin", "Lcom/example/cotenant/cotenant/core/lease/LeaseRequest$Origin;", .null), ("type", "Lcom/example/cotenant/cotenant/core/lease/LeaseRequest$Type;", .null)]) rfl (ty := .int) (by decide) rfl rfl (L' := (a, own_ob Z "com/example/cotenant/cotenant/core/lease/LeaseRequest" [("id", "J", (.long id_)), ("arrival", "D", (.double ar)), ("arrivalKnown", "Z", (.int kn)), ("vms", "I", (.int vs_)), ("memoryMb", "I", (.int mb)), ("duration", "D", (.double 0)), ("deadline", "D", (.double 0)), ("origin", "Lcom/example/cotenant/cotenant/core/lease/LeaseRequest$Origin;", .null), ("type", "Lcom/example/cotenant/cotenant/core/lease/LeaseRequest$Type;", .null)]) :: (L ++ Gw2)) rfl (fun T X => ?_)
  refine k_aloadN C X d_prog_67_method_1_code_236 rfl rfl rfl ?_
  refine k_dload C X d_prog_67_method_1_code_237 rfl rfl ?_
  refine k_putfield C X d_prog_67_method_1_code_239 rfl (host := "") (Or.inl (hw _ (List.mem_of_getElem? (i := 60) rfl))) (hw _ (List.mem_of_getElem? (i := 9) rfl)) (Or.inr ⟨(hw _ (List.mem_of_getElem? (i := 61) rfl)), rfl, rfl⟩) (own_lay_LeaseRequest hw) own_lay_LeaseRequest_nd (ix := 0) (j := 5) rfl rfl rfl (fs' := [("id", "J", (.long id_)), ("arrival", "D", (.double ar)), ("arrivalKnown", "Z", (.int kn)), ("vms", "I", (.int vs_)), ("memoryMb", "I", (.int mb)), ("duration", "D", (.double du)), ("deadline", "D", (.double 0)), ("origin", "Lcom/example/cotenant/cotenant/core/lease/LeaseRequest$Origin;", .null), ("type", "Lcom/example/cotenant/cotenant/core/lease/LeaseRequest$Type;", .null)]) rfl (ty := .double) (by decide) rfl rfl (L' := (a, own_ob Z "com/example/cotenant/cotenant/core/lease/LeaseRequest" [("id", "J", (.long id_)), ("arrival", "D", (.double ar)), ("arrivalKnown", "Z", (.int kn)), ("vms", "I", (.int vs_)), ("memoryMb", "I", (.int mb)), ("duration", "D", (.double du)), ("deadline", "D", (.double 0)), ("origin", "Lcom/example/cotenant/cotenant/core/lease/LeaseRequest$Origin;", .null), ("type", "Lcom/example/cotenant/cotenant/core/lease/LeaseRequest$Type;", .null)]) :: (L ++ Gw2)) rfl (fun T X => ?_)
  refine k_aloadN C X d_prog_67_method_1_code_242 rfl rfl rfl ?_
  refine k_dload C X d_prog_67_method_1_code_243 rfl rfl ?_
  refine k_putfield C X d_prog_67_method_1_code_245 rfl (host := "") (Or.inl (hw _ (List.mem_of_getElem? (i := 62) rfl))) (hw _ (List.mem_of_getElem? (i := 9) rfl)) (Or.inr ⟨(hw _ (List.mem_of_getElem? (i := 63) rfl)), rfl, rfl⟩) (own_lay_LeaseRequest hw) own_lay_LeaseRequest_nd (ix := 0) (j := 6) rfl rfl rfl (fs' := [("id", "J", (.long id_)), ("arrival", "D", (.double ar)), ("arrivalKnown", "Z", (.int kn)), ("vms", "I", (.int vs_)), ("memoryMb", "I", (.int mb)), ("duration", "D", (.double du)), ("deadline", "D", (.double dl)), ("origin", "Lcom/example/cotenant/cotenant/core/lease/LeaseRequest$Origin;", .null), ("type", "Lcom/example/cotenant/cotenant/core/lease/LeaseRequest$Type;", .null)]) rfl (ty := .double) (by decide) rfl rfl (L' := (a, own_ob Z "com/example/cotenant/cotenant/core/lease/LeaseRequest" [("id", "J", (.long id_)), ("arrival", "D", (.double ar)), ("arrivalKnown", "Z", (.int kn)), ("vms", "I", (.int vs_)), ("memoryMb", "I", (.int mb)), ("duration", "D", (.double du)), ("deadline", "D", (.double dl)), ("origin", "Lcom/example/cotenant/cotenant/core/lease/LeaseRequest$Origin;", .null), ("type", "Lcom/example/cotenant/cotenant/core/lease/LeaseRequest$Type;", .null)]) :: (L ++ Gw2)) rfl (fun T X => ?_)
  refine k_aloadN C X d_prog_67_method_1_code_248 rfl rfl rfl ?_
  refine k_aload C X d_prog_67_method_1_code_249 rfl rfl rfl ?_
  refine k_putfield C X d_prog_67_method_1_code_251 rfl (host := "") (Or.inl (hw _ (List.mem_of_getElem? (i := 64) rfl))) (hw _ (List.mem_of_getElem? (i := 9) rfl)) (Or.inr ⟨(hw _ (List.mem_of_getElem? (i := 65) rfl)), rfl, rfl⟩) (own_lay_LeaseRequest hw) own_lay_LeaseRequest_nd (ix := 0) (j := 7) rfl rfl rfl (fs' := [("id", "J", (.long id_)), ("arrival", "D", (.double ar)), ("arrivalKnown", "Z", (.int kn)), ("vms", "I", (.int vs_)), ("memoryMb", "I", (.int mb)), ("duration", "D", (.double du)), ("deadline", "D", (.double dl)), ("origin", "Lcom/example/cotenant/cotenant/core/lease/LeaseRequest$Origin;", (.ref aE)), ("type", "Lcom/example/cotenant/cotenant/core/lease/LeaseRequest$Type;", .null)]) rfl (ty := (.object "com/example/cotenant/cotenant/core/lease/LeaseRequest$Origin")) (by decide) rfl rfl (L' := (a, own_ob Z "com/example/cotenant/cotenant/core/lease/LeaseRequest" [("id", "J", (.long id_)), ("arrival", "D", (.double ar)), ("arrivalKnown", "Z", (.int kn)), ("vms", "I", (.int vs_)), ("memoryMb", "I", (.int mb)), ("duration", "D", (.double du)), ("deadline", "D", (.double dl)), ("origin", "Lcom/example/cotenant/cotenant/core/lease/LeaseRequest$Origin;", (.ref aE)), ("type", "Lcom/example/cotenant/cotenant/core/lease/LeaseRequest$Type;", .null)]) :: (L ++ Gw2)) rfl (fun T X => ?_)
  refine k_aloadN C X d_prog_67_method_1_code_254 rfl rfl rfl ?_
  refine k_aload C X d_prog_67_method_1_code_255 rfl rfl rfl ?_
  refine k_putfield C X d_prog_67_method_1_code_257 rfl (host := "") (Or.inl (hw _ (List.mem_of_getElem? (i := 66) rfl))) (hw _ (List.mem_of_getElem? (i := 9) rfl)) (Or.inr ⟨(hw _ (List.mem_of_getElem? (i := 67) rfl)), rfl, rfl⟩) (own_lay_LeaseRequest hw) own_lay_LeaseRequest_nd (ix := 0) (j := 8) rfl rfl rfl (fs' := [("id", "J", (.long id_)), ("arrival", "D", (.double ar)), ("arrivalKnown", "Z", (.int kn)), ("vms", "I", (.int vs_)), ("memoryMb", "I", (.int mb)), ("duration", "D", (.double du)), ("deadline", "D", (.double dl)), ("origin", "Lcom/example/cotenant/cotenant/core/lease/LeaseRequest$Origin;", (.ref aE)), ("type", "Lcom/example/cotenant/cotenant/core/lease/LeaseRequest$Type;", (.ref tp))]) rfl (ty := (.object "com/example/cotenant/cotenant/core/lease/LeaseRequest$Type")) (by decide) rfl rfl (L' := (a, own_ob Z "com/example/cotenant/cotenant/core/lease/LeaseRequest" [("id", "J", (.long id_)), ("arrival", "D", (.double ar)), ("arrivalKnown", "Z", (.int kn)), ("vms", "I", (.int vs_)), ("memoryMb", "I", (.int mb)), ("duration", "D", (.double du)), ("deadline", "D", (.double dl)), ("origin", "Lcom/example/cotenant/cotenant/core/lease/LeaseRequest$Origin;", (.ref aE)), ("type", "Lcom/example/cotenant/cotenant/core/lease/LeaseRequest$Type;", (.ref tp))]) :: (L ++ Gw2)) rfl (fun T X => ?_)
  exact k_returnW (M := ((a, own_ob Z "com/example/cotenant/cotenant/core/lease/LeaseRequest" [("id", "J", (.long id_)), ("arrival", "D", (.double ar)), ("arrivalKnown", "Z", (.int kn)), ("vms", "I", (.int vs_)), ("memoryMb", "I", (.int mb)), ("duration", "D", (.double du)), ("deadline", "D", (.double dl)), ("origin", "Lcom/example/cotenant/cotenant/core/lease/LeaseRequest$Origin;", (.ref aE)), ("type", "Lcom/example/cotenant/cotenant/core/lease/LeaseRequest$Type;", (.ref tp))]) :: L)) (G := Gw2) C X rfl Ww2 d_prog_67_method_1_code_260 ⟨rfl, rfl⟩ (by decide) (by decide)
theorem d_prog_67_method_1_code_180 : decode prog_67_method_1_code 180 = .ok (.dload 10, 2) := by decide +kernel
theorem d_prog_67_method_1_code_182 : decode prog_67_method_1_code 182 = .ok (.ldc2_w 28, 3) := by decide +kernel
theorem d_prog_67_method_1_code_185 : decode prog_67_method_1_code 185 = .ok (.dcmp .l, 1) := by decide +kernel
theorem d_prog_67_method_1_code_186 : decode prog_67_method_1_code 186 = .ok (.ifCond .ne 22, 3) := by decide +kernel
def rm_own_ct4 : Room := { frames := 2, cells := 4, slots := 48, locals := 24 }
set_option maxRecDepth 65536 in
set_option maxHeartbeats 40000000 in
theorem own_ct4 (l : Launch) (Z : State) (a0 : Array Value) (hw : ∀ d ∈ tables_1, d.before a0 Z = true) (a aL aE tN tp : Addr) (id_ : Int64) (ar du dl : UInt64) (kn vs_ mb : Int32) (hSL : Sta Z Z.heap "com/example/cotenant/cotenant/core/lease/LeaseRequest$Origin" "LOCAL" "Lcom/example/cotenant/cotenant/core/lease/LeaseRequest$Origin;" (.ref aL)) (hSE : Sta Z Z.heap "com/example/cotenant/cotenant/core/lease/LeaseRequest$Origin" "EXTERNAL" "Lcom/example/cotenant/cotenant/core/lease/LeaseRequest$Origin;" (.ref aE)) (hSN : Sta Z Z.heap "com/example/cotenant/cotenant/core/lease/LeaseRequest$Type" "NON_PREEMPTABLE" "Lcom/example/cotenant/cotenant/core/lease/LeaseRequest$Type;" (.ref tN)) (hne : aL ≠ aE) (hkn : kn = 0 ∨ kn = 1) (hmb : 0 < mb) (nA : Jvm.Free.Fl.NoNaN64 ar) (nD : Jvm.Free.Fl.NoNaN64 du) (hA : ¬ (FP.dcmp (ar &&& 0x7fffffffffffffff) 4845873199050653696 = some .gt ∨ FP.dcmp (ar &&& 0x7fffffffffffffff) 4845873199050653696 = none)) (hD : ¬ (FP.dcmp (du &&& 0x7fffffffffffffff) 4845873199050653696 = some .gt ∨ FP.dcmp (du &&& 0x7fffffffffffffff) 4845873199050653696 = none)) (nX : Jvm.Free.Fl.NoNaN64 dl) (hX : ¬ (FP.dcmp (dl &&& 0x7fffffffffffffff) 4845873199050653696 = some .gt ∨ FP.dcmp (dl &&& 0x7fffffffffffffff) 4845873199050653696 = none)) (hI : ¬ FP.dcmp dl 9218868437227405312 = some .eq) (hB : Exa Z Z.heap tp "com/example/cotenant/cotenant/core/lease/LeaseRequest$Type" ∧ Fld Z Z.heap tp "com/example/cotenant/cotenant/core/lease/LeaseRequest$Type" "bindsDeadline" "Z" (.int 1)) (L : List (Addr × (Cell → Prop))) :
    own_ConW l Z (⟨"com/example/cotenant/cotenant/core/lease/LeaseRequest", "<init>", "(JDZIIDDLcom/example/cotenant/cotenant/core/lease/LeaseRequest$Origin;Lcom/example/cotenant/cotenant/core/lease/LeaseRequest$Type;)V"⟩ : MethodName) prog_67_method_1_code 14 none rm_own_ct4 #[(.ref a), (.long id_), (.double ar), (.int kn), (.int vs_), (.int mb), (.double du), (.double dl), (.ref aE), (.ref tp)] ((a, own_ob Z "com/example/cotenant/cotenant/core/lease/LeaseRequest" [("id", "J", (.long (0))), ("arrival", "D", (.double 0)), ("arrivalKnown", "Z", (.int (0))), ("vms", "I", (.int (0))), ("memoryMb", "I", (.int (0))), ("duration", "D", (.double 0)), ("deadline", "D", (.double 0)), ("origin", "Lcom/example/cotenant/cotenant/core/lease/LeaseRequest$Origin;", .null), ("type", "Lcom/example/cotenant/cotenant/core/lease/LeaseRequest$Type;", .null)]) :: L) (fun _ => True) (fun v M G => v = none ∧ M = (a, own_ob Z "com/example/cotenant/cotenant/core/lease/LeaseRequest" [("id", "J", (.long id_)), ("arrival", "D", (.double ar)), ("arrivalKnown", "Z", (.int kn)), ("vms", "I", (.int vs_)), ("memoryMb", "I", (.int mb)), ("duration", "D", (.double du)), ("deadline", "D", (.double dl)), ("origin", "Lcom/example/cotenant/cotenant/core/lease/LeaseRequest$Origin;", (.ref aE)), ("type", "Lcom/example/cotenant/cotenant/core/lease/LeaseRequest$Type;", (.ref tp))]) :: L) := by
  refine own_conW (ls := #[.val (.ref a), .val (.long id_), .second, .val (.double ar), .second, .val (.int kn), .val (.int vs_), .val (.int mb), .val (.double du), .second, .val (.double dl), .second, .val (.ref aE), .val (.ref tp)]) (plainFor_of_name own_pn3) (fun m => own_ent m rfl) ?_
  intro p e s m below meth c T C X hJ
  refine k_aloadN C X d_prog_67_method_1_code_0 rfl rfl rfl ?_
  refine k_init C X d_prog_67_method_1_code_1 rfl rfl (hw _ (List.mem_of_getElem? (i := 14) rfl)) (hw _ (List.mem_of_getElem? (i := 15) rfl)) (hw _ (List.mem_of_getElem? (i := 17) rfl)) (hw _ (List.mem_of_getElem? (i := 18) rfl)) (by decide) (own_rec l Z a0 hw a ((a, own_ob Z "com/example/cotenant/cotenant/core/lease/LeaseRequest" [("id", "J", (.long (0))), ("arrival", "D", (.double 0)), ("arrivalKnown", "Z", (.int (0))), ("vms", "I", (.int (0))), ("memoryMb", "I", (.int (0))), ("duration", "D", (.double 0)), ("deadline", "D", (.double 0)), ("origin", "Lcom/example/cotenant/cotenant/core/lease/LeaseRequest$Origin;", .null), ("type", "Lcom/example/cotenant/cotenant/core/lease/LeaseRequest$Type;", .null)]) :: L)) (W := 0) (argsL := []) (rest := []) rfl rfl rfl own_pd0 rfl (Nat.le_of_eq rfl) (by decide) (by decide) (by decide) (by decide) (fun v T M hQ X => ?_)
  obtain ⟨rfl, rfl⟩ := hQ
  refine k_dloadN C X d_prog_67_method_1_code_4 rfl rfl ?_
  refine k_abs C X d_prog_67_method_1_code_5 rfl (hw _ (List.mem_of_getElem? (i := 22) rfl)) (hw _ (List.mem_of_getElem? (i := 23) rfl)) (hw _ (List.mem_of_getElem? (i := 24) rfl)) (hw _ (List.mem_of_getElem? (i := 25) rfl)) (nA) rfl (W := 0) (Nat.le_of_eq rfl) (by decide) (by decide) (fun T X => ?_)
  refine k_ldc2d C X d_prog_67_method_1_code_8 rfl (hw _ (List.mem_of_getElem? (i := 26) rfl)) ?_
  refine k_dcmpg C X d_prog_67_method_1_code_11 rfl ?_
  refine k_ifdg_gt C X d_prog_67_method_1_code_12 rfl (tpc := 27) rfl (fun hc => (hA hc : False).elim) (fun _ => ?_)
  refine k_dload C X d_prog_67_method_1_code_15 rfl rfl ?_
  refine k_abs C X d_prog_67_method_1_code_17 rfl (hw _ (List.mem_of_getElem? (i := 22) rfl)) (hw _ (List.mem_of_getElem? (i := 23) rfl)) (hw _ (List.mem_of_getElem? (i := 24) rfl)) (hw _ (List.mem_of_getElem? (i := 25) rfl)) (nD) rfl (W := 0) (Nat.le_of_eq rfl) (by decide) (by decide) (fun T X => ?_)
  refine k_ldc2d C X d_prog_67_method_1_code_20 rfl (hw _ (List.mem_of_getElem? (i := 26) rfl)) ?_
  refine k_dcmpg C X d_prog_67_method_1_code_23 rfl ?_
  refine k_ifdg_le C X d_prog_67_method_1_code_24 rfl (tpc := 44) rfl (fun _ => ?_) (fun hc => (hD hc : False).elim)
  refine k_dload C X d_prog_67_method_1_code_44 rfl rfl ?_
  refine k_abs C X d_prog_67_method_1_code_46 rfl (hw _ (List.mem_of_getElem? (i := 22) rfl)) (hw _ (List.mem_of_getElem? (i := 23) rfl)) (hw _ (List.mem_of_getElem? (i := 24) rfl)) (hw _ (List.mem_of_getElem? (i := 25) rfl)) (nX) rfl (W := 0) (Nat.le_of_eq rfl) (by decide) (by decide) (fun T X => ?_)
  refine k_ldc2d C X d_prog_67_method_1_code_49 rfl (hw _ (List.mem_of_getElem? (i := 26) rfl)) ?_
  refine k_dcmpg C X d_prog_67_method_1_code_52 rfl ?_
  refine k_ifdg_le C X d_prog_67_method_1_code_53 rfl (tpc := 81) rfl (fun _ => ?_) (fun hc => (hX hc : False).elim)
  refine k_aload C X d_prog_67_method_1_code_81 rfl rfl rfl ?_
  refine k_ldcS (vm0 := s.vm) (A := ((a, own_ob Z "com/example/cotenant/cotenant/core/lease/LeaseRequest" [("id", "J", (.long (0))), ("arrival", "D", (.double 0)), ("arrivalKnown", "Z", (.int (0))), ("vms", "I", (.int (0))), ("memoryMb", "I", (.int (0))), ("duration", "D", (.double 0)), ("deadline", "D", (.double 0)), ("origin", "Lcom/example/cotenant/cotenant/core/lease/LeaseRequest$Origin;", .null), ("type", "Lcom/example/cotenant/cotenant/core/lease/LeaseRequest$Type;", .null)]) :: L)) (G := []) C X (List.append_nil _) own_W.start d_prog_67_method_1_code_83 rfl (hw _ (List.mem_of_getElem? (i := 27) rfl)) (own_wS hw) (N := 24) (by decide) (by decide) (by decide) (by decide) (fun T vmw1 o83 Gw1 C Ww1 X => ?_)
  replace X : own_S p l e rm_own_ct4 (s.setVm vmw1) m #[(.ref a), (.long id_), (.double ar), (.int kn), (.int vs_), (.int mb), (.double du), (.double dl), (.ref aE), (.ref tp)] below meth c Z T ((a, own_ob Z "com/example/cotenant/cotenant/core/lease/LeaseRequest" [("id", "J", (.long (0))), ("arrival", "D", (.double 0)), ("arrivalKnown", "Z", (.int (0))), ("vms", "I", (.int (0))), ("memoryMb", "I", (.int (0))), ("duration", "D", (.double 0)), ("deadline", "D", (.double 0)), ("origin", "Lcom/example/cotenant/cotenant/core/lease/LeaseRequest$Origin;", .null), ("type", "Lcom/example/cotenant/cotenant/core/lease/LeaseRequest$Type;", .null)]) :: (L ++ Gw1)) 2 28 := X
  refine k_static C X d_prog_67_method_1_code_85 rfl (hw _ (List.mem_of_getElem? (i := 35) rfl)) (hw _ (List.mem_of_getElem? (i := 36) rfl)) (hw _ (List.mem_of_getElem? (i := 37) rfl)) (hw _ (List.mem_of_getElem? (i := 38) rfl)) (by decide) (own_rnn l Z a0 hw aE o83 ((a, own_ob Z "com/example/cotenant/cotenant/core/lease/LeaseRequest" [("id", "J", (.long (0))), ("arrival", "D", (.double 0)), ("arrivalKnown", "Z", (.int (0))), ("vms", "I", (.int (0))), ("memoryMb", "I", (.int (0))), ("duration", "D", (.double 0)), ("deadline", "D", (.double 0)), ("origin", "Lcom/example/cotenant/cotenant/core/lease/LeaseRequest$Origin;", .null), ("type", "Lcom/example/cotenant/cotenant/core/lease/LeaseRequest$Type;", .null)]) :: (L ++ Gw1))) (W := 0) (argsL := [(.ref aE), (.ref o83)]) (rest := []) rfl rfl rfl own_pd1 rfl (Nat.le_of_eq rfl) (by decide) (by decide) (by decide) (by decide) (fun v T M hQ X => ?_)
  obtain ⟨rfl, rfl⟩ := hQ
  refine k_pop C X d_prog_67_method_1_code_88 rfl rfl ?_
  refine k_aload C X d_prog_67_method_1_code_89 rfl rfl rfl ?_
  refine k_ldcS (A := ((a, own_ob Z "com/example/cotenant/cotenant/core/lease/LeaseRequest" [("id", "J", (.long (0))), ("arrival", "D", (.double 0)), ("arrivalKnown", "Z", (.int (0))), ("vms", "I", (.int (0))), ("memoryMb", "I", (.int (0))), ("duration", "D", (.double 0)), ("deadline", "D", (.double 0)), ("origin", "Lcom/example/cotenant/cotenant/core/lease/LeaseRequest$Origin;", .null), ("type", "Lcom/example/cotenant/cotenant/core/lease/LeaseRequest$Type;", .null)]) :: L)) (G := Gw1) C X rfl Ww1 d_prog_67_method_1_code_91 rfl (hw _ (List.mem_of_getElem? (i := 39) rfl)) (own_wS hw) (N := 16) (by decide) (by decide) (by decide) (by decide) (fun T vmw2 o91 Gw2 C Ww2 X => ?_)
  replace X : own_S p l e rm_own_ct4 (s.setVm vmw2) m #[(.ref a), (.long id_), (.double ar), (.int kn), (.int vs_), (.int mb), (.double du), (.double dl), (.ref aE), (.ref tp)] below meth c Z T ((a, own_ob Z "com/example/cotenant/cotenant/core/lease/LeaseRequest" [("id", "J", (.long (0))), ("arrival", "D", (.double 0)), ("arrivalKnown", "Z", (.int (0))), ("vms", "I", (.int (0))), ("memoryMb", "I", (.int (0))), ("duration", "D", (.double 0)), ("deadline", "D", (.double 0)), ("origin", "Lcom/example/cotenant/cotenant/core/lease/LeaseRequest$Origin;", .null), ("type", "Lcom/example/cotenant/cotenant/core/lease/LeaseRequest$Type;", .null)]) :: (L ++ Gw2)) 4 48 := X
  refine k_static C X d_prog_67_method_1_code_93 rfl (hw _ (List.mem_of_getElem? (i := 35) rfl)) (hw _ (List.mem_of_getElem? (i := 36) rfl)) (hw _ (List.mem_of_getElem? (i := 37) rfl)) (hw _ (List.mem_of_getElem? (i := 38) rfl)) (by decide) (own_rnn l Z a0 hw tp o91 ((a, own_ob Z "com/example/cotenant/cotenant/core/lease/LeaseRequest" [("id", "J", (.long (0))), ("arrival", "D", (.double 0)), ("arrivalKnown", "Z", (.int (0))), ("vms", "I", (.int (0))), ("memoryMb", "I", (.int (0))), ("duration", "D", (.double 0)), ("deadline", "D", (.double 0)), ("origin", "Lcom/example/cotenant/cotenant/core/lease/LeaseRequest$Origin;", .null), ("type", "Lcom/example/cotenant/cotenant/core/lease/LeaseRequest$Type;", .null)]) :: (L ++ Gw2))) (W := 0) (argsL := [(.ref tp), (.ref o91)]) (rest := []) rfl rfl rfl own_pd1 rfl (Nat.le_of_eq rfl) (by decide) (by decide) (by decide) (by decide) (fun v T M hQ X => ?_)
  obtain ⟨rfl, rfl⟩ := hQ
  refine k_pop C X d_prog_67_method_1_code_96 rfl rfl ?_
  refine k_iload C X d_prog_67_method_1_code_97 rfl rfl ?_
  refine k_if_gt C X d_prog_67_method_1_code_99 rfl (tpc := 118) rfl (fun _ => ?_) (fun hc => (hc hmb : False).elim)
  refine k_aload C X d_prog_67_method_1_code_118 rfl rfl rfl ?_
  refine k_getstatic C X d_prog_67_method_1_code_120 rfl (hw _ (List.mem_of_getElem? (i := 40) rfl)) hSL (fun T X => ?_)
  refine k_acmp_ne C X d_prog_67_method_1_code_123 rfl (tpc := 164) rfl rfl rfl (fun _ => ?_) (fun hc => (hne (Value.ref.inj hc.symm) : False).elim)
  refine k_aload C X d_prog_67_method_1_code_164 rfl rfl rfl ?_
  refine k_getstatic C X d_prog_67_method_1_code_166 rfl (hw _ (List.mem_of_getElem? (i := 42) rfl)) hSE (fun T X => ?_)
  refine k_acmp_ne C X d_prog_67_method_1_code_169 rfl (tpc := 208) rfl rfl rfl (fun hc => (hc rfl : False).elim) (fun _ => ?_)
  refine k_aload C X d_prog_67_method_1_code_172 rfl rfl rfl ?_
  refine k_virtual C X d_prog_67_method_1_code_174 rfl (hw _ (List.mem_of_getElem? (i := 43) rfl)) (hw _ (List.mem_of_getElem? (i := 44) rfl)) (hw _ (List.mem_of_getElem? (i := 6) rfl)) (hw _ (List.mem_of_getElem? (i := 47) rfl)) (hw _ (List.mem_of_getElem? (i := 46) rfl)) (hw _ (List.mem_of_getElem? (i := 45) rfl)) (by decide) (own_nf C.2.2.2.1 (hw _ (List.mem_of_getElem? (i := 46) rfl))) (own_eO hB.1) (own_binds l Z a0 hw tp (1) (Or.inr rfl) hB.2 ((a, own_ob Z "com/example/cotenant/cotenant/core/lease/LeaseRequest" [("id", "J", (.long (0))), ("arrival", "D", (.double 0)), ("arrivalKnown", "Z", (.int (0))), ("vms", "I", (.int (0))), ("memoryMb", "I", (.int (0))), ("duration", "D", (.double 0)), ("deadline", "D", (.double 0)), ("origin", "Lcom/example/cotenant/cotenant/core/lease/LeaseRequest$Origin;", .null), ("type", "Lcom/example/cotenant/cotenant/core/lease/LeaseRequest$Type;", .null)]) :: (L ++ Gw2))) (W := 0) (argsL := []) (rest := []) rfl rfl rfl own_pd2 rfl (Nat.le_of_eq rfl) (by decide) (by decide) (by decide) (by decide) (fun v T M hQ X => ?_)
  obtain ⟨rfl, rfl⟩ := hQ
  refine k_if_eq C X d_prog_67_method_1_code_177 rfl (tpc := 208) rfl (fun hc => (absurd hc (by decide) : False).elim) (fun _ => ?_)
  refine k_dload C X d_prog_67_method_1_code_180 rfl rfl ?_
  refine k_ldc2d C X d_prog_67_method_1_code_182 rfl (hw _ (List.mem_of_getElem? (i := 77) rfl)) ?_
  refine k_dcmpl C X d_prog_67_method_1_code_185 rfl ?_
  refine k_ifdl_ne C X d_prog_67_method_1_code_186 rfl (tpc := 208) rfl (fun _ => ?_) (fun hc => (hI hc : False).elim)
  refine k_aloadN C X d_prog_67_method_1_code_208 rfl rfl rfl ?_
  refine k_lloadN C X d_prog_67_method_1_code_209 rfl rfl ?_
  refine k_putfield C X d_prog_67_method_1_code_210 rfl (host := "") (Or.inl (hw _ (List.mem_of_getElem? (i := 50) rfl))) (hw _ (List.mem_of_getElem? (i := 9) rfl)) (Or.inr ⟨(hw _ (List.mem_of_getElem? (i := 51) rfl)), rfl, rfl⟩) (own_lay_LeaseRequest hw) own_lay_LeaseRequest_nd (ix := 0) (j := 0) rfl rfl rfl (fs' := [("id", "J", (.long id_)), ("arrival", "D", (.double 0)), ("arrivalKnown", "Z", (.int (0))), ("vms", "I", (.int (0))), ("memoryMb", "I", (.int (0))), ("duration", "D", (.double 0)), ("deadline", "D", (.double 0)), ("origin", "Lcom/example/cotenant/cotenant/core/lease/LeaseRequest$Origin;", .null), ("type", "Lcom/example/cotenant/cotenant/core/lease/LeaseRequest$Type;", .null)]) rfl (ty := .long) (by decide) rfl rfl (L' := (a, own_ob Z "com/example/cotenant/cotenant/core/lease/LeaseRequest" [("id", "J", (.long id_)), ("arrival", "D", (.double 0)), ("arrivalKnown", "Z", (.int (0))), ("vms", "I", (.int (0))), ("memoryMb", "I", (.int (0))), ("duration", "D", (.double 0)), ("deadline", "D", (.double 0)), ("origin", "Lcom/example/cotenant/cotenant/core/lease/LeaseRequest$Origin;", .null), ("type", "Lcom/example/cotenant/cotenant/core/lease/LeaseRequest$Type;", .null)]) :: (L ++ Gw2)) rfl (fun T X => ?_)
  refine k_aloadN C X d_prog_67_method_1_code_213 rfl rfl rfl ?_
  refine k_dloadN C X d_prog_67_method_1_code_214 rfl rfl ?_
  refine k_putfield C X d_prog_67_method_1_code_215 rfl (host := "") (Or.inl (hw _ (List.mem_of_getElem? (i := 52) rfl))) (hw _ (List.mem_of_getElem? (i := 9) rfl)) (Or.inr ⟨(hw _ (List.mem_of_getElem? (i := 53) rfl)), rfl, rfl⟩) (own_lay_LeaseRequest hw) own_lay_LeaseRequest_nd (ix := 0) (j := 1) rfl rfl rfl (fs' := [("id", "J", (.long id_)), ("arrival", "D", (.double ar)), ("arrivalKnown", "Z", (.int (0))), ("vms", "I", (.int (0))), ("memoryMb", "I", (.int (0))), ("duration", "D", (.double 0)), ("deadline", "D", (.double 0)), ("origin", "Lcom/example/cotenant/cotenant/core/lease/LeaseRequest$Origin;", .null), ("type", "Lcom/example/cotenant/cotenant/core/lease/LeaseRequest$Type;", .null)]) rfl (ty := .double) (by decide) rfl rfl (L' := (a, own_ob Z "com/example/cotenant/cotenant/core/lease/LeaseRequest" [("id", "J", (.long id_)), ("arrival", "D", (.double ar)), ("arrivalKnown", "Z", (.int (0))), ("vms", "I", (.int (0))), ("memoryMb", "I", (.int (0))), ("duration", "D", (.double 0)), ("deadline", "D", (.double 0)), ("origin", "Lcom/example/cotenant/cotenant/core/lease/LeaseRequest$Origin;", .null), ("type", "Lcom/example/cotenant/cotenant/core/lease/LeaseRequest$Type;", .null)]) :: (L ++ Gw2)) rfl (fun T X => ?_)
  refine k_aloadN C X d_prog_67_method_1_code_218 rfl rfl rfl ?_
  refine k_iload C X d_prog_67_method_1_code_219 rfl rfl ?_
  refine k_putfield C X d_prog_67_method_1_code_221 rfl (host := "") (Or.inl (hw _ (List.mem_of_getElem? (i := 54) rfl))) (hw _ (List.mem_of_getElem? (i := 9) rfl)) (Or.inr ⟨(hw _ (List.mem_of_getElem? (i := 55) rfl)), rfl, rfl⟩) (own_lay_LeaseRequest hw) own_lay_LeaseRequest_nd (ix := 0) (j := 2) rfl rfl rfl (fs' := [("id", "J", (.long id_)), ("arrival", "D", (.double ar)), ("arrivalKnown", "Z", (.int kn)), ("vms", "I", (.int (0))), ("memoryMb", "I", (.int (0))), ("duration", "D", (.double 0)), ("deadline", "D", (.double 0)), ("origin", "Lcom/example/cotenant/cotenant/core/lease/LeaseRequest$Origin;", .null), ("type", "Lcom/example/cotenant/cotenant/core/lease/LeaseRequest$Type;", .null)]) rfl (ty := .boolean) (by decide) (own_bool hkn) (by rcases hkn with rfl | rfl <;> rfl) (L' := (a, own_ob Z "com/example/cotenant/cotenant/core/lease/LeaseRequest" [("id", "J", (.long id_)), ("arrival", "D", (.double ar)), ("arrivalKnown", "Z", (.int kn)), ("vms", "I", (.int (0))), ("memoryMb", "I", (.int (0))), ("duration", "D", (.double 0)), ("deadline", "D", (.double 0)), ("origin", "Lcom/example/cotenant/cotenant/core/lease/LeaseRequest$Origin;", .null), ("type", "Lcom/example/cotenant/cotenant/core/lease/LeaseRequest$Type;", .null)]) :: (L ++ Gw2)) rfl (fun T X => ?_)
  refine k_aloadN C X d_prog_67_method_1_code_224 rfl rfl rfl ?_
  refine k_iload C X d_prog_67_method_1_code_225 rfl rfl ?_
  refine k_putfield C X d_prog_67_method_1_code_227 rfl (host := "") (Or.inl (hw _ (List.mem_of_getElem? (i := 56) rfl))) (hw _ (List.mem_of_getElem? (i := 9) rfl)) (Or.inr ⟨(hw _ (List.mem_of_getElem? (i := 57) rfl)), rfl, rfl⟩) (own_lay_LeaseRequest hw) own_lay_LeaseRequest_nd (ix := 0) (j := 3) rfl rfl rfl (fs' := [("id", "J", (.long id_)), ("arrival", "D", (.double ar)), ("arrivalKnown", "Z", (.int kn)), ("vms", "I", (.int vs_)), ("memoryMb", "I", (.int (0))), ("duration", "D", (.double 0)), ("deadline", "D", (.double 0)), ("origin", "Lcom/example/cotenant/cotenant/core/lease/LeaseRequest$Origin;", .null), ("type", "Lcom/example/cotenant/cotenant/core/lease/LeaseRequest$Type;", .null)]) rfl (ty := .int) (by decide) rfl rfl (L' := (a, own_ob Z "com/example/cotenant/cotenant/core/lease/LeaseRequest" [("id", "J", (.long id_)), ("arrival", "D", (.double ar)), ("arrivalKnown", "Z", (.int kn)), ("vms", "I", (.int vs_)), ("memoryMb", "I", (.int (0))), ("duration", "D", (.double 0)), ("deadline", "D", (.double 0)), ("origin", "Lcom/example/cotenant/cotenant/core/lease/LeaseRequest$Origin;", .null), ("type", "Lcom/example/cotenant/cotenant/core/lease/LeaseRequest$Type;", .null)]) :: (L ++ Gw2)) rfl (fun T X => ?_)
  refine k_aloadN C X d_prog_67_method_1_code_230 rfl rfl rfl ?_
  refine k_iload C X d_prog_67_method_1_code_231 rfl rfl ?_
  refine k_putfield C X d_prog_67_method_1_code_233 rfl (host := "") (Or.inl (hw _ (List.mem_of_getElem? (i := 58) rfl))) (hw _ (List.mem_of_getElem? (i := 9) rfl)) (Or.inr ⟨(hw _ (List.mem_of_getElem? (i := 59) rfl)), rfl, rfl⟩) (own_lay_LeaseRequest hw) own_lay_LeaseRequest_nd (ix := 0) (j := 4) rfl rfl rfl (fs' := [("id", "J", (.long id_)), ("arrival", "D", (.double ar)), ("arrivalKnown", "Z", (.int kn)), ("vms", "I", (.int vs_)), ("memoryMb", "I", (.int mb)), ("duration", "D", (.double 0)), ("deadline", "D", (.double 0)), ("origin", "Lcom/example/cotenant/cotenant/core/lease/LeaseRequest$Origin;", .null), ("type", "Lcom/example/cotenant/cotenant/core/lease/LeaseRequest$Type;", .null)]) rfl (ty := .int) (by decide) rfl rfl (L' := (a, own_ob Z "com/example/cotenant/cotenant/core/lease/LeaseRequest" [("id", "J", (.long id_)), ("arrival", "D", (.double ar)), ("arrivalKnown", "Z", (.int kn)), ("vms", "I", (.int vs_)), ("memoryMb", "I", (.int mb)), ("duration", "D", (.double 0)), ("deadline", "D", (.double 0)), ("origin", "Lcom/example/cotenant/cotenant/core/lease/LeaseRequest$Origin;", .null), ("type", "Lcom/example/cotenant/cotenant/core/lease/LeaseRequest$Type;", .null)]) :: (L ++ Gw2)) rfl (fun T X => ?_)
  refine k_aloadN C X d_prog_67_method_1_code_236 rfl rfl rfl ?_
  refine k_dload C X d_prog_67_method_1_code_237 rfl rfl ?_
  refine k_putfield C X d_prog_67_method_1_code_239 rfl (host := "") (Or.inl (hw _ (List.mem_of_getElem? (i := 60) rfl))) (hw _ (List.mem_of_getElem? (i := 9) rfl)) (Or.inr ⟨(hw _ (List.mem_of_getElem? (i := 61) rfl)), rfl, rfl⟩) (own_lay_LeaseRequest hw) own_lay_LeaseRequest_nd (ix := 0) (j := 5) rfl rfl rfl (fs' := [("id", "J", (.long id_)), ("arrival", "D", (.double ar)), ("arrivalKnown", "Z", (.int kn)), ("vms", "I", (.int vs_)), ("memoryMb", "I", (.int mb)), ("duration", "D", (.double du)), ("deadline", "D", (.double 0)), ("origin", "Lcom/example/cotenant/cotenant/core/lease/LeaseRequest$Origin;", .null), ("type", "Lcom/example/cotenant/cotenant/core/lease/LeaseRequest$Type;", .null)]) rfl (ty := .double) (by decide) rfl rfl (L' := (a, own_ob Z "com/example/cotenant/cotenant/core/lease/LeaseRequest" [("id", "J", (.long id_)), ("arrival", "D", (.double ar)), ("arrivalKnown", "Z", (.int kn)), ("vms", "I", (.int vs_)), ("memoryMb", "I", (.int mb)), ("duration", "D", (.double du)), ("deadline", "D", (.double 0)), ("origin", "Lcom/example/cotenant/cotenant/core/lease/LeaseRequest$Origin;", .null), ("type", "Lcom/example/cotenant/cotenant/core/lease/LeaseRequest$Type;", .null)]) :: (L ++ Gw2)) rfl (fun T X => ?_)
  refine k_aloadN C X d_prog_67_method_1_code_242 rfl rfl rfl ?_
  refine k_dload C X d_prog_67_method_1_code_243 rfl rfl ?_
  refine k_putfield C X d_prog_67_method_1_code_245 rfl (host := "") (Or.inl (hw _ (List.mem_of_getElem? (i := 62) rfl))) (hw _ (List.mem_of_getElem? (i := 9) rfl)) (Or.inr ⟨(hw _ (List.mem_of_getElem? (i := 63) rfl)), rfl, rfl⟩) (own_lay_LeaseRequest hw) own_lay_LeaseRequest_nd (ix := 0) (j := 6) rfl rfl rfl (fs' := [("id", "J", (.long id_)), ("arrival", "D", (.double ar)), ("arrivalKnown", "Z", (.int kn)), ("vms", "I", (.int vs_)), ("memoryMb", "I", (.int mb)), ("duration", "D", (.double du)), ("deadline", "D", (.double dl)), ("origin", "Lcom/example/cotenant/cotenant/core/lease/LeaseRequest$Origin;", .null), ("type", "Lcom/example/cotenant/cotenant/core/lease/LeaseRequest$Type;", .null)]) rfl (ty := .double) (by decide) rfl rfl (L' := (a, own_ob Z "com/example/cotenant/cotenant/core/lease/LeaseRequest" [("id", "J", (.long id_)), ("arrival", "D", (.double ar)), ("arrivalKnown", "Z", (.int kn)), ("vms", "I", (.int vs_)), ("memoryMb", "I", (.int mb)), ("duration", "D", (.double du)), ("deadline", "D", (.double dl)), ("origin", "Lcom/example/cotenant/cotenant/core/lease/LeaseRequest$Origin;", .null), ("type", "Lcom/example/cotenant/cotenant/core/lease/LeaseRequest$Type;", .null)]) :: (L ++ Gw2)) rfl (fun T X => ?_)
  refine k_aloadN C X d_prog_67_method_1_code_248 rfl rfl rfl ?_
  refine k_aload C X d_prog_67_method_1_code_249 rfl rfl rfl ?_
  refine k_putfield C X d_prog_67_method_1_code_251 rfl (host := "") (Or.inl (hw _ (List.mem_of_getElem? (i := 64) rfl))) (hw _ (List.mem_of_getElem? (i := 9) rfl)) (Or.inr ⟨(hw _ (List.mem_of_getElem? (i := 65) rfl)), rfl, rfl⟩) (own_lay_LeaseRequest hw) own_lay_LeaseRequest_nd (ix := 0) (j := 7) rfl rfl rfl (fs' := [("id", "J", (.long id_)), ("arrival", "D", (.double ar)), ("arrivalKnown", "Z", (.int kn)), ("vms", "I", (.int vs_)), ("memoryMb", "I", (.int mb)), ("duration", "D", (.double du)), ("deadline", "D", (.double dl)), ("origin", "Lcom/example/cotenant/cotenant/core/lease/LeaseRequest$Origin;", (.ref aE)), ("type", "Lcom/example/cotenant/cotenant/core/lease/LeaseRequest$Type;", .null)]) rfl (ty := (.object "com/example/cotenant/cotenant/core/lease/LeaseRequest$Origin")) (by decide) rfl rfl (L' := (a, own_ob Z "com/example/cotenant/cotenant/core/lease/LeaseRequest" [("id", "J", (.long id_)), ("arrival", "D", (.double ar)), ("arrivalKnown", "Z", (.int kn)), ("vms", "I", (.int vs_)), ("memoryMb", "I", (.int mb)), ("duration", "D", (.double du)), ("deadline", "D", (.double dl)), ("origin", "Lcom/example/cotenant/cotenant/core/lease/LeaseRequest$Origin;", (.ref aE)), ("type", "Lcom/example/cotenant/cotenant/core/lease/LeaseRequest$Type;", .null)]) :: (L ++ Gw2)) rfl (fun T X => ?_)
  refine k_aloadN C X d_prog_67_method_1_code_254 rfl rfl rfl ?_
  refine k_aload C X d_prog_67_method_1_code_255 rfl rfl rfl ?_
  refine k_putfield C X d_prog_67_method_1_code_257 rfl (host := "") (Or.inl (hw _ (List.mem_of_getElem? (i := 66) rfl))) (hw _ (List.mem_of_getElem? (i := 9) rfl)) (Or.inr ⟨(hw _ (List.mem_of_getElem? (i := 67) rfl)), rfl, rfl⟩) (own_lay_LeaseRequest hw) own_lay_LeaseRequest_nd (ix := 0) (j := 8) rfl rfl rfl (fs' := [("id", "J", (.long id_)), ("arrival", "D", (.double ar)), ("arrivalKnown", "Z", (.int kn)), ("vms", "I", (.int vs_)), ("memoryMb", "I", (.int mb)), ("duration", "D", (.double du)), ("deadline", "D", (.double dl)), ("origin", "Lcom/example/cotenant/cotenant/core/lease/LeaseRequest$Origin;", (.ref aE)), ("type", "Lcom/example/cotenant/cotenant/core/lease/LeaseRequest$Type;", (.ref tp))]) rfl (ty := (.object "com/example/cotenant/cotenant/core/lease/LeaseRequest$Type")) (by decide) rfl rfl (L' := (a, own_ob Z "com/example/cotenant/cotenant/core/lease/LeaseRequest" [("id", "J", (.long id_)), ("arrival", "D", (.double ar)), ("arrivalKnown", "Z", (.int kn)), ("vms", "I", (.int vs_)), ("memoryMb", "I", (.int mb)), ("duration", "D", (.double du)), ("deadline", "D", (.double dl)), ("origin", "Lcom/example/cotenant/cotenant/core/lease/LeaseRequest$Origin;", (.ref aE)), ("type", "Lcom/example/cotenant/cotenant/core/lease/LeaseRequest$Type;", (.ref tp))]) :: (L ++ Gw2)) rfl (fun T X => ?_)
  exact k_returnW (M := ((a, own_ob Z "com/example/cotenant/cotenant/core/lease/LeaseRequest" [("id", "J", (.long id_)), ("arrival", "D", (.double ar)), ("arrivalKnown", "Z", (.int kn)), ("vms", "I", (.int vs_)), ("memoryMb", "I", (.int mb)), ("duration", "D", (.double du)), ("deadline", "D", (.double dl)), ("origin", "Lcom/example/cotenant/cotenant/core/lease/LeaseRequest$Origin;", (.ref aE)), ("type", "Lcom/example/cotenant/cotenant/core/lease/LeaseRequest$Type;", (.ref tp))]) :: L)) (G := Gw2) C X rfl Ww2 d_prog_67_method_1_code_260 ⟨rfl, rfl⟩ (by decide) (by decide)
theorem d_prog_67_method_3_code_0 : decode prog_67_method_3_code 0 = .ok (.aload_n 0, 1) := by decide +kernel
theorem d_prog_67_method_3_code_1 : decode prog_67_method_3_code 1 = .ok (.getfield 93, 3) := by decide +kernel
theorem d_prog_67_method_3_code_4 : decode prog_67_method_3_code 4 = .ok (.ifCond .le 19, 3) := by decide +kernel
theorem d_prog_67_method_3_code_23 : decode prog_67_method_3_code 23 = .ok (.iconst 1, 1) := by decide +kernel
theorem d_prog_67_method_3_code_24 : decode prog_67_method_3_code 24 = .ok (.goto 4, 3) := by decide +kernel
theorem d_prog_67_method_3_code_7 : decode prog_67_method_3_code 7 = .ok (.aload_n 0, 1) := by decide +kernel
theorem d_prog_67_method_3_code_8 : decode prog_67_method_3_code 8 = .ok (.getfield 100, 3) := by decide +kernel
theorem d_prog_67_method_3_code_11 : decode prog_67_method_3_code 11 = .ok (.dconst 0, 1) := by decide +kernel
theorem d_prog_67_method_3_code_12 : decode prog_67_method_3_code 12 = .ok (.dcmp .l, 1) := by decide +kernel
theorem d_prog_67_method_3_code_13 : decode prog_67_method_3_code 13 = .ok (.ifCond .le 10, 3) := by decide +kernel
theorem d_prog_67_method_3_code_16 : decode prog_67_method_3_code 16 = .ok (.aload_n 0, 1) := by decide +kernel
theorem d_prog_67_method_3_code_17 : decode prog_67_method_3_code 17 = .ok (.getfield 89, 3) := by decide +kernel
theorem d_prog_67_method_3_code_20 : decode prog_67_method_3_code 20 = .ok (.ifCond .ne 7, 3) := by decide +kernel
theorem d_prog_67_method_3_code_27 : decode prog_67_method_3_code 27 = .ok (.iconst 0, 1) := by decide +kernel
theorem d_prog_67_method_3_code_28 : decode prog_67_method_3_code 28 = .ok (.ireturn, 1) := by decide +kernel
def rm_own_isa : Room := { frames := 0, cells := 0, slots := 0, locals := 0 }
set_option maxRecDepth 65536 in
set_option maxHeartbeats 40000000 in
theorem own_isa (l : Launch) (Z : State) (a0 : Array Value) (hw : ∀ d ∈ tables_1, d.before a0 Z = true) (a og tp : Addr) (id_ : Int64) (ar du dl : UInt64) (kn vs_ mb : Int32) (L : List (Addr × (Cell → Prop))) :
    own_Con l Z (⟨"com/example/cotenant/cotenant/core/lease/LeaseRequest", "isSetAside", "()Z"⟩ : MethodName) prog_67_method_3_code 1 (some .boolean) rm_own_isa #[(.ref a)] ((a, own_ob Z "com/example/cotenant/cotenant/core/lease/LeaseRequest" [("id", "J", (.long id_)), ("arrival", "D", (.double ar)), ("arrivalKnown", "Z", (.int kn)), ("vms", "I", (.int vs_)), ("memoryMb", "I", (.int mb)), ("duration", "D", (.double du)), ("deadline", "D", (.double dl)), ("origin", "Lcom/example/cotenant/cotenant/core/lease/LeaseRequest$Origin;", (.ref og)), ("type", "Lcom/example/cotenant/cotenant/core/lease/LeaseRequest$Type;", (.ref tp))]) :: L) (fun v M => v = some (.int (if 0 < vs_ then (if FP.dcmp du 0 = some .gt then (if kn = 0 then (1) else (0)) else (1)) else (1))) ∧ M = (a, own_ob Z "com/example/cotenant/cotenant/core/lease/LeaseRequest" [("id", "J", (.long id_)), ("arrival", "D", (.double ar)), ("arrivalKnown", "Z", (.int kn)), ("vms", "I", (.int vs_)), ("memoryMb", "I", (.int mb)), ("duration", "D", (.double du)), ("deadline", "D", (.double dl)), ("origin", "Lcom/example/cotenant/cotenant/core/lease/LeaseRequest$Origin;", (.ref og)), ("type", "Lcom/example/cotenant/cotenant/core/lease/LeaseRequest$Type;", (.ref tp))]) :: L) := by
  refine own_con (ls := #[.val (.ref a)]) (plainFor_of_name own_pn3) (fun m => own_ent m rfl) ?_
  intro p e s m below meth c T C X
  refine k_aloadN C X d_prog_67_method_3_code_0 rfl rfl rfl ?_
  refine k_getfield C X d_prog_67_method_3_code_1 rfl (host := "") (Or.inl (hw _ (List.mem_of_getElem? (i := 56) rfl))) (own_fL (ix := 0) (j := 3) rfl rfl) (fun T X => ?_)
  suffices J4_28 : ∀ (T' : State) (y28_0 : Int32) (e_y28_0 : y28_0 = (if 0 < vs_ then (if FP.dcmp du 0 = some .gt then (if kn = 0 then (1) else (0)) else (1)) else (1))) (X' : own_S p l e rm_own_isa s m #[(.ref a)] below meth c Z T' ((a, own_ob Z "com/example/cotenant/cotenant/core/lease/LeaseRequest" [("id", "J", (.long id_)), ("arrival", "D", (.double ar)), ("arrivalKnown", "Z", (.int kn)), ("vms", "I", (.int vs_)), ("memoryMb", "I", (.int mb)), ("duration", "D", (.double du)), ("deadline", "D", (.double dl)), ("origin", "Lcom/example/cotenant/cotenant/core/lease/LeaseRequest$Origin;", (.ref og)), ("type", "Lcom/example/cotenant/cotenant/core/lease/LeaseRequest$Type;", (.ref tp))]) :: L) 0 0), own_Go p.tables e below (own_E Z s rm_own_isa (fun v M => v = some (.int (if 0 < vs_ then (if FP.dcmp du 0 = some .gt then (if kn = 0 then (1) else (0)) else (1)) else (1))) ∧ M = (a, own_ob Z "com/example/cotenant/cotenant/core/lease/LeaseRequest" [("id", "J", (.long id_)), ("arrival", "D", (.double ar)), ("arrivalKnown", "Z", (.int kn)), ("vms", "I", (.int vs_)), ("memoryMb", "I", (.int mb)), ("duration", "D", (.double du)), ("deadline", "D", (.double dl)), ("origin", "Lcom/example/cotenant/cotenant/core/lease/LeaseRequest$Origin;", (.ref og)), ("type", "Lcom/example/cotenant/cotenant/core/lease/LeaseRequest$Type;", (.ref tp))]) :: L)) (T'.setTop (mkF m 28 #[.val (.ref a)] [(.int y28_0)])) by
    refine k_if_le C X d_prog_67_method_3_code_4 rfl (tpc := 23) rfl (fun h4 => ?_) (fun h4 => ?_)
    · skip
      refine k_iconst C X d_prog_67_method_3_code_23 rfl (v := 1) rfl ?_
      refine k_goto C X d_prog_67_method_3_code_24 (tpc := 28) rfl ?_
      exact J4_28 _ _ (by rw [if_neg h4]) (X.more (by decide) (by decide))
    · skip
      refine k_aloadN C X d_prog_67_method_3_code_7 rfl rfl rfl ?_
      refine k_getfield C X d_prog_67_method_3_code_8 rfl (host := "") (Or.inl (hw _ (List.mem_of_getElem? (i := 60) rfl))) (own_fL (ix := 0) (j := 5) rfl rfl) (fun T X => ?_)
      refine k_dconst0 C X d_prog_67_method_3_code_11 rfl ?_
      refine k_dcmpl C X d_prog_67_method_3_code_12 rfl ?_
      refine k_ifdl_le C X d_prog_67_method_3_code_13 rfl (tpc := 23) rfl (fun h13 => ?_) (fun h13 => ?_)
      · skip
        refine k_iconst C X d_prog_67_method_3_code_23 rfl (v := 1) rfl ?_
        refine k_goto C X d_prog_67_method_3_code_24 (tpc := 28) rfl ?_
        exact J4_28 _ _ (by rw [if_pos h4, if_neg h13]) (X.more (by decide) (by decide))
      · skip
        refine k_aloadN C X d_prog_67_method_3_code_16 rfl rfl rfl ?_
        refine k_getfield C X d_prog_67_method_3_code_17 rfl (host := "") (Or.inl (hw _ (List.mem_of_getElem? (i := 54) rfl))) (own_fL (ix := 0) (j := 2) rfl rfl) (fun T X => ?_)
        refine k_if_ne C X d_prog_67_method_3_code_20 rfl (tpc := 27) rfl (fun h20 => ?_) (fun h20 => ?_)
        · skip
          refine k_iconst C X d_prog_67_method_3_code_27 rfl (v := 0) rfl ?_
          exact J4_28 _ _ (by rw [if_pos h4, if_pos h13, if_neg h20]) (X.more (by decide) (by decide))
        · skip
          refine k_iconst C X d_prog_67_method_3_code_23 rfl (v := 1) rfl ?_
          refine k_goto C X d_prog_67_method_3_code_24 (tpc := 28) rfl ?_
          exact J4_28 _ _ (by rw [if_pos h4, if_pos h13, if_pos h20]) (X.more (by decide) (by decide))
  intro T y28_0 e_y28_0 X
  exact k_ireturn C X d_prog_67_method_3_code_28 (by simp) (own_bool (by rw [e_y28_0]; (repeat' split) <;> simp)) ⟨by rw [e_y28_0], rfl⟩ (by decide) (by decide)
theorem own_pd3 : parseMethodDescriptor "(JDZIIDDLcom/example/cotenant/cotenant/core/lease/LeaseRequest$Origin;Lcom/example/cotenant/cotenant/core/lease/LeaseRequest$Type;)V" = some ⟨[.long, .double, .boolean, .int, .int, .double, .double, (.object "com/example/cotenant/cotenant/core/lease/LeaseRequest$Origin"), (.object "com/example/cotenant/cotenant/core/lease/LeaseRequest$Type")], none⟩ := by decide +kernel
theorem own_pn4 : plainName "com/example/cotenant/cotenant/core/lease/LeaseRequestIsSetAsidePinLaw" = true := by first | (simp [plainName, overriddenIn]; done) | decide +kernel
set_option maxRecDepth 65536 in
set_option maxHeartbeats 40000000 in
theorem own_law (l : Launch) (Z : State) (a0 : Array Value) (hw : ∀ d ∈ tables_1, d.before a0 Z = true) (x0 : Int64) (x1 x2 x3 x4 x5 : Int32) (aL aE tC tS tM tN : Addr) (hSL : Sta Z Z.heap "com/example/cotenant/cotenant/core/lease/LeaseRequest$Origin" "LOCAL" "Lcom/example/cotenant/cotenant/core/lease/LeaseRequest$Origin;" (.ref aL)) (hSE : Sta Z Z.heap "com/example/cotenant/cotenant/core/lease/LeaseRequest$Origin" "EXTERNAL" "Lcom/example/cotenant/cotenant/core/lease/LeaseRequest$Origin;" (.ref aE)) (hSN : Sta Z Z.heap "com/example/cotenant/cotenant/core/lease/LeaseRequest$Type" "NON_PREEMPTABLE" "Lcom/example/cotenant/cotenant/core/lease/LeaseRequest$Type;" (.ref tN)) (hSC : Sta Z Z.heap "com/example/cotenant/cotenant/core/lease/LeaseRequest$Type" "CANCELLABLE" "Lcom/example/cotenant/cotenant/core/lease/LeaseRequest$Type;" (.ref tC)) (hSS : Sta Z Z.heap "com/example/cotenant/cotenant/core/lease/LeaseRequest$Type" "SUSPENDABLE" "Lcom/example/cotenant/cotenant/core/lease/LeaseRequest$Type;" (.ref tS)) (hSM : Sta Z Z.heap "com/example/cotenant/cotenant/core/lease/LeaseRequest$Type" "MIGRATABLE" "Lcom/example/cotenant/cotenant/core/lease/LeaseRequest$Type;" (.ref tM)) (h_tC : Exa Z Z.heap tC "com/example/cotenant/cotenant/core/lease/LeaseRequest$Type" ∧ Fld Z Z.heap tC "com/example/cotenant/cotenant/core/lease/LeaseRequest$Type" "bindsDeadline" "Z" (.int 0)) (h_tS : Exa Z Z.heap tS "com/example/cotenant/cotenant/core/lease/LeaseRequest$Type" ∧ Fld Z Z.heap tS "com/example/cotenant/cotenant/core/lease/LeaseRequest$Type" "bindsDeadline" "Z" (.int 0)) (h_tM : Exa Z Z.heap tM "com/example/cotenant/cotenant/core/lease/LeaseRequest$Type" ∧ Fld Z Z.heap tM "com/example/cotenant/cotenant/core/lease/LeaseRequest$Type" "bindsDeadline" "Z" (.int 1)) (h_tN : Exa Z Z.heap tN "com/example/cotenant/cotenant/core/lease/LeaseRequest$Type" ∧ Fld Z Z.heap tN "com/example/cotenant/cotenant/core/lease/LeaseRequest$Type" "bindsDeadline" "Z" (.int 1)) (hne : aL ≠ aE) :
    own_ConW l Z x code maxLocals ret room_1 #[(.long x0), (.int x1), (.int x2), (.int x3), (.int x4), (.int x5)] ([]) (fun _ => True) (fun v M G => v = some (.int 1)) := by
  refine own_conW (ls := #[.val (.long x0), .second, .val (.int x1), .val (.int x2), .val (.int x3), .val (.int x4), .val (.int x5), .unset, .unset, .unset, .unset, .unset, .unset, .unset, .unset, .unset, .unset, .unset, .unset, .unset, .unset, .unset, .unset, .unset, .unset, .unset]) (plainFor_of_name own_pn4) (fun m => own_ent m rfl) ?_
  intro p e s m below meth c T C X hJ
  refine k_iload C X at_0 rfl rfl ?_
  refine k_iconst C X at_2 rfl (v := 1) rfl ?_
  refine k_iand C X at_3 rfl ?_
  suffices J4_12 : ∀ (y12_0 : Int32) (e_y12_0 : y12_0 = (if (x5 &&& (1)) = 0 then (0) else (1))), own_Go p.tables e below (own_EW Z s room_1 (fun v M G => v = some (.int 1))) (T.setTop (mkF m 12 #[.val (.long x0), .second, .val (.int x1), .val (.int x2), .val (.int x3), .val (.int x4), .val (.int x5), .unset, .unset, .unset, .unset, .unset, .unset, .unset, .unset, .unset, .unset, .unset, .unset, .unset, .unset, .unset, .unset, .unset, .unset, .unset] [(.int y12_0)])) by
    refine k_if_eq C X at_4 rfl (tpc := 11) rfl (fun h4 => ?_) (fun h4 => ?_)
    · skip
      refine k_iconst C X at_11 rfl (v := 0) rfl ?_
      exact J4_12 _ (by rw [if_pos h4])
    · skip
      refine k_iconst C X at_7 rfl (v := 1) rfl ?_
      refine k_goto C X at_8 (tpc := 12) rfl ?_
      exact J4_12 _ (by rw [if_neg h4])
  intro y12_0 e_y12_0
  refine k_istore C X at_12 rfl (l' := #[.val (.long x0), .second, .val (.int x1), .val (.int x2), .val (.int x3), .val (.int x4), .val (.int x5), .val (.int y12_0), .unset, .unset, .unset, .unset, .unset, .unset, .unset, .unset, .unset, .unset, .unset, .unset, .unset, .unset, .unset, .unset, .unset, .unset]) rfl ?_
  refine k_iload C X at_14 rfl rfl ?_
  refine k_iconst C X at_16 rfl (v := 2) rfl ?_
  refine k_iand C X at_17 rfl ?_
  refine k_if_eq C X at_18 rfl (tpc := 25) rfl (fun h18 => ?_) (fun h18 => ?_)
  · skip
    refine k_iconst C X at_25 rfl (v := 0) rfl ?_
    refine k_istore C X at_26 rfl (l' := #[.val (.long x0), .second, .val (.int x1), .val (.int x2), .val (.int x3), .val (.int x4), .val (.int x5), .val (.int y12_0), .val (.int (0)), .unset, .unset, .unset, .unset, .unset, .unset, .unset, .unset, .unset, .unset, .unset, .unset, .unset, .unset, .unset, .unset, .unset]) rfl ?_
    refine k_iload C X at_28 rfl rfl ?_
    refine k_iconst C X at_30 rfl (v := 2) rfl ?_
    refine k_ishr C X at_31 rfl ?_
    refine k_iconst C X at_32 rfl (v := 3) rfl ?_
    refine k_iand C X at_33 rfl ?_
    refine k_istore C X at_34 rfl (l' := #[.val (.long x0), .second, .val (.int x1), .val (.int x2), .val (.int x3), .val (.int x4), .val (.int x5), .val (.int y12_0), .val (.int (0)), .val (.int ((x5 >>> ((2) &&& 31 : Int32) : Int32) &&& (3))), .unset, .unset, .unset, .unset, .unset, .unset, .unset, .unset, .unset, .unset, .unset, .unset, .unset, .unset, .unset, .unset]) rfl ?_
    obtain ⟨tt, e_tt⟩ : ∃ z, z = (((x5 >>> ((2) &&& 31 : Int32) : Int32) &&& (3)) : Int32) := ⟨_, rfl⟩
    rw [← e_tt]
    refine k_iload C X at_36 rfl rfl ?_
    refine k_bipush C X at_38 rfl (v := 16) rfl ?_
    refine k_iand C X at_40 rfl ?_
    suffices J41_49 : ∀ (y49_0 : Int32) (e_y49_0 : y49_0 = (if (x5 &&& (16)) = 0 then (0) else (1))), own_Go p.tables e below (own_EW Z s room_1 (fun v M G => v = some (.int 1))) (T.setTop (mkF m 49 #[.val (.long x0), .second, .val (.int x1), .val (.int x2), .val (.int x3), .val (.int x4), .val (.int x5), .val (.int y12_0), .val (.int (0)), .val (.int tt), .unset, .unset, .unset, .unset, .unset, .unset, .unset, .unset, .unset, .unset, .unset, .unset, .unset, .unset, .unset, .unset] [(.int y49_0)])) by
      refine k_if_eq C X at_41 rfl (tpc := 48) rfl (fun h41 => ?_) (fun h41 => ?_)
      · skip
        refine k_iconst C X at_48 rfl (v := 0) rfl ?_
        exact J41_49 _ (by rw [if_pos h41])
      · skip
        refine k_iconst C X at_44 rfl (v := 1) rfl ?_
        refine k_goto C X at_45 (tpc := 49) rfl ?_
        exact J41_49 _ (by rw [if_neg h41])
    intro y49_0 e_y49_0
    refine k_istore C X at_49 rfl (l' := #[.val (.long x0), .second, .val (.int x1), .val (.int x2), .val (.int x3), .val (.int x4), .val (.int x5), .val (.int y12_0), .val (.int (0)), .val (.int tt), .val (.int y49_0), .unset, .unset, .unset, .unset, .unset, .unset, .unset, .unset, .unset, .unset, .unset, .unset, .unset, .unset, .unset]) rfl ?_
    refine k_iload C X at_51 rfl rfl ?_
    refine k_bipush C X at_53 rfl (v := 32) rfl ?_
    refine k_iand C X at_55 rfl ?_
    suffices J56_64 : ∀ (y64_0 : Int32) (e_y64_0 : y64_0 = (if (x5 &&& (32)) = 0 then (0) else (1))), own_Go p.tables e below (own_EW Z s room_1 (fun v M G => v = some (.int 1))) (T.setTop (mkF m 64 #[.val (.long x0), .second, .val (.int x1), .val (.int x2), .val (.int x3), .val (.int x4), .val (.int x5), .val (.int y12_0), .val (.int (0)), .val (.int tt), .val (.int y49_0), .unset, .unset, .unset, .unset, .unset, .unset, .unset, .unset, .unset, .unset, .unset, .unset, .unset, .unset, .unset] [(.int y64_0)])) by
      refine k_if_eq C X at_56 rfl (tpc := 63) rfl (fun h56 => ?_) (fun h56 => ?_)
      · skip
        refine k_iconst C X at_63 rfl (v := 0) rfl ?_
        exact J56_64 _ (by rw [if_pos h56])
      · skip
        refine k_iconst C X at_59 rfl (v := 1) rfl ?_
        refine k_goto C X at_60 (tpc := 64) rfl ?_
        exact J56_64 _ (by rw [if_neg h56])
    intro y64_0 e_y64_0
    refine k_istore C X at_64 rfl (l' := #[.val (.long x0), .second, .val (.int x1), .val (.int x2), .val (.int x3), .val (.int x4), .val (.int x5), .val (.int y12_0), .val (.int (0)), .val (.int tt), .val (.int y49_0), .val (.int y64_0), .unset, .unset, .unset, .unset, .unset, .unset, .unset, .unset, .unset, .unset, .unset, .unset, .unset, .unset]) rfl ?_
    refine k_iloadN C X at_66 rfl rfl ?_
    refine k_i2d C X at_67 rfl ?_
    refine k_dstore C X at_68 rfl (l' := #[.val (.long x0), .second, .val (.int x1), .val (.int x2), .val (.int x3), .val (.int x4), .val (.int x5), .val (.int y12_0), .val (.int (0)), .val (.int tt), .val (.int y49_0), .val (.int y64_0), .val (.double (FP.i2d x1)), .second, .unset, .unset, .unset, .unset, .unset, .unset, .unset, .unset, .unset, .unset, .unset, .unset]) rfl ?_
    refine k_iload C X at_70 rfl rfl ?_
    refine k_ldc C X at_72 rfl (hw _ (List.mem_of_getElem? (i := 0) rfl)) ?_
    refine k_iand C X at_74 rfl ?_
    refine k_iconst C X at_75 rfl (v := 1) rfl ?_
    refine k_iadd C X at_76 rfl ?_
    refine k_istore C X at_77 rfl (l' := #[.val (.long x0), .second, .val (.int x1), .val (.int x2), .val (.int x3), .val (.int x4), .val (.int x5), .val (.int y12_0), .val (.int (0)), .val (.int tt), .val (.int y49_0), .val (.int y64_0), .val (.double (FP.i2d x1)), .second, .val (.int ((x3 &&& 1073741823) + (1))), .unset, .unset, .unset, .unset, .unset, .unset, .unset, .unset, .unset, .unset, .unset]) rfl ?_
    refine k_iload C X at_79 rfl rfl ?_
    refine k_i2d C X at_81 rfl ?_
    refine k_ldc2d C X at_82 rfl (hw _ (List.mem_of_getElem? (i := 1) rfl)) ?_
    refine k_ddiv C X at_85 rfl (Jvm.Free.Fl.ddiv_out (Jvm.Free.Fl.i2d_fin x4).noNaN (by unfold Jvm.Free.Fl.Fin64; decide +kernel) (by unfold Jvm.Free.Fl.Nz64; decide +kernel)) (fun d85 ed85 => ?_)
    refine k_dstore C X at_86 rfl (l' := #[.val (.long x0), .second, .val (.int x1), .val (.int x2), .val (.int x3), .val (.int x4), .val (.int x5), .val (.int y12_0), .val (.int (0)), .val (.int tt), .val (.int y49_0), .val (.int y64_0), .val (.double (FP.i2d x1)), .second, .val (.int ((x3 &&& 1073741823) + (1))), .val (.double d85), .second, .unset, .unset, .unset, .unset, .unset, .unset, .unset, .unset, .unset]) rfl ?_
    refine k_iload C X at_88 rfl rfl ?_
    suffices J90_101 : ∀ (y101_0 : UInt64) (e_y101_0 : y101_0 = (if y64_0 = 0 then d85 else (FP.dneg d85))), own_Go p.tables e below (own_EW Z s room_1 (fun v M G => v = some (.int 1))) (T.setTop (mkF m 101 #[.val (.long x0), .second, .val (.int x1), .val (.int x2), .val (.int x3), .val (.int x4), .val (.int x5), .val (.int y12_0), .val (.int (0)), .val (.int tt), .val (.int y49_0), .val (.int y64_0), .val (.double (FP.i2d x1)), .second, .val (.int ((x3 &&& 1073741823) + (1))), .val (.double d85), .second, .unset, .unset, .unset, .unset, .unset, .unset, .unset, .unset, .unset] [(.double y101_0)])) by
      refine k_if_eq C X at_90 rfl (tpc := 99) rfl (fun h90 => ?_) (fun h90 => ?_)
      · skip
        refine k_dload C X at_99 rfl rfl ?_
        exact J90_101 _ (by rw [if_pos h90])
      · skip
        refine k_dload C X at_93 rfl rfl ?_
        refine k_dneg C X at_95 rfl ?_
        refine k_goto C X at_96 (tpc := 101) rfl ?_
        exact J90_101 _ (by rw [if_neg h90])
    intro y101_0 e_y101_0
    refine k_dstore C X at_101 rfl (l' := #[.val (.long x0), .second, .val (.int x1), .val (.int x2), .val (.int x3), .val (.int x4), .val (.int x5), .val (.int y12_0), .val (.int (0)), .val (.int tt), .val (.int y49_0), .val (.int y64_0), .val (.double (FP.i2d x1)), .second, .val (.int ((x3 &&& 1073741823) + (1))), .val (.double d85), .second, .val (.double y101_0), .second, .unset, .unset, .unset, .unset, .unset, .unset, .unset]) rfl ?_
    refine k_iload C X at_103 rfl rfl ?_
    refine k_if_eq C X at_105 rfl (tpc := 126) rfl (fun _ => ?_) (fun hc => (absurd hc (by decide) : False).elim)
    refine k_getstatic C X at_126 rfl (hw _ (List.mem_of_getElem? (i := 2) rfl)) hSE (fun T X => ?_)
    refine k_astore C X at_129 rfl rfl (l' := #[.val (.long x0), .second, .val (.int x1), .val (.int x2), .val (.int x3), .val (.int x4), .val (.int x5), .val (.int y12_0), .val (.int (0)), .val (.int tt), .val (.int y49_0), .val (.int y64_0), .val (.double (FP.i2d x1)), .second, .val (.int ((x3 &&& 1073741823) + (1))), .val (.double d85), .second, .val (.double y101_0), .second, .val (.ref aE), .unset, .unset, .unset, .unset, .unset, .unset]) rfl ?_
    refine k_iload C X at_131 rfl rfl ?_
    refine k_if_ne C X at_133 rfl (tpc := 144) rfl (fun h133 => ?_) (fun h133 => ?_)
    · skip
      refine k_iload C X at_144 rfl rfl ?_
      refine k_iconst C X at_146 rfl (v := 1) rfl ?_
      refine k_icmp_ne C X at_147 rfl (tpc := 158) rfl (fun h147 => ?_) (fun h147 => ?_)
      · skip
        refine k_iload C X at_158 rfl rfl ?_
        refine k_iconst C X at_160 rfl (v := 2) rfl ?_
        refine k_icmp_ne C X at_161 rfl (tpc := 172) rfl (fun h161 => ?_) (fun h161 => ?_)
        · skip
          refine k_getstatic C X at_172 rfl (hw _ (List.mem_of_getElem? (i := 74) rfl)) hSN (fun T X => ?_)
          refine k_astore C X at_175 rfl rfl (l' := #[.val (.long x0), .second, .val (.int x1), .val (.int x2), .val (.int x3), .val (.int x4), .val (.int x5), .val (.int y12_0), .val (.int (0)), .val (.int tt), .val (.int y49_0), .val (.int y64_0), .val (.double (FP.i2d x1)), .second, .val (.int ((x3 &&& 1073741823) + (1))), .val (.double d85), .second, .val (.double y101_0), .second, .val (.ref aE), .val (.ref tN), .unset, .unset, .unset, .unset, .unset]) rfl ?_
          refine k_iload C X at_177 rfl rfl ?_
          refine k_iconst C X at_179 rfl (v := 2) rfl ?_
          refine k_icmp_ge C X at_180 rfl (tpc := 196) rfl (fun _ => ?_) (fun hc => (own_t3 e_tt h133 h147 h161 hc : False).elim)
          refine k_iload C X at_196 rfl rfl ?_
          refine k_bipush C X at_198 rfl (v := 8) rfl ?_
          refine k_ishr C X at_200 rfl ?_
          refine k_i2d C X at_201 rfl ?_
          refine k_dstore C X at_202 rfl (l' := #[.val (.long x0), .second, .val (.int x1), .val (.int x2), .val (.int x3), .val (.int x4), .val (.int x5), .val (.int y12_0), .val (.int (0)), .val (.int tt), .val (.int y49_0), .val (.int y64_0), .val (.double (FP.i2d x1)), .second, .val (.int ((x3 &&& 1073741823) + (1))), .val (.double d85), .second, .val (.double y101_0), .second, .val (.ref aE), .val (.ref tN), .val (.double (FP.i2d (x5 >>> ((8) &&& 31 : Int32) : Int32))), .second, .unset, .unset, .unset]) rfl ?_
          have hkn : y12_0 = 0 ∨ y12_0 = 1 := by
            rw [e_y12_0]; split
            · exact Or.inl rfl
            · exact Or.inr rfl
          have hdn := own_dun ed85 e_y101_0
          have hdf := own_duf ed85 e_y101_0
          refine k_new C X at_204 rfl (hw _ (List.mem_of_getElem? (i := 8) rfl)) (hw _ (List.mem_of_getElem? (i := 9) rfl)) (hw _ (List.mem_of_getElem? (i := 10) rfl)) (own_lay_LeaseRequest hw) (fs := [("id", "J", (.long (0))), ("arrival", "D", (.double 0)), ("arrivalKnown", "Z", (.int (0))), ("vms", "I", (.int (0))), ("memoryMb", "I", (.int (0))), ("duration", "D", (.double 0)), ("deadline", "D", (.double 0)), ("origin", "Lcom/example/cotenant/cotenant/core/lease/LeaseRequest$Origin;", .null), ("type", "Lcom/example/cotenant/cotenant/core/lease/LeaseRequest$Type;", .null)]) rfl (by decide) (by decide) (fun T o204 X => ?_)
          refine k_dup C X at_207 rfl rfl ?_
          refine k_lloadN C X at_208 rfl rfl ?_
          refine k_dload C X at_209 rfl rfl ?_
          refine k_iload C X at_211 rfl rfl ?_
          refine k_iloadN C X at_213 rfl rfl ?_
          refine k_iload C X at_214 rfl rfl ?_
          refine k_dload C X at_216 rfl rfl ?_
          refine k_dload C X at_218 rfl rfl ?_
          refine k_aload C X at_220 rfl rfl rfl ?_
          refine k_aload C X at_222 rfl rfl rfl ?_
          refine k_initW (vm0 := s.vm) (G := []) C X own_W.start (fun _ _ => trivial) at_224 rfl rfl (hw _ (List.mem_of_getElem? (i := 11) rfl)) (hw _ (List.mem_of_getElem? (i := 12) rfl)) (hw _ (List.mem_of_getElem? (i := 10) rfl)) (hw _ (List.mem_of_getElem? (i := 13) rfl)) (by decide) (own_ct4 l Z a0 hw o204 aL aE tN tN x0 (FP.i2d x1) y101_0 (FP.i2d (x5 >>> ((8) &&& 31 : Int32) : Int32)) y12_0 x2 ((x3 &&& 1073741823) + (1)) hSL hSE hSN hne hkn (own_mb _) (own_i2dnn _) hdn (own_far _) hdf (own_i2dnn _) (own_far _) (own_i2dinf _) h_tN ([])) (W := 1) (argsL := [(.long x0), (.double (FP.i2d x1)), (.int y12_0), (.int x2), (.int ((x3 &&& 1073741823) + (1))), (.double y101_0), (.double (FP.i2d (x5 >>> ((8) &&& 31 : Int32) : Int32))), (.ref aE), (.ref tN)]) (rest := [(.ref o204)]) rfl rfl rfl own_pd3 rfl (Nat.le_of_eq rfl) (by decide) (by decide) (by decide) (by decide) (fun v T M vmw1 Gw1 hQ C Ww1 X => ?_)
          replace Ww1 : own_W s vmw1 Gw1 := Ww1
          obtain ⟨rfl, rfl⟩ := hQ
          replace X : own_S p l e room_1 (s.setVm vmw1) m #[(.long x0), (.int x1), (.int x2), (.int x3), (.int x4), (.int x5)] below meth c Z T ((o204, own_ob Z "com/example/cotenant/cotenant/core/lease/LeaseRequest" [("id", "J", (.long x0)), ("arrival", "D", (.double (FP.i2d x1))), ("arrivalKnown", "Z", (.int y12_0)), ("vms", "I", (.int x2)), ("memoryMb", "I", (.int ((x3 &&& 1073741823) + (1)))), ("duration", "D", (.double y101_0)), ("deadline", "D", (.double (FP.i2d (x5 >>> ((8) &&& 31 : Int32) : Int32)))), ("origin", "Lcom/example/cotenant/cotenant/core/lease/LeaseRequest$Origin;", (.ref aE)), ("type", "Lcom/example/cotenant/cotenant/core/lease/LeaseRequest$Type;", (.ref tN))]) :: Gw1) 5 57 := X
          refine k_astore C X at_227 rfl rfl (l' := #[.val (.long x0), .second, .val (.int x1), .val (.int x2), .val (.int x3), .val (.int x4), .val (.int x5), .val (.int y12_0), .val (.int (0)), .val (.int tt), .val (.int y49_0), .val (.int y64_0), .val (.double (FP.i2d x1)), .second, .val (.int ((x3 &&& 1073741823) + (1))), .val (.double d85), .second, .val (.double y101_0), .second, .val (.ref aE), .val (.ref tN), .val (.double (FP.i2d (x5 >>> ((8) &&& 31 : Int32) : Int32))), .second, .val (.ref o204), .unset, .unset]) rfl ?_
          refine k_iload C X at_229 rfl rfl ?_
          suffices J231_257 : ∀ (y257_0 : Int32) (e_y257_0 : y257_0 = (if y64_0 = 0 then (if 0 < x4 then (1) else (0)) else (if x4 < 0 then (1) else (0)))), own_Go p.tables e below (own_EW Z s room_1 (fun v M G => v = some (.int 1))) (T.setTop (mkF m 257 #[.val (.long x0), .second, .val (.int x1), .val (.int x2), .val (.int x3), .val (.int x4), .val (.int x5), .val (.int y12_0), .val (.int (0)), .val (.int tt), .val (.int y49_0), .val (.int y64_0), .val (.double (FP.i2d x1)), .second, .val (.int ((x3 &&& 1073741823) + (1))), .val (.double d85), .second, .val (.double y101_0), .second, .val (.ref aE), .val (.ref tN), .val (.double (FP.i2d (x5 >>> ((8) &&& 31 : Int32) : Int32))), .second, .val (.ref o204), .unset, .unset] [(.int y257_0)])) by
            refine k_if_eq C X at_231 rfl (tpc := 247) rfl (fun h231 => ?_) (fun h231 => ?_)
            · skip
              refine k_iload C X at_247 rfl rfl ?_
              refine k_if_le C X at_249 rfl (tpc := 256) rfl (fun h249 => ?_) (fun h249 => ?_)
              · skip
                refine k_iconst C X at_256 rfl (v := 0) rfl ?_
                exact J231_257 _ (by rw [if_pos h231, if_neg h249])
              · skip
                refine k_iconst C X at_252 rfl (v := 1) rfl ?_
                refine k_goto C X at_253 (tpc := 257) rfl ?_
                exact J231_257 _ (by rw [if_pos h231, if_pos h249])
            · skip
              refine k_iload C X at_234 rfl rfl ?_
              refine k_if_ge C X at_236 rfl (tpc := 243) rfl (fun h236 => ?_) (fun h236 => ?_)
              · skip
                refine k_iconst C X at_243 rfl (v := 0) rfl ?_
                refine k_goto C X at_244 (tpc := 257) rfl ?_
                exact J231_257 _ (by rw [if_neg h231, if_neg h236])
              · skip
                refine k_iconst C X at_239 rfl (v := 1) rfl ?_
                refine k_goto C X at_240 (tpc := 257) rfl ?_
                exact J231_257 _ (by rw [if_neg h231, if_pos h236])
          intro y257_0 e_y257_0
          refine k_istore C X at_257 rfl (l' := #[.val (.long x0), .second, .val (.int x1), .val (.int x2), .val (.int x3), .val (.int x4), .val (.int x5), .val (.int y12_0), .val (.int (0)), .val (.int tt), .val (.int y49_0), .val (.int y64_0), .val (.double (FP.i2d x1)), .second, .val (.int ((x3 &&& 1073741823) + (1))), .val (.double d85), .second, .val (.double y101_0), .second, .val (.ref aE), .val (.ref tN), .val (.double (FP.i2d (x5 >>> ((8) &&& 31 : Int32) : Int32))), .second, .val (.ref o204), .val (.int y257_0), .unset]) rfl ?_
          refine k_iloadN C X at_259 rfl rfl ?_
          suffices J260_292 : ∀ (z292_25 : Int32) (e_z292_25 : z292_25 = (if 0 < x2 then (if y257_0 = 0 then (1) else (if y12_0 = 0 then (1) else (0))) else (1))), own_Go p.tables e below (own_EW Z s room_1 (fun v M G => v = some (.int 1))) (T.setTop (mkF m 292 #[.val (.long x0), .second, .val (.int x1), .val (.int x2), .val (.int x3), .val (.int x4), .val (.int x5), .val (.int y12_0), .val (.int (0)), .val (.int tt), .val (.int y49_0), .val (.int y64_0), .val (.double (FP.i2d x1)), .second, .val (.int ((x3 &&& 1073741823) + (1))), .val (.double d85), .second, .val (.double y101_0), .second, .val (.ref aE), .val (.ref tN), .val (.double (FP.i2d (x5 >>> ((8) &&& 31 : Int32) : Int32))), .second, .val (.ref o204), .val (.int y257_0), .val (.int z292_25)] [])) by
            refine k_if_gt C X at_260 rfl (tpc := 269) rfl (fun h260 => ?_) (fun h260 => ?_)
            · skip
              refine k_iload C X at_269 rfl rfl ?_
              refine k_if_ne C X at_271 rfl (tpc := 280) rfl (fun h271 => ?_) (fun h271 => ?_)
              · skip
                refine k_iload C X at_280 rfl rfl ?_
                refine k_if_ne C X at_282 rfl (tpc := 289) rfl (fun h282 => ?_) (fun h282 => ?_)
                · skip
                  refine k_iconst C X at_289 rfl (v := 0) rfl ?_
                  refine k_istore C X at_290 rfl (l' := #[.val (.long x0), .second, .val (.int x1), .val (.int x2), .val (.int x3), .val (.int x4), .val (.int x5), .val (.int y12_0), .val (.int (0)), .val (.int tt), .val (.int y49_0), .val (.int y64_0), .val (.double (FP.i2d x1)), .second, .val (.int ((x3 &&& 1073741823) + (1))), .val (.double d85), .second, .val (.double y101_0), .second, .val (.ref aE), .val (.ref tN), .val (.double (FP.i2d (x5 >>> ((8) &&& 31 : Int32) : Int32))), .second, .val (.ref o204), .val (.int y257_0), .val (.int (0))]) rfl ?_
                  exact J260_292 _ (by rw [if_pos h260, if_neg h271, if_neg h282])
                · skip
                  refine k_iconst C X at_285 rfl (v := 1) rfl ?_
                  refine k_goto C X at_286 (tpc := 290) rfl ?_
                  refine k_istore C X at_290 rfl (l' := #[.val (.long x0), .second, .val (.int x1), .val (.int x2), .val (.int x3), .val (.int x4), .val (.int x5), .val (.int y12_0), .val (.int (0)), .val (.int tt), .val (.int y49_0), .val (.int y64_0), .val (.double (FP.i2d x1)), .second, .val (.int ((x3 &&& 1073741823) + (1))), .val (.double d85), .second, .val (.double y101_0), .second, .val (.ref aE), .val (.ref tN), .val (.double (FP.i2d (x5 >>> ((8) &&& 31 : Int32) : Int32))), .second, .val (.ref o204), .val (.int y257_0), .val (.int (1))]) rfl ?_
                  exact J260_292 _ (by rw [if_pos h260, if_neg h271, if_pos h282])
              · skip
                refine k_iconst C X at_274 rfl (v := 1) rfl ?_
                refine k_istore C X at_275 rfl (l' := #[.val (.long x0), .second, .val (.int x1), .val (.int x2), .val (.int x3), .val (.int x4), .val (.int x5), .val (.int y12_0), .val (.int (0)), .val (.int tt), .val (.int y49_0), .val (.int y64_0), .val (.double (FP.i2d x1)), .second, .val (.int ((x3 &&& 1073741823) + (1))), .val (.double d85), .second, .val (.double y101_0), .second, .val (.ref aE), .val (.ref tN), .val (.double (FP.i2d (x5 >>> ((8) &&& 31 : Int32) : Int32))), .second, .val (.ref o204), .val (.int y257_0), .val (.int (1))]) rfl ?_
                refine k_goto C X at_277 (tpc := 292) rfl ?_
                exact J260_292 _ (by rw [if_pos h260, if_pos h271])
            · skip
              refine k_iconst C X at_263 rfl (v := 1) rfl ?_
              refine k_istore C X at_264 rfl (l' := #[.val (.long x0), .second, .val (.int x1), .val (.int x2), .val (.int x3), .val (.int x4), .val (.int x5), .val (.int y12_0), .val (.int (0)), .val (.int tt), .val (.int y49_0), .val (.int y64_0), .val (.double (FP.i2d x1)), .second, .val (.int ((x3 &&& 1073741823) + (1))), .val (.double d85), .second, .val (.double y101_0), .second, .val (.ref aE), .val (.ref tN), .val (.double (FP.i2d (x5 >>> ((8) &&& 31 : Int32) : Int32))), .second, .val (.ref o204), .val (.int y257_0), .val (.int (1))]) rfl ?_
              refine k_goto C X at_266 (tpc := 292) rfl ?_
              exact J260_292 _ (by rw [if_neg h260])
          intro z292_25 e_z292_25
          refine k_aload C X at_292 rfl rfl rfl ?_
          refine k_virtual C X at_294 rfl (hw _ (List.mem_of_getElem? (i := 68) rfl)) (hw _ (List.mem_of_getElem? (i := 69) rfl)) (hw _ (List.mem_of_getElem? (i := 10) rfl)) (hw _ (List.mem_of_getElem? (i := 72) rfl)) (hw _ (List.mem_of_getElem? (i := 71) rfl)) (hw _ (List.mem_of_getElem? (i := 70) rfl)) (by decide) (own_nf C.2.2.2.1 (hw _ (List.mem_of_getElem? (i := 71) rfl))) (own_eL (ix := 0) rfl) (own_isa l Z a0 hw o204 aE tN x0 (FP.i2d x1) y101_0 (FP.i2d (x5 >>> ((8) &&& 31 : Int32) : Int32)) y12_0 x2 ((x3 &&& 1073741823) + (1)) (Gw1)) (W := 0) (argsL := []) (rest := []) rfl rfl rfl own_pd2 rfl (Nat.le_of_eq rfl) (by decide) (by decide) (by decide) (by decide) (fun v T M hQ X => ?_)
          obtain ⟨rfl, rfl⟩ := hQ
          obtain ⟨got, e_got⟩ : ∃ z : Int32, z = (if 0 < x2 then (if FP.dcmp y101_0 0 = some .gt then (if y12_0 = 0 then (1) else (0)) else (1)) else (1)) := ⟨_, rfl⟩
          rw [← e_got]
          refine k_iload C X at_297 rfl rfl ?_
          refine k_icmp_ne C X at_299 rfl (tpc := 306) rfl (fun hc => (hc (own_set ed85 e_y101_0 e_y257_0 e_got e_z292_25) : False).elim) (fun _ => ?_)
          refine k_iconst C X at_302 rfl (v := 1) rfl ?_
          refine k_goto C X at_303 (tpc := 307) rfl ?_
          exact k_ireturnW (M := ([(o204, own_ob Z "com/example/cotenant/cotenant/core/lease/LeaseRequest" [("id", "J", (.long x0)), ("arrival", "D", (.double (FP.i2d x1))), ("arrivalKnown", "Z", (.int y12_0)), ("vms", "I", (.int x2)), ("memoryMb", "I", (.int ((x3 &&& 1073741823) + (1)))), ("duration", "D", (.double y101_0)), ("deadline", "D", (.double (FP.i2d (x5 >>> ((8) &&& 31 : Int32) : Int32)))), ("origin", "Lcom/example/cotenant/cotenant/core/lease/LeaseRequest$Origin;", (.ref aE)), ("type", "Lcom/example/cotenant/cotenant/core/lease/LeaseRequest$Type;", (.ref tN))])])) (G := Gw1) C X rfl Ww1 at_307 (by simp) rfl rfl (by decide) (by decide)
        · skip
          refine k_getstatic C X at_164 rfl (hw _ (List.mem_of_getElem? (i := 79) rfl)) hSM (fun T X => ?_)
          refine k_astore C X at_167 rfl rfl (l' := #[.val (.long x0), .second, .val (.int x1), .val (.int x2), .val (.int x3), .val (.int x4), .val (.int x5), .val (.int y12_0), .val (.int (0)), .val (.int tt), .val (.int y49_0), .val (.int y64_0), .val (.double (FP.i2d x1)), .second, .val (.int ((x3 &&& 1073741823) + (1))), .val (.double d85), .second, .val (.double y101_0), .second, .val (.ref aE), .val (.ref tM), .unset, .unset, .unset, .unset, .unset]) rfl ?_
          refine k_goto C X at_169 (tpc := 177) rfl ?_
          refine k_iload C X at_177 rfl rfl ?_
          refine k_iconst C X at_179 rfl (v := 2) rfl ?_
          refine k_icmp_ge C X at_180 rfl (tpc := 196) rfl (fun _ => ?_) (fun hc => (absurd hc (by rw [h161]; decide) : False).elim)
          refine k_iload C X at_196 rfl rfl ?_
          refine k_bipush C X at_198 rfl (v := 8) rfl ?_
          refine k_ishr C X at_200 rfl ?_
          refine k_i2d C X at_201 rfl ?_
          refine k_dstore C X at_202 rfl (l' := #[.val (.long x0), .second, .val (.int x1), .val (.int x2), .val (.int x3), .val (.int x4), .val (.int x5), .val (.int y12_0), .val (.int (0)), .val (.int tt), .val (.int y49_0), .val (.int y64_0), .val (.double (FP.i2d x1)), .second, .val (.int ((x3 &&& 1073741823) + (1))), .val (.double d85), .second, .val (.double y101_0), .second, .val (.ref aE), .val (.ref tM), .val (.double (FP.i2d (x5 >>> ((8) &&& 31 : Int32) : Int32))), .second, .unset, .unset, .unset]) rfl ?_
          have hkn : y12_0 = 0 ∨ y12_0 = 1 := by
            rw [e_y12_0]; split
            · exact Or.inl rfl
            · exact Or.inr rfl
          have hdn := own_dun ed85 e_y101_0
          have hdf := own_duf ed85 e_y101_0
          refine k_new C X at_204 rfl (hw _ (List.mem_of_getElem? (i := 8) rfl)) (hw _ (List.mem_of_getElem? (i := 9) rfl)) (hw _ (List.mem_of_getElem? (i := 10) rfl)) (own_lay_LeaseRequest hw) (fs := [("id", "J", (.long (0))), ("arrival", "D", (.double 0)), ("arrivalKnown", "Z", (.int (0))), ("vms", "I", (.int (0))), ("memoryMb", "I", (.int (0))), ("duration", "D", (.double 0)), ("deadline", "D", (.double 0)), ("origin", "Lcom/example/cotenant/cotenant/core/lease/LeaseRequest$Origin;", .null), ("type", "Lcom/example/cotenant/cotenant/core/lease/LeaseRequest$Type;", .null)]) rfl (by decide) (by decide) (fun T o204 X => ?_)
          refine k_dup C X at_207 rfl rfl ?_
          refine k_lloadN C X at_208 rfl rfl ?_
          refine k_dload C X at_209 rfl rfl ?_
          refine k_iload C X at_211 rfl rfl ?_
          refine k_iloadN C X at_213 rfl rfl ?_
          refine k_iload C X at_214 rfl rfl ?_
          refine k_dload C X at_216 rfl rfl ?_
          refine k_dload C X at_218 rfl rfl ?_
          refine k_aload C X at_220 rfl rfl rfl ?_
          refine k_aload C X at_222 rfl rfl rfl ?_
          refine k_initW (vm0 := s.vm) (G := []) C X own_W.start (fun _ _ => trivial) at_224 rfl rfl (hw _ (List.mem_of_getElem? (i := 11) rfl)) (hw _ (List.mem_of_getElem? (i := 12) rfl)) (hw _ (List.mem_of_getElem? (i := 10) rfl)) (hw _ (List.mem_of_getElem? (i := 13) rfl)) (by decide) (own_ct4 l Z a0 hw o204 aL aE tN tM x0 (FP.i2d x1) y101_0 (FP.i2d (x5 >>> ((8) &&& 31 : Int32) : Int32)) y12_0 x2 ((x3 &&& 1073741823) + (1)) hSL hSE hSN hne hkn (own_mb _) (own_i2dnn _) hdn (own_far _) hdf (own_i2dnn _) (own_far _) (own_i2dinf _) h_tM ([])) (W := 1) (argsL := [(.long x0), (.double (FP.i2d x1)), (.int y12_0), (.int x2), (.int ((x3 &&& 1073741823) + (1))), (.double y101_0), (.double (FP.i2d (x5 >>> ((8) &&& 31 : Int32) : Int32))), (.ref aE), (.ref tM)]) (rest := [(.ref o204)]) rfl rfl rfl own_pd3 rfl (Nat.le_of_eq rfl) (by decide) (by decide) (by decide) (by decide) (fun v T M vmw2 Gw2 hQ C Ww2 X => ?_)
          replace Ww2 : own_W s vmw2 Gw2 := Ww2
          obtain ⟨rfl, rfl⟩ := hQ
          replace X : own_S p l e room_1 (s.setVm vmw2) m #[(.long x0), (.int x1), (.int x2), (.int x3), (.int x4), (.int x5)] below meth c Z T ((o204, own_ob Z "com/example/cotenant/cotenant/core/lease/LeaseRequest" [("id", "J", (.long x0)), ("arrival", "D", (.double (FP.i2d x1))), ("arrivalKnown", "Z", (.int y12_0)), ("vms", "I", (.int x2)), ("memoryMb", "I", (.int ((x3 &&& 1073741823) + (1)))), ("duration", "D", (.double y101_0)), ("deadline", "D", (.double (FP.i2d (x5 >>> ((8) &&& 31 : Int32) : Int32)))), ("origin", "Lcom/example/cotenant/cotenant/core/lease/LeaseRequest$Origin;", (.ref aE)), ("type", "Lcom/example/cotenant/cotenant/core/lease/LeaseRequest$Type;", (.ref tM))]) :: Gw2) 5 57 := X
          refine k_astore C X at_227 rfl rfl (l' := #[.val (.long x0), .second, .val (.int x1), .val (.int x2), .val (.int x3), .val (.int x4), .val (.int x5), .val (.int y12_0), .val (.int (0)), .val (.int tt), .val (.int y49_0), .val (.int y64_0), .val (.double (FP.i2d x1)), .second, .val (.int ((x3 &&& 1073741823) + (1))), .val (.double d85), .second, .val (.double y101_0), .second, .val (.ref aE), .val (.ref tM), .val (.double (FP.i2d (x5 >>> ((8) &&& 31 : Int32) : Int32))), .second, .val (.ref o204), .unset, .unset]) rfl ?_
          refine k_iload C X at_229 rfl rfl ?_
          suffices J231_257 : ∀ (y257_0 : Int32) (e_y257_0 : y257_0 = (if y64_0 = 0 then (if 0 < x4 then (1) else (0)) else (if x4 < 0 then (1) else (0)))), own_Go p.tables e below (own_EW Z s room_1 (fun v M G => v = some (.int 1))) (T.setTop (mkF m 257 #[.val (.long x0), .second, .val (.int x1), .val (.int x2), .val (.int x3), .val (.int x4), .val (.int x5), .val (.int y12_0), .val (.int (0)), .val (.int tt), .val (.int y49_0), .val (.int y64_0), .val (.double (FP.i2d x1)), .second, .val (.int ((x3 &&& 1073741823) + (1))), .val (.double d85), .second, .val (.double y101_0), .second, .val (.ref aE), .val (.ref tM), .val (.double (FP.i2d (x5 >>> ((8) &&& 31 : Int32) : Int32))), .second, .val (.ref o204), .unset, .unset] [(.int y257_0)])) by
            refine k_if_eq C X at_231 rfl (tpc := 247) rfl (fun h231 => ?_) (fun h231 => ?_)
            · skip
              refine k_iload C X at_247 rfl rfl ?_
              refine k_if_le C X at_249 rfl (tpc := 256) rfl (fun h249 => ?_) (fun h249 => ?_)
              · skip
                refine k_iconst C X at_256 rfl (v := 0) rfl ?_
                exact J231_257 _ (by rw [if_pos h231, if_neg h249])
              · skip
                refine k_iconst C X at_252 rfl (v := 1) rfl ?_
                refine k_goto C X at_253 (tpc := 257) rfl ?_
                exact J231_257 _ (by rw [if_pos h231, if_pos h249])
            · skip
              refine k_iload C X at_234 rfl rfl ?_
              refine k_if_ge C X at_236 rfl (tpc := 243) rfl (fun h236 => ?_) (fun h236 => ?_)
              · skip
                refine k_iconst C X at_243 rfl (v := 0) rfl ?_
                refine k_goto C X at_244 (tpc := 257) rfl ?_
                exact J231_257 _ (by rw [if_neg h231, if_neg h236])
              · skip
                refine k_iconst C X at_239 rfl (v := 1) rfl ?_
                refine k_goto C X at_240 (tpc := 257) rfl ?_
                exact J231_257 _ (by rw [if_neg h231, if_pos h236])
          intro y257_0 e_y257_0
          refine k_istore C X at_257 rfl (l' := #[.val (.long x0), .second, .val (.int x1), .val (.int x2), .val (.int x3), .val (.int x4), .val (.int x5), .val (.int y12_0), .val (.int (0)), .val (.int tt), .val (.int y49_0), .val (.int y64_0), .val (.double (FP.i2d x1)), .second, .val (.int ((x3 &&& 1073741823) + (1))), .val (.double d85), .second, .val (.double y101_0), .second, .val (.ref aE), .val (.ref tM), .val (.double (FP.i2d (x5 >>> ((8) &&& 31 : Int32) : Int32))), .second, .val (.ref o204), .val (.int y257_0), .unset]) rfl ?_
          refine k_iloadN C X at_259 rfl rfl ?_
          suffices J260_292 : ∀ (z292_25 : Int32) (e_z292_25 : z292_25 = (if 0 < x2 then (if y257_0 = 0 then (1) else (if y12_0 = 0 then (1) else (0))) else (1))), own_Go p.tables e below (own_EW Z s room_1 (fun v M G => v = some (.int 1))) (T.setTop (mkF m 292 #[.val (.long x0), .second, .val (.int x1), .val (.int x2), .val (.int x3), .val (.int x4), .val (.int x5), .val (.int y12_0), .val (.int (0)), .val (.int tt), .val (.int y49_0), .val (.int y64_0), .val (.double (FP.i2d x1)), .second, .val (.int ((x3 &&& 1073741823) + (1))), .val (.double d85), .second, .val (.double y101_0), .second, .val (.ref aE), .val (.ref tM), .val (.double (FP.i2d (x5 >>> ((8) &&& 31 : Int32) : Int32))), .second, .val (.ref o204), .val (.int y257_0), .val (.int z292_25)] [])) by
            refine k_if_gt C X at_260 rfl (tpc := 269) rfl (fun h260 => ?_) (fun h260 => ?_)
            · skip
              refine k_iload C X at_269 rfl rfl ?_
              refine k_if_ne C X at_271 rfl (tpc := 280) rfl (fun h271 => ?_) (fun h271 => ?_)
              · skip
                refine k_iload C X at_280 rfl rfl ?_
                refine k_if_ne C X at_282 rfl (tpc := 289) rfl (fun h282 => ?_) (fun h282 => ?_)
                · skip
                  refine k_iconst C X at_289 rfl (v := 0) rfl ?_
                  refine k_istore C X at_290 rfl (l' := #[.val (.long x0), .second, .val (.int x1), .val (.int x2), .val (.int x3), .val (.int x4), .val (.int x5), .val (.int y12_0), .val (.int (0)), .val (.int tt), .val (.int y49_0), .val (.int y64_0), .val (.double (FP.i2d x1)), .second, .val (.int ((x3 &&& 1073741823) + (1))), .val (.double d85), .second, .val (.double y101_0), .second, .val (.ref aE), .val (.ref tM), .val (.double (FP.i2d (x5 >>> ((8) &&& 31 : Int32) : Int32))), .second, .val (.ref o204), .val (.int y257_0), .val (.int (0))]) rfl ?_
                  exact J260_292 _ (by rw [if_pos h260, if_neg h271, if_neg h282])
                · skip
                  refine k_iconst C X at_285 rfl (v := 1) rfl ?_
                  refine k_goto C X at_286 (tpc := 290) rfl ?_
                  refine k_istore C X at_290 rfl (l' := #[.val (.long x0), .second, .val (.int x1), .val (.int x2), .val (.int x3), .val (.int x4), .val (.int x5), .val (.int y12_0), .val (.int (0)), .val (.int tt), .val (.int y49_0), .val (.int y64_0), .val (.double (FP.i2d x1)), .second, .val (.int ((x3 &&& 1073741823) + (1))), .val (.double d85), .second, .val (.double y101_0), .second, .val (.ref aE), .val (.ref tM), .val (.double (FP.i2d (x5 >>> ((8) &&& 31 : Int32) : Int32))), .second, .val (.ref o204), .val (.int y257_0), .val (.int (1))]) rfl ?_
                  exact J260_292 _ (by rw [if_pos h260, if_neg h271, if_pos h282])
              · skip
                refine k_iconst C X at_274 rfl (v := 1) rfl ?_
                refine k_istore C X at_275 rfl (l' := #[.val (.long x0), .second, .val (.int x1), .val (.int x2), .val (.int x3), .val (.int x4), .val (.int x5), .val (.int y12_0), .val (.int (0)), .val (.int tt), .val (.int y49_0), .val (.int y64_0), .val (.double (FP.i2d x1)), .second, .val (.int ((x3 &&& 1073741823) + (1))), .val (.double d85), .second, .val (.double y101_0), .second, .val (.ref aE), .val (.ref tM), .val (.double (FP.i2d (x5 >>> ((8) &&& 31 : Int32) : Int32))), .second, .val (.ref o204), .val (.int y257_0), .val (.int (1))]) rfl ?_
                refine k_goto C X at_277 (tpc := 292) rfl ?_
                exact J260_292 _ (by rw [if_pos h260, if_pos h271])
            · skip
              refine k_iconst C X at_263 rfl (v := 1) rfl ?_
              refine k_istore C X at_264 rfl (l' := #[.val (.long x0), .second, .val (.int x1), .val (.int x2), .val (.int x3), .val (.int x4), .val (.int x5), .val (.int y12_0), .val (.int (0)), .val (.int tt), .val (.int y49_0), .val (.int y64_0), .val (.double (FP.i2d x1)), .second, .val (.int ((x3 &&& 1073741823) + (1))), .val (.double d85), .second, .val (.double y101_0), .second, .val (.ref aE), .val (.ref tM), .val (.double (FP.i2d (x5 >>> ((8) &&& 31 : Int32) : Int32))), .second, .val (.ref o204), .val (.int y257_0), .val (.int (1))]) rfl ?_
              refine k_goto C X at_266 (tpc := 292) rfl ?_
              exact J260_292 _ (by rw [if_neg h260])
          intro z292_25 e_z292_25
          refine k_aload C X at_292 rfl rfl rfl ?_
          refine k_virtual C X at_294 rfl (hw _ (List.mem_of_getElem? (i := 68) rfl)) (hw _ (List.mem_of_getElem? (i := 69) rfl)) (hw _ (List.mem_of_getElem? (i := 10) rfl)) (hw _ (List.mem_of_getElem? (i := 72) rfl)) (hw _ (List.mem_of_getElem? (i := 71) rfl)) (hw _ (List.mem_of_getElem? (i := 70) rfl)) (by decide) (own_nf C.2.2.2.1 (hw _ (List.mem_of_getElem? (i := 71) rfl))) (own_eL (ix := 0) rfl) (own_isa l Z a0 hw o204 aE tM x0 (FP.i2d x1) y101_0 (FP.i2d (x5 >>> ((8) &&& 31 : Int32) : Int32)) y12_0 x2 ((x3 &&& 1073741823) + (1)) (Gw2)) (W := 0) (argsL := []) (rest := []) rfl rfl rfl own_pd2 rfl (Nat.le_of_eq rfl) (by decide) (by decide) (by decide) (by decide) (fun v T M hQ X => ?_)
          obtain ⟨rfl, rfl⟩ := hQ
          obtain ⟨got, e_got⟩ : ∃ z : Int32, z = (if 0 < x2 then (if FP.dcmp y101_0 0 = some .gt then (if y12_0 = 0 then (1) else (0)) else (1)) else (1)) := ⟨_, rfl⟩
          rw [← e_got]
          refine k_iload C X at_297 rfl rfl ?_
          refine k_icmp_ne C X at_299 rfl (tpc := 306) rfl (fun hc => (hc (own_set ed85 e_y101_0 e_y257_0 e_got e_z292_25) : False).elim) (fun _ => ?_)
          refine k_iconst C X at_302 rfl (v := 1) rfl ?_
          refine k_goto C X at_303 (tpc := 307) rfl ?_
          exact k_ireturnW (M := ([(o204, own_ob Z "com/example/cotenant/cotenant/core/lease/LeaseRequest" [("id", "J", (.long x0)), ("arrival", "D", (.double (FP.i2d x1))), ("arrivalKnown", "Z", (.int y12_0)), ("vms", "I", (.int x2)), ("memoryMb", "I", (.int ((x3 &&& 1073741823) + (1)))), ("duration", "D", (.double y101_0)), ("deadline", "D", (.double (FP.i2d (x5 >>> ((8) &&& 31 : Int32) : Int32)))), ("origin", "Lcom/example/cotenant/cotenant/core/lease/LeaseRequest$Origin;", (.ref aE)), ("type", "Lcom/example/cotenant/cotenant/core/lease/LeaseRequest$Type;", (.ref tM))])])) (G := Gw2) C X rfl Ww2 at_307 (by simp) rfl rfl (by decide) (by decide)
      · skip
        refine k_getstatic C X at_150 rfl (hw _ (List.mem_of_getElem? (i := 81) rfl)) hSS (fun T X => ?_)
        refine k_astore C X at_153 rfl rfl (l' := #[.val (.long x0), .second, .val (.int x1), .val (.int x2), .val (.int x3), .val (.int x4), .val (.int x5), .val (.int y12_0), .val (.int (0)), .val (.int tt), .val (.int y49_0), .val (.int y64_0), .val (.double (FP.i2d x1)), .second, .val (.int ((x3 &&& 1073741823) + (1))), .val (.double d85), .second, .val (.double y101_0), .second, .val (.ref aE), .val (.ref tS), .unset, .unset, .unset, .unset, .unset]) rfl ?_
        refine k_goto C X at_155 (tpc := 177) rfl ?_
        refine k_iload C X at_177 rfl rfl ?_
        refine k_iconst C X at_179 rfl (v := 2) rfl ?_
        refine k_icmp_ge C X at_180 rfl (tpc := 196) rfl (fun hc => (hc (by rw [h147]; decide) : False).elim) (fun _ => ?_)
        refine k_iload C X at_183 rfl rfl ?_
        refine k_if_eq C X at_185 rfl (tpc := 196) rfl (fun h185 => ?_) (fun h185 => ?_)
        · skip
          refine k_iload C X at_196 rfl rfl ?_
          refine k_bipush C X at_198 rfl (v := 8) rfl ?_
          refine k_ishr C X at_200 rfl ?_
          refine k_i2d C X at_201 rfl ?_
          refine k_dstore C X at_202 rfl (l' := #[.val (.long x0), .second, .val (.int x1), .val (.int x2), .val (.int x3), .val (.int x4), .val (.int x5), .val (.int y12_0), .val (.int (0)), .val (.int tt), .val (.int y49_0), .val (.int y64_0), .val (.double (FP.i2d x1)), .second, .val (.int ((x3 &&& 1073741823) + (1))), .val (.double d85), .second, .val (.double y101_0), .second, .val (.ref aE), .val (.ref tS), .val (.double (FP.i2d (x5 >>> ((8) &&& 31 : Int32) : Int32))), .second, .unset, .unset, .unset]) rfl ?_
          have hkn : y12_0 = 0 ∨ y12_0 = 1 := by
            rw [e_y12_0]; split
            · exact Or.inl rfl
            · exact Or.inr rfl
          have hdn := own_dun ed85 e_y101_0
          have hdf := own_duf ed85 e_y101_0
          refine k_new C X at_204 rfl (hw _ (List.mem_of_getElem? (i := 8) rfl)) (hw _ (List.mem_of_getElem? (i := 9) rfl)) (hw _ (List.mem_of_getElem? (i := 10) rfl)) (own_lay_LeaseRequest hw) (fs := [("id", "J", (.long (0))), ("arrival", "D", (.double 0)), ("arrivalKnown", "Z", (.int (0))), ("vms", "I", (.int (0))), ("memoryMb", "I", (.int (0))), ("duration", "D", (.double 0)), ("deadline", "D", (.double 0)), ("origin", "Lcom/example/cotenant/cotenant/core/lease/LeaseRequest$Origin;", .null), ("type", "Lcom/example/cotenant/cotenant/core/lease/LeaseRequest$Type;", .null)]) rfl (by decide) (by decide) (fun T o204 X => ?_)
          refine k_dup C X at_207 rfl rfl ?_
          refine k_lloadN C X at_208 rfl rfl ?_
          refine k_dload C X at_209 rfl rfl ?_
          refine k_iload C X at_211 rfl rfl ?_
          refine k_iloadN C X at_213 rfl rfl ?_
          refine k_iload C X at_214 rfl rfl ?_
          refine k_dload C X at_216 rfl rfl ?_
          refine k_dload C X at_218 rfl rfl ?_
          refine k_aload C X at_220 rfl rfl rfl ?_
          refine k_aload C X at_222 rfl rfl rfl ?_
          refine k_initW (vm0 := s.vm) (G := []) C X own_W.start (fun _ _ => trivial) at_224 rfl rfl (hw _ (List.mem_of_getElem? (i := 11) rfl)) (hw _ (List.mem_of_getElem? (i := 12) rfl)) (hw _ (List.mem_of_getElem? (i := 10) rfl)) (hw _ (List.mem_of_getElem? (i := 13) rfl)) (by decide) (own_ct3 l Z a0 hw o204 aL aE tN tS x0 (FP.i2d x1) y101_0 (FP.i2d (x5 >>> ((8) &&& 31 : Int32) : Int32)) y12_0 x2 ((x3 &&& 1073741823) + (1)) hSL hSE hSN hne hkn (own_mb _) (own_i2dnn _) hdn (own_far _) hdf (own_i2dnn _) (own_far _) (own_i2dinf _) h_tS ([])) (W := 1) (argsL := [(.long x0), (.double (FP.i2d x1)), (.int y12_0), (.int x2), (.int ((x3 &&& 1073741823) + (1))), (.double y101_0), (.double (FP.i2d (x5 >>> ((8) &&& 31 : Int32) : Int32))), (.ref aE), (.ref tS)]) (rest := [(.ref o204)]) rfl rfl rfl own_pd3 rfl (Nat.le_of_eq rfl) (by decide) (by decide) (by decide) (by decide) (fun v T M vmw3 Gw3 hQ C Ww3 X => ?_)
          replace Ww3 : own_W s vmw3 Gw3 := Ww3
          obtain ⟨rfl, rfl⟩ := hQ
          replace X : own_S p l e room_1 (s.setVm vmw3) m #[(.long x0), (.int x1), (.int x2), (.int x3), (.int x4), (.int x5)] below meth c Z T ((o204, own_ob Z "com/example/cotenant/cotenant/core/lease/LeaseRequest" [("id", "J", (.long x0)), ("arrival", "D", (.double (FP.i2d x1))), ("arrivalKnown", "Z", (.int y12_0)), ("vms", "I", (.int x2)), ("memoryMb", "I", (.int ((x3 &&& 1073741823) + (1)))), ("duration", "D", (.double y101_0)), ("deadline", "D", (.double (FP.i2d (x5 >>> ((8) &&& 31 : Int32) : Int32)))), ("origin", "Lcom/example/cotenant/cotenant/core/lease/LeaseRequest$Origin;", (.ref aE)), ("type", "Lcom/example/cotenant/cotenant/core/lease/LeaseRequest$Type;", (.ref tS))]) :: Gw3) 5 57 := X
          refine k_astore C X at_227 rfl rfl (l' := #[.val (.long x0), .second, .val (.int x1), .val (.int x2), .val (.int x3), .val (.int x4), .val (.int x5), .val (.int y12_0), .val (.int (0)), .val (.int tt), .val (.int y49_0), .val (.int y64_0), .val (.double (FP.i2d x1)), .second, .val (.int ((x3 &&& 1073741823) + (1))), .val (.double d85), .second, .val (.double y101_0), .second, .val (.ref aE), .val (.ref tS), .val (.double (FP.i2d (x5 >>> ((8) &&& 31 : Int32) : Int32))), .second, .val (.ref o204), .unset, .unset]) rfl ?_
          refine k_iload C X at_229 rfl rfl ?_
          suffices J231_257 : ∀ (y257_0 : Int32) (e_y257_0 : y257_0 = (if y64_0 = 0 then (if 0 < x4 then (1) else (0)) else (if x4 < 0 then (1) else (0)))), own_Go p.tables e below (own_EW Z s room_1 (fun v M G => v = some (.int 1))) (T.setTop (mkF m 257 #[.val (.long x0), .second, .val (.int x1), .val (.int x2), .val (.int x3), .val (.int x4), .val (.int x5), .val (.int y12_0), .val (.int (0)), .val (.int tt), .val (.int y49_0), .val (.int y64_0), .val (.double (FP.i2d x1)), .second, .val (.int ((x3 &&& 1073741823) + (1))), .val (.double d85), .second, .val (.double y101_0), .second, .val (.ref aE), .val (.ref tS), .val (.double (FP.i2d (x5 >>> ((8) &&& 31 : Int32) : Int32))), .second, .val (.ref o204), .unset, .unset] [(.int y257_0)])) by
            refine k_if_eq C X at_231 rfl (tpc := 247) rfl (fun h231 => ?_) (fun h231 => ?_)
            · skip
              refine k_iload C X at_247 rfl rfl ?_
              refine k_if_le C X at_249 rfl (tpc := 256) rfl (fun h249 => ?_) (fun h249 => ?_)
              · skip
                refine k_iconst C X at_256 rfl (v := 0) rfl ?_
                exact J231_257 _ (by rw [if_pos h231, if_neg h249])
              · skip
                refine k_iconst C X at_252 rfl (v := 1) rfl ?_
                refine k_goto C X at_253 (tpc := 257) rfl ?_
                exact J231_257 _ (by rw [if_pos h231, if_pos h249])
            · skip
              refine k_iload C X at_234 rfl rfl ?_
              refine k_if_ge C X at_236 rfl (tpc := 243) rfl (fun h236 => ?_) (fun h236 => ?_)
              · skip
                refine k_iconst C X at_243 rfl (v := 0) rfl ?_
                refine k_goto C X at_244 (tpc := 257) rfl ?_
                exact J231_257 _ (by rw [if_neg h231, if_neg h236])
              · skip
                refine k_iconst C X at_239 rfl (v := 1) rfl ?_
                refine k_goto C X at_240 (tpc := 257) rfl ?_
                exact J231_257 _ (by rw [if_neg h231, if_pos h236])
          intro y257_0 e_y257_0
          refine k_istore C X at_257 rfl (l' := #[.val (.long x0), .second, .val (.int x1), .val (.int x2), .val (.int x3), .val (.int x4), .val (.int x5), .val (.int y12_0), .val (.int (0)), .val (.int tt), .val (.int y49_0), .val (.int y64_0), .val (.double (FP.i2d x1)), .second, .val (.int ((x3 &&& 1073741823) + (1))), .val (.double d85), .second, .val (.double y101_0), .second, .val (.ref aE), .val (.ref tS), .val (.double (FP.i2d (x5 >>> ((8) &&& 31 : Int32) : Int32))), .second, .val (.ref o204), .val (.int y257_0), .unset]) rfl ?_
          refine k_iloadN C X at_259 rfl rfl ?_
          suffices J260_292 : ∀ (z292_25 : Int32) (e_z292_25 : z292_25 = (if 0 < x2 then (if y257_0 = 0 then (1) else (if y12_0 = 0 then (1) else (0))) else (1))), own_Go p.tables e below (own_EW Z s room_1 (fun v M G => v = some (.int 1))) (T.setTop (mkF m 292 #[.val (.long x0), .second, .val (.int x1), .val (.int x2), .val (.int x3), .val (.int x4), .val (.int x5), .val (.int y12_0), .val (.int (0)), .val (.int tt), .val (.int y49_0), .val (.int y64_0), .val (.double (FP.i2d x1)), .second, .val (.int ((x3 &&& 1073741823) + (1))), .val (.double d85), .second, .val (.double y101_0), .second, .val (.ref aE), .val (.ref tS), .val (.double (FP.i2d (x5 >>> ((8) &&& 31 : Int32) : Int32))), .second, .val (.ref o204), .val (.int y257_0), .val (.int z292_25)] [])) by
            refine k_if_gt C X at_260 rfl (tpc := 269) rfl (fun h260 => ?_) (fun h260 => ?_)
            · skip
              refine k_iload C X at_269 rfl rfl ?_
              refine k_if_ne C X at_271 rfl (tpc := 280) rfl (fun h271 => ?_) (fun h271 => ?_)
              · skip
                refine k_iload C X at_280 rfl rfl ?_
                refine k_if_ne C X at_282 rfl (tpc := 289) rfl (fun h282 => ?_) (fun h282 => ?_)
                · skip
                  refine k_iconst C X at_289 rfl (v := 0) rfl ?_
                  refine k_istore C X at_290 rfl (l' := #[.val (.long x0), .second, .val (.int x1), .val (.int x2), .val (.int x3), .val (.int x4), .val (.int x5), .val (.int y12_0), .val (.int (0)), .val (.int tt), .val (.int y49_0), .val (.int y64_0), .val (.double (FP.i2d x1)), .second, .val (.int ((x3 &&& 1073741823) + (1))), .val (.double d85), .second, .val (.double y101_0), .second, .val (.ref aE), .val (.ref tS), .val (.double (FP.i2d (x5 >>> ((8) &&& 31 : Int32) : Int32))), .second, .val (.ref o204), .val (.int y257_0), .val (.int (0))]) rfl ?_
                  exact J260_292 _ (by rw [if_pos h260, if_neg h271, if_neg h282])
                · skip
                  refine k_iconst C X at_285 rfl (v := 1) rfl ?_
                  refine k_goto C X at_286 (tpc := 290) rfl ?_
                  refine k_istore C X at_290 rfl (l' := #[.val (.long x0), .second, .val (.int x1), .val (.int x2), .val (.int x3), .val (.int x4), .val (.int x5), .val (.int y12_0), .val (.int (0)), .val (.int tt), .val (.int y49_0), .val (.int y64_0), .val (.double (FP.i2d x1)), .second, .val (.int ((x3 &&& 1073741823) + (1))), .val (.double d85), .second, .val (.double y101_0), .second, .val (.ref aE), .val (.ref tS), .val (.double (FP.i2d (x5 >>> ((8) &&& 31 : Int32) : Int32))), .second, .val (.ref o204), .val (.int y257_0), .val (.int (1))]) rfl ?_
                  exact J260_292 _ (by rw [if_pos h260, if_neg h271, if_pos h282])
              · skip
                refine k_iconst C X at_274 rfl (v := 1) rfl ?_
                refine k_istore C X at_275 rfl (l' := #[.val (.long x0), .second, .val (.int x1), .val (.int x2), .val (.int x3), .val (.int x4), .val (.int x5), .val (.int y12_0), .val (.int (0)), .val (.int tt), .val (.int y49_0), .val (.int y64_0), .val (.double (FP.i2d x1)), .second, .val (.int ((x3 &&& 1073741823) + (1))), .val (.double d85), .second, .val (.double y101_0), .second, .val (.ref aE), .val (.ref tS), .val (.double (FP.i2d (x5 >>> ((8) &&& 31 : Int32) : Int32))), .second, .val (.ref o204), .val (.int y257_0), .val (.int (1))]) rfl ?_
                refine k_goto C X at_277 (tpc := 292) rfl ?_
                exact J260_292 _ (by rw [if_pos h260, if_pos h271])
            · skip
              refine k_iconst C X at_263 rfl (v := 1) rfl ?_
              refine k_istore C X at_264 rfl (l' := #[.val (.long x0), .second, .val (.int x1), .val (.int x2), .val (.int x3), .val (.int x4), .val (.int x5), .val (.int y12_0), .val (.int (0)), .val (.int tt), .val (.int y49_0), .val (.int y64_0), .val (.double (FP.i2d x1)), .second, .val (.int ((x3 &&& 1073741823) + (1))), .val (.double d85), .second, .val (.double y101_0), .second, .val (.ref aE), .val (.ref tS), .val (.double (FP.i2d (x5 >>> ((8) &&& 31 : Int32) : Int32))), .second, .val (.ref o204), .val (.int y257_0), .val (.int (1))]) rfl ?_
              refine k_goto C X at_266 (tpc := 292) rfl ?_
              exact J260_292 _ (by rw [if_neg h260])
          intro z292_25 e_z292_25
          refine k_aload C X at_292 rfl rfl rfl ?_
          refine k_virtual C X at_294 rfl (hw _ (List.mem_of_getElem? (i := 68) rfl)) (hw _ (List.mem_of_getElem? (i := 69) rfl)) (hw _ (List.mem_of_getElem? (i := 10) rfl)) (hw _ (List.mem_of_getElem? (i := 72) rfl)) (hw _ (List.mem_of_getElem? (i := 71) rfl)) (hw _ (List.mem_of_getElem? (i := 70) rfl)) (by decide) (own_nf C.2.2.2.1 (hw _ (List.mem_of_getElem? (i := 71) rfl))) (own_eL (ix := 0) rfl) (own_isa l Z a0 hw o204 aE tS x0 (FP.i2d x1) y101_0 (FP.i2d (x5 >>> ((8) &&& 31 : Int32) : Int32)) y12_0 x2 ((x3 &&& 1073741823) + (1)) (Gw3)) (W := 0) (argsL := []) (rest := []) rfl rfl rfl own_pd2 rfl (Nat.le_of_eq rfl) (by decide) (by decide) (by decide) (by decide) (fun v T M hQ X => ?_)
          obtain ⟨rfl, rfl⟩ := hQ
          obtain ⟨got, e_got⟩ : ∃ z : Int32, z = (if 0 < x2 then (if FP.dcmp y101_0 0 = some .gt then (if y12_0 = 0 then (1) else (0)) else (1)) else (1)) := ⟨_, rfl⟩
          rw [← e_got]
          refine k_iload C X at_297 rfl rfl ?_
          refine k_icmp_ne C X at_299 rfl (tpc := 306) rfl (fun hc => (hc (own_set ed85 e_y101_0 e_y257_0 e_got e_z292_25) : False).elim) (fun _ => ?_)
          refine k_iconst C X at_302 rfl (v := 1) rfl ?_
          refine k_goto C X at_303 (tpc := 307) rfl ?_
          exact k_ireturnW (M := ([(o204, own_ob Z "com/example/cotenant/cotenant/core/lease/LeaseRequest" [("id", "J", (.long x0)), ("arrival", "D", (.double (FP.i2d x1))), ("arrivalKnown", "Z", (.int y12_0)), ("vms", "I", (.int x2)), ("memoryMb", "I", (.int ((x3 &&& 1073741823) + (1)))), ("duration", "D", (.double y101_0)), ("deadline", "D", (.double (FP.i2d (x5 >>> ((8) &&& 31 : Int32) : Int32)))), ("origin", "Lcom/example/cotenant/cotenant/core/lease/LeaseRequest$Origin;", (.ref aE)), ("type", "Lcom/example/cotenant/cotenant/core/lease/LeaseRequest$Type;", (.ref tS))])])) (G := Gw3) C X rfl Ww3 at_307 (by simp) rfl rfl (by decide) (by decide)
        · skip
          refine k_ldc2d C X at_188 rfl (hw _ (List.mem_of_getElem? (i := 76) rfl)) ?_
          refine k_dstore C X at_191 rfl (l' := #[.val (.long x0), .second, .val (.int x1), .val (.int x2), .val (.int x3), .val (.int x4), .val (.int x5), .val (.int y12_0), .val (.int (0)), .val (.int tt), .val (.int y49_0), .val (.int y64_0), .val (.double (FP.i2d x1)), .second, .val (.int ((x3 &&& 1073741823) + (1))), .val (.double d85), .second, .val (.double y101_0), .second, .val (.ref aE), .val (.ref tS), .val (.double 9218868437227405312), .second, .unset, .unset, .unset]) rfl ?_
          refine k_goto C X at_193 (tpc := 204) rfl ?_
          have hkn : y12_0 = 0 ∨ y12_0 = 1 := by
            rw [e_y12_0]; split
            · exact Or.inl rfl
            · exact Or.inr rfl
          have hdn := own_dun ed85 e_y101_0
          have hdf := own_duf ed85 e_y101_0
          refine k_new C X at_204 rfl (hw _ (List.mem_of_getElem? (i := 8) rfl)) (hw _ (List.mem_of_getElem? (i := 9) rfl)) (hw _ (List.mem_of_getElem? (i := 10) rfl)) (own_lay_LeaseRequest hw) (fs := [("id", "J", (.long (0))), ("arrival", "D", (.double 0)), ("arrivalKnown", "Z", (.int (0))), ("vms", "I", (.int (0))), ("memoryMb", "I", (.int (0))), ("duration", "D", (.double 0)), ("deadline", "D", (.double 0)), ("origin", "Lcom/example/cotenant/cotenant/core/lease/LeaseRequest$Origin;", .null), ("type", "Lcom/example/cotenant/cotenant/core/lease/LeaseRequest$Type;", .null)]) rfl (by decide) (by decide) (fun T o204 X => ?_)
          refine k_dup C X at_207 rfl rfl ?_
          refine k_lloadN C X at_208 rfl rfl ?_
          refine k_dload C X at_209 rfl rfl ?_
          refine k_iload C X at_211 rfl rfl ?_
          refine k_iloadN C X at_213 rfl rfl ?_
          refine k_iload C X at_214 rfl rfl ?_
          refine k_dload C X at_216 rfl rfl ?_
          refine k_dload C X at_218 rfl rfl ?_
          refine k_aload C X at_220 rfl rfl rfl ?_
          refine k_aload C X at_222 rfl rfl rfl ?_
          refine k_initW (vm0 := s.vm) (G := []) C X own_W.start (fun _ _ => trivial) at_224 rfl rfl (hw _ (List.mem_of_getElem? (i := 11) rfl)) (hw _ (List.mem_of_getElem? (i := 12) rfl)) (hw _ (List.mem_of_getElem? (i := 10) rfl)) (hw _ (List.mem_of_getElem? (i := 13) rfl)) (by decide) (own_ct2 l Z a0 hw o204 aL aE tN tS x0 (FP.i2d x1) y101_0 9218868437227405312 y12_0 x2 ((x3 &&& 1073741823) + (1)) hSL hSE hSN hne hkn (own_mb _) (own_i2dnn _) hdn (own_far _) hdf h_tS ([])) (W := 1) (argsL := [(.long x0), (.double (FP.i2d x1)), (.int y12_0), (.int x2), (.int ((x3 &&& 1073741823) + (1))), (.double y101_0), (.double 9218868437227405312), (.ref aE), (.ref tS)]) (rest := [(.ref o204)]) rfl rfl rfl own_pd3 rfl (Nat.le_of_eq rfl) (by decide) (by decide) (by decide) (by decide) (fun v T M vmw4 Gw4 hQ C Ww4 X => ?_)
          replace Ww4 : own_W s vmw4 Gw4 := Ww4
          obtain ⟨rfl, rfl⟩ := hQ
          replace X : own_S p l e room_1 (s.setVm vmw4) m #[(.long x0), (.int x1), (.int x2), (.int x3), (.int x4), (.int x5)] below meth c Z T ((o204, own_ob Z "com/example/cotenant/cotenant/core/lease/LeaseRequest" [("id", "J", (.long x0)), ("arrival", "D", (.double (FP.i2d x1))), ("arrivalKnown", "Z", (.int y12_0)), ("vms", "I", (.int x2)), ("memoryMb", "I", (.int ((x3 &&& 1073741823) + (1)))), ("duration", "D", (.double y101_0)), ("deadline", "D", (.double 9218868437227405312)), ("origin", "Lcom/example/cotenant/cotenant/core/lease/LeaseRequest$Origin;", (.ref aE)), ("type", "Lcom/example/cotenant/cotenant/core/lease/LeaseRequest$Type;", (.ref tS))]) :: Gw4) 5 57 := X
          refine k_astore C X at_227 rfl rfl (l' := #[.val (.long x0), .second, .val (.int x1), .val (.int x2), .val (.int x3), .val (.int x4), .val (.int x5), .val (.int y12_0), .val (.int (0)), .val (.int tt), .val (.int y49_0), .val (.int y64_0), .val (.double (FP.i2d x1)), .second, .val (.int ((x3 &&& 1073741823) + (1))), .val (.double d85), .second, .val (.double y101_0), .second, .val (.ref aE), .val (.ref tS), .val (.double 9218868437227405312), .second, .val (.ref o204), .unset, .unset]) rfl ?_
          refine k_iload C X at_229 rfl rfl ?_
          suffices J231_257 : ∀ (y257_0 : Int32) (e_y257_0 : y257_0 = (if y64_0 = 0 then (if 0 < x4 then (1) else (0)) else (if x4 < 0 then (1) else (0)))), own_Go p.tables e below (own_EW Z s room_1 (fun v M G => v = some (.int 1))) (T.setTop (mkF m 257 #[.val (.long x0), .second, .val (.int x1), .val (.int x2), .val (.int x3), .val (.int x4), .val (.int x5), .val (.int y12_0), .val (.int (0)), .val (.int tt), .val (.int y49_0), .val (.int y64_0), .val (.double (FP.i2d x1)), .second, .val (.int ((x3 &&& 1073741823) + (1))), .val (.double d85), .second, .val (.double y101_0), .second, .val (.ref aE), .val (.ref tS), .val (.double 9218868437227405312), .second, .val (.ref o204), .unset, .unset] [(.int y257_0)])) by
            refine k_if_eq C X at_231 rfl (tpc := 247) rfl (fun h231 => ?_) (fun h231 => ?_)
            · skip
              refine k_iload C X at_247 rfl rfl ?_
              refine k_if_le C X at_249 rfl (tpc := 256) rfl (fun h249 => ?_) (fun h249 => ?_)
              · skip
                refine k_iconst C X at_256 rfl (v := 0) rfl ?_
                exact J231_257 _ (by rw [if_pos h231, if_neg h249])
              · skip
                refine k_iconst C X at_252 rfl (v := 1) rfl ?_
                refine k_goto C X at_253 (tpc := 257) rfl ?_
                exact J231_257 _ (by rw [if_pos h231, if_pos h249])
            · skip
              refine k_iload C X at_234 rfl rfl ?_
              refine k_if_ge C X at_236 rfl (tpc := 243) rfl (fun h236 => ?_) (fun h236 => ?_)
              · skip
                refine k_iconst C X at_243 rfl (v := 0) rfl ?_
                refine k_goto C X at_244 (tpc := 257) rfl ?_
                exact J231_257 _ (by rw [if_neg h231, if_neg h236])
              · skip
                refine k_iconst C X at_239 rfl (v := 1) rfl ?_
                refine k_goto C X at_240 (tpc := 257) rfl ?_
                exact J231_257 _ (by rw [if_neg h231, if_pos h236])
          intro y257_0 e_y257_0
          refine k_istore C X at_257 rfl (l' := #[.val (.long x0), .second, .val (.int x1), .val (.int x2), .val (.int x3), .val (.int x4), .val (.int x5), .val (.int y12_0), .val (.int (0)), .val (.int tt), .val (.int y49_0), .val (.int y64_0), .val (.double (FP.i2d x1)), .second, .val (.int ((x3 &&& 1073741823) + (1))), .val (.double d85), .second, .val (.double y101_0), .second, .val (.ref aE), .val (.ref tS), .val (.double 9218868437227405312), .second, .val (.ref o204), .val (.int y257_0), .unset]) rfl ?_
          refine k_iloadN C X at_259 rfl rfl ?_
          suffices J260_292 : ∀ (z292_25 : Int32) (e_z292_25 : z292_25 = (if 0 < x2 then (if y257_0 = 0 then (1) else (if y12_0 = 0 then (1) else (0))) else (1))), own_Go p.tables e below (own_EW Z s room_1 (fun v M G => v = some (.int 1))) (T.setTop (mkF m 292 #[.val (.long x0), .second, .val (.int x1), .val (.int x2), .val (.int x3), .val (.int x4), .val (.int x5), .val (.int y12_0), .val (.int (0)), .val (.int tt), .val (.int y49_0), .val (.int y64_0), .val (.double (FP.i2d x1)), .second, .val (.int ((x3 &&& 1073741823) + (1))), .val (.double d85), .second, .val (.double y101_0), .second, .val (.ref aE), .val (.ref tS), .val (.double 9218868437227405312), .second, .val (.ref o204), .val (.int y257_0), .val (.int z292_25)] [])) by
            refine k_if_gt C X at_260 rfl (tpc := 269) rfl (fun h260 => ?_) (fun h260 => ?_)
            · skip
              refine k_iload C X at_269 rfl rfl ?_
              refine k_if_ne C X at_271 rfl (tpc := 280) rfl (fun h271 => ?_) (fun h271 => ?_)
              · skip
                refine k_iload C X at_280 rfl rfl ?_
                refine k_if_ne C X at_282 rfl (tpc := 289) rfl (fun h282 => ?_) (fun h282 => ?_)
                · skip
                  refine k_iconst C X at_289 rfl (v := 0) rfl ?_
                  refine k_istore C X at_290 rfl (l' := #[.val (.long x0), .second, .val (.int x1), .val (.int x2), .val (.int x3), .val (.int x4), .val (.int x5), .val (.int y12_0), .val (.int (0)), .val (.int tt), .val (.int y49_0), .val (.int y64_0), .val (.double (FP.i2d x1)), .second, .val (.int ((x3 &&& 1073741823) + (1))), .val (.double d85), .second, .val (.double y101_0), .second, .val (.ref aE), .val (.ref tS), .val (.double 9218868437227405312), .second, .val (.ref o204), .val (.int y257_0), .val (.int (0))]) rfl ?_
                  exact J260_292 _ (by rw [if_pos h260, if_neg h271, if_neg h282])
                · skip
                  refine k_iconst C X at_285 rfl (v := 1) rfl ?_
                  refine k_goto C X at_286 (tpc := 290) rfl ?_
                  refine k_istore C X at_290 rfl (l' := #[.val (.long x0), .second, .val (.int x1), .val (.int x2), .val (.int x3), .val (.int x4), .val (.int x5), .val (.int y12_0), .val (.int (0)), .val (.int tt), .val (.int y49_0), .val (.int y64_0), .val (.double (FP.i2d x1)), .second, .val (.int ((x3 &&& 1073741823) + (1))), .val (.double d85), .second, .val (.double y101_0), .second, .val (.ref aE), .val (.ref tS), .val (.double 9218868437227405312), .second, .val (.ref o204), .val (.int y257_0), .val (.int (1))]) rfl ?_
                  exact J260_292 _ (by rw [if_pos h260, if_neg h271, if_pos h282])
              · skip
                refine k_iconst C X at_274 rfl (v := 1) rfl ?_
                refine k_istore C X at_275 rfl (l' := #[.val (.long x0), .second, .val (.int x1), .val (.int x2), .val (.int x3), .val (.int x4), .val (.int x5), .val (.int y12_0), .val (.int (0)), .val (.int tt), .val (.int y49_0), .val (.int y64_0), .val (.double (FP.i2d x1)), .second, .val (.int ((x3 &&& 1073741823) + (1))), .val (.double d85), .second, .val (.double y101_0), .second, .val (.ref aE), .val (.ref tS), .val (.double 9218868437227405312), .second, .val (.ref o204), .val (.int y257_0), .val (.int (1))]) rfl ?_
                refine k_goto C X at_277 (tpc := 292) rfl ?_
                exact J260_292 _ (by rw [if_pos h260, if_pos h271])
            · skip
              refine k_iconst C X at_263 rfl (v := 1) rfl ?_
              refine k_istore C X at_264 rfl (l' := #[.val (.long x0), .second, .val (.int x1), .val (.int x2), .val (.int x3), .val (.int x4), .val (.int x5), .val (.int y12_0), .val (.int (0)), .val (.int tt), .val (.int y49_0), .val (.int y64_0), .val (.double (FP.i2d x1)), .second, .val (.int ((x3 &&& 1073741823) + (1))), .val (.double d85), .second, .val (.double y101_0), .second, .val (.ref aE), .val (.ref tS), .val (.double 9218868437227405312), .second, .val (.ref o204), .val (.int y257_0), .val (.int (1))]) rfl ?_
              refine k_goto C X at_266 (tpc := 292) rfl ?_
              exact J260_292 _ (by rw [if_neg h260])
          intro z292_25 e_z292_25
          refine k_aload C X at_292 rfl rfl rfl ?_
          refine k_virtual C X at_294 rfl (hw _ (List.mem_of_getElem? (i := 68) rfl)) (hw _ (List.mem_of_getElem? (i := 69) rfl)) (hw _ (List.mem_of_getElem? (i := 10) rfl)) (hw _ (List.mem_of_getElem? (i := 72) rfl)) (hw _ (List.mem_of_getElem? (i := 71) rfl)) (hw _ (List.mem_of_getElem? (i := 70) rfl)) (by decide) (own_nf C.2.2.2.1 (hw _ (List.mem_of_getElem? (i := 71) rfl))) (own_eL (ix := 0) rfl) (own_isa l Z a0 hw o204 aE tS x0 (FP.i2d x1) y101_0 9218868437227405312 y12_0 x2 ((x3 &&& 1073741823) + (1)) (Gw4)) (W := 0) (argsL := []) (rest := []) rfl rfl rfl own_pd2 rfl (Nat.le_of_eq rfl) (by decide) (by decide) (by decide) (by decide) (fun v T M hQ X => ?_)
          obtain ⟨rfl, rfl⟩ := hQ
          obtain ⟨got, e_got⟩ : ∃ z : Int32, z = (if 0 < x2 then (if FP.dcmp y101_0 0 = some .gt then (if y12_0 = 0 then (1) else (0)) else (1)) else (1)) := ⟨_, rfl⟩
          rw [← e_got]
          refine k_iload C X at_297 rfl rfl ?_
          refine k_icmp_ne C X at_299 rfl (tpc := 306) rfl (fun hc => (hc (own_set ed85 e_y101_0 e_y257_0 e_got e_z292_25) : False).elim) (fun _ => ?_)
          refine k_iconst C X at_302 rfl (v := 1) rfl ?_
          refine k_goto C X at_303 (tpc := 307) rfl ?_
          exact k_ireturnW (M := ([(o204, own_ob Z "com/example/cotenant/cotenant/core/lease/LeaseRequest" [("id", "J", (.long x0)), ("arrival", "D", (.double (FP.i2d x1))), ("arrivalKnown", "Z", (.int y12_0)), ("vms", "I", (.int x2)), ("memoryMb", "I", (.int ((x3 &&& 1073741823) + (1)))), ("duration", "D", (.double y101_0)), ("deadline", "D", (.double 9218868437227405312)), ("origin", "Lcom/example/cotenant/cotenant/core/lease/LeaseRequest$Origin;", (.ref aE)), ("type", "Lcom/example/cotenant/cotenant/core/lease/LeaseRequest$Type;", (.ref tS))])])) (G := Gw4) C X rfl Ww4 at_307 (by simp) rfl rfl (by decide) (by decide)
    · skip
      refine k_getstatic C X at_136 rfl (hw _ (List.mem_of_getElem? (i := 5) rfl)) hSC (fun T X => ?_)
      refine k_astore C X at_139 rfl rfl (l' := #[.val (.long x0), .second, .val (.int x1), .val (.int x2), .val (.int x3), .val (.int x4), .val (.int x5), .val (.int y12_0), .val (.int (0)), .val (.int tt), .val (.int y49_0), .val (.int y64_0), .val (.double (FP.i2d x1)), .second, .val (.int ((x3 &&& 1073741823) + (1))), .val (.double d85), .second, .val (.double y101_0), .second, .val (.ref aE), .val (.ref tC), .unset, .unset, .unset, .unset, .unset]) rfl ?_
      refine k_goto C X at_141 (tpc := 177) rfl ?_
      refine k_iload C X at_177 rfl rfl ?_
      refine k_iconst C X at_179 rfl (v := 2) rfl ?_
      refine k_icmp_ge C X at_180 rfl (tpc := 196) rfl (fun hc => (hc (by rw [h133]; decide) : False).elim) (fun _ => ?_)
      refine k_iload C X at_183 rfl rfl ?_
      refine k_if_eq C X at_185 rfl (tpc := 196) rfl (fun h185 => ?_) (fun h185 => ?_)
      · skip
        refine k_iload C X at_196 rfl rfl ?_
        refine k_bipush C X at_198 rfl (v := 8) rfl ?_
        refine k_ishr C X at_200 rfl ?_
        refine k_i2d C X at_201 rfl ?_
        refine k_dstore C X at_202 rfl (l' := #[.val (.long x0), .second, .val (.int x1), .val (.int x2), .val (.int x3), .val (.int x4), .val (.int x5), .val (.int y12_0), .val (.int (0)), .val (.int tt), .val (.int y49_0), .val (.int y64_0), .val (.double (FP.i2d x1)), .second, .val (.int ((x3 &&& 1073741823) + (1))), .val (.double d85), .second, .val (.double y101_0), .second, .val (.ref aE), .val (.ref tC), .val (.double (FP.i2d (x5 >>> ((8) &&& 31 : Int32) : Int32))), .second, .unset, .unset, .unset]) rfl ?_
        have hkn : y12_0 = 0 ∨ y12_0 = 1 := by
          rw [e_y12_0]; split
          · exact Or.inl rfl
          · exact Or.inr rfl
        have hdn := own_dun ed85 e_y101_0
        have hdf := own_duf ed85 e_y101_0
        refine k_new C X at_204 rfl (hw _ (List.mem_of_getElem? (i := 8) rfl)) (hw _ (List.mem_of_getElem? (i := 9) rfl)) (hw _ (List.mem_of_getElem? (i := 10) rfl)) (own_lay_LeaseRequest hw) (fs := [("id", "J", (.long (0))), ("arrival", "D", (.double 0)), ("arrivalKnown", "Z", (.int (0))), ("vms", "I", (.int (0))), ("memoryMb", "I", (.int (0))), ("duration", "D", (.double 0)), ("deadline", "D", (.double 0)), ("origin", "Lcom/example/cotenant/cotenant/core/lease/LeaseRequest$Origin;", .null), ("type", "Lcom/example/cotenant/cotenant/core/lease/LeaseRequest$Type;", .null)]) rfl (by decide) (by decide) (fun T o204 X => ?_)
        refine k_dup C X at_207 rfl rfl ?_
        refine k_lloadN C X at_208 rfl rfl ?_
        refine k_dload C X at_209 rfl rfl ?_
        refine k_iload C X at_211 rfl rfl ?_
        refine k_iloadN C X at_213 rfl rfl ?_
        refine k_iload C X at_214 rfl rfl ?_
        refine k_dload C X at_216 rfl rfl ?_
        refine k_dload C X at_218 rfl rfl ?_
        refine k_aload C X at_220 rfl rfl rfl ?_
        refine k_aload C X at_222 rfl rfl rfl ?_
        refine k_initW (vm0 := s.vm) (G := []) C X own_W.start (fun _ _ => trivial) at_224 rfl rfl (hw _ (List.mem_of_getElem? (i := 11) rfl)) (hw _ (List.mem_of_getElem? (i := 12) rfl)) (hw _ (List.mem_of_getElem? (i := 10) rfl)) (hw _ (List.mem_of_getElem? (i := 13) rfl)) (by decide) (own_ct3 l Z a0 hw o204 aL aE tN tC x0 (FP.i2d x1) y101_0 (FP.i2d (x5 >>> ((8) &&& 31 : Int32) : Int32)) y12_0 x2 ((x3 &&& 1073741823) + (1)) hSL hSE hSN hne hkn (own_mb _) (own_i2dnn _) hdn (own_far _) hdf (own_i2dnn _) (own_far _) (own_i2dinf _) h_tC ([])) (W := 1) (argsL := [(.long x0), (.double (FP.i2d x1)), (.int y12_0), (.int x2), (.int ((x3 &&& 1073741823) + (1))), (.double y101_0), (.double (FP.i2d (x5 >>> ((8) &&& 31 : Int32) : Int32))), (.ref aE), (.ref tC)]) (rest := [(.ref o204)]) rfl rfl rfl own_pd3 rfl (Nat.le_of_eq rfl) (by decide) (by decide) (by decide) (by decide) (fun v T M vmw5 Gw5 hQ C Ww5 X => ?_)
        replace Ww5 : own_W s vmw5 Gw5 := Ww5
        obtain ⟨rfl, rfl⟩ := hQ
        replace X : own_S p l e room_1 (s.setVm vmw5) m #[(.long x0), (.int x1), (.int x2), (.int x3), (.int x4), (.int x5)] below meth c Z T ((o204, own_ob Z "com/example/cotenant/cotenant/core/lease/LeaseRequest" [("id", "J", (.long x0)), ("arrival", "D", (.double (FP.i2d x1))), ("arrivalKnown", "Z", (.int y12_0)), ("vms", "I", (.int x2)), ("memoryMb", "I", (.int ((x3 &&& 1073741823) + (1)))), ("duration", "D", (.double y101_0)), ("deadline", "D", (.double (FP.i2d (x5 >>> ((8) &&& 31 : Int32) : Int32)))), ("origin", "Lcom/example/cotenant/cotenant/core/lease/LeaseRequest$Origin;", (.ref aE)), ("type", "Lcom/example/cotenant/cotenant/core/lease/LeaseRequest$Type;", (.ref tC))]) :: Gw5) 5 57 := X
        refine k_astore C X at_227 rfl rfl (l' := #[.val (.long x0), .second, .val (.int x1), .val (.int x2), .val (.int x3), .val (.int x4), .val (.int x5), .val (.int y12_0), .val (.int (0)), .val (.int tt), .val (.int y49_0), .val (.int y64_0), .val (.double (FP.i2d x1)), .second, .val (.int ((x3 &&& 1073741823) + (1))), .val (.double d85), .second, .val (.double y101_0), .second, .val (.ref aE), .val (.ref tC), .val (.double (FP.i2d (x5 >>> ((8) &&& 31 : Int32) : Int32))), .second, .val (.ref o204), .unset, .unset]) rfl ?_
        refine k_iload C X at_229 rfl rfl ?_
        suffices J231_257 : ∀ (y257_0 : Int32) (e_y257_0 : y257_0 = (if y64_0 = 0 then (if 0 < x4 then (1) else (0)) else (if x4 < 0 then (1) else (0)))), own_Go p.tables e below (own_EW Z s room_1 (fun v M G => v = some (.int 1))) (T.setTop (mkF m 257 #[.val (.long x0), .second, .val (.int x1), .val (.int x2), .val (.int x3), .val (.int x4), .val (.int x5), .val (.int y12_0), .val (.int (0)), .val (.int tt), .val (.int y49_0), .val (.int y64_0), .val (.double (FP.i2d x1)), .second, .val (.int ((x3 &&& 1073741823) + (1))), .val (.double d85), .second, .val (.double y101_0), .second, .val (.ref aE), .val (.ref tC), .val (.double (FP.i2d (x5 >>> ((8) &&& 31 : Int32) : Int32))), .second, .val (.ref o204), .unset, .unset] [(.int y257_0)])) by
          refine k_if_eq C X at_231 rfl (tpc := 247) rfl (fun h231 => ?_) (fun h231 => ?_)
          · skip
            refine k_iload C X at_247 rfl rfl ?_
            refine k_if_le C X at_249 rfl (tpc := 256) rfl (fun h249 => ?_) (fun h249 => ?_)
            · skip
              refine k_iconst C X at_256 rfl (v := 0) rfl ?_
              exact J231_257 _ (by rw [if_pos h231, if_neg h249])
            · skip
              refine k_iconst C X at_252 rfl (v := 1) rfl ?_
              refine k_goto C X at_253 (tpc := 257) rfl ?_
              exact J231_257 _ (by rw [if_pos h231, if_pos h249])
          · skip
            refine k_iload C X at_234 rfl rfl ?_
            refine k_if_ge C X at_236 rfl (tpc := 243) rfl (fun h236 => ?_) (fun h236 => ?_)
            · skip
              refine k_iconst C X at_243 rfl (v := 0) rfl ?_
              refine k_goto C X at_244 (tpc := 257) rfl ?_
              exact J231_257 _ (by rw [if_neg h231, if_neg h236])
            · skip
              refine k_iconst C X at_239 rfl (v := 1) rfl ?_
              refine k_goto C X at_240 (tpc := 257) rfl ?_
              exact J231_257 _ (by rw [if_neg h231, if_pos h236])
        intro y257_0 e_y257_0
        refine k_istore C X at_257 rfl (l' := #[.val (.long x0), .second, .val (.int x1), .val (.int x2), .val (.int x3), .val (.int x4), .val (.int x5), .val (.int y12_0), .val (.int (0)), .val (.int tt), .val (.int y49_0), .val (.int y64_0), .val (.double (FP.i2d x1)), .second, .val (.int ((x3 &&& 1073741823) + (1))), .val (.double d85), .second, .val (.double y101_0), .second, .val (.ref aE), .val (.ref tC), .val (.double (FP.i2d (x5 >>> ((8) &&& 31 : Int32) : Int32))), .second, .val (.ref o204), .val (.int y257_0), .unset]) rfl ?_
        refine k_iloadN C X at_259 rfl rfl ?_
        suffices J260_292 : ∀ (z292_25 : Int32) (e_z292_25 : z292_25 = (if 0 < x2 then (if y257_0 = 0 then (1) else (if y12_0 = 0 then (1) else (0))) else (1))), own_Go p.tables e below (own_EW Z s room_1 (fun v M G => v = some (.int 1))) (T.setTop (mkF m 292 #[.val (.long x0), .second, .val (.int x1), .val (.int x2), .val (.int x3), .val (.int x4), .val (.int x5), .val (.int y12_0), .val (.int (0)), .val (.int tt), .val (.int y49_0), .val (.int y64_0), .val (.double (FP.i2d x1)), .second, .val (.int ((x3 &&& 1073741823) + (1))), .val (.double d85), .second, .val (.double y101_0), .second, .val (.ref aE), .val (.ref tC), .val (.double (FP.i2d (x5 >>> ((8) &&& 31 : Int32) : Int32))), .second, .val (.ref o204), .val (.int y257_0), .val (.int z292_25)] [])) by
          refine k_if_gt C X at_260 rfl (tpc := 269) rfl (fun h260 => ?_) (fun h260 => ?_)
          · skip
            refine k_iload C X at_269 rfl rfl ?_
            refine k_if_ne C X at_271 rfl (tpc := 280) rfl (fun h271 => ?_) (fun h271 => ?_)
            · skip
              refine k_iload C X at_280 rfl rfl ?_
              refine k_if_ne C X at_282 rfl (tpc := 289) rfl (fun h282 => ?_) (fun h282 => ?_)
              · skip
                refine k_iconst C X at_289 rfl (v := 0) rfl ?_
                refine k_istore C X at_290 rfl (l' := #[.val (.long x0), .second, .val (.int x1), .val (.int x2), .val (.int x3), .val (.int x4), .val (.int x5), .val (.int y12_0), .val (.int (0)), .val (.int tt), .val (.int y49_0), .val (.int y64_0), .val (.double (FP.i2d x1)), .second, .val (.int ((x3 &&& 1073741823) + (1))), .val (.double d85), .second, .val (.double y101_0), .second, .val (.ref aE), .val (.ref tC), .val (.double (FP.i2d (x5 >>> ((8) &&& 31 : Int32) : Int32))), .second, .val (.ref o204), .val (.int y257_0), .val (.int (0))]) rfl ?_
                exact J260_292 _ (by rw [if_pos h260, if_neg h271, if_neg h282])
              · skip
                refine k_iconst C X at_285 rfl (v := 1) rfl ?_
                refine k_goto C X at_286 (tpc := 290) rfl ?_
                refine k_istore C X at_290 rfl (l' := #[.val (.long x0), .second, .val (.int x1), .val (.int x2), .val (.int x3), .val (.int x4), .val (.int x5), .val (.int y12_0), .val (.int (0)), .val (.int tt), .val (.int y49_0), .val (.int y64_0), .val (.double (FP.i2d x1)), .second, .val (.int ((x3 &&& 1073741823) + (1))), .val (.double d85), .second, .val (.double y101_0), .second, .val (.ref aE), .val (.ref tC), .val (.double (FP.i2d (x5 >>> ((8) &&& 31 : Int32) : Int32))), .second, .val (.ref o204), .val (.int y257_0), .val (.int (1))]) rfl ?_
                exact J260_292 _ (by rw [if_pos h260, if_neg h271, if_pos h282])
            · skip
              refine k_iconst C X at_274 rfl (v := 1) rfl ?_
              refine k_istore C X at_275 rfl (l' := #[.val (.long x0), .second, .val (.int x1), .val (.int x2), .val (.int x3), .val (.int x4), .val (.int x5), .val (.int y12_0), .val (.int (0)), .val (.int tt), .val (.int y49_0), .val (.int y64_0), .val (.double (FP.i2d x1)), .second, .val (.int ((x3 &&& 1073741823) + (1))), .val (.double d85), .second, .val (.double y101_0), .second, .val (.ref aE), .val (.ref tC), .val (.double (FP.i2d (x5 >>> ((8) &&& 31 : Int32) : Int32))), .second, .val (.ref o204), .val (.int y257_0), .val (.int (1))]) rfl ?_
              refine k_goto C X at_277 (tpc := 292) rfl ?_
              exact J260_292 _ (by rw [if_pos h260, if_pos h271])
          · skip
            refine k_iconst C X at_263 rfl (v := 1) rfl ?_
            refine k_istore C X at_264 rfl (l' := #[.val (.long x0), .second, .val (.int x1), .val (.int x2), .val (.int x3), .val (.int x4), .val (.int x5), .val (.int y12_0), .val (.int (0)), .val (.int tt), .val (.int y49_0), .val (.int y64_0), .val (.double (FP.i2d x1)), .second, .val (.int ((x3 &&& 1073741823) + (1))), .val (.double d85), .second, .val (.double y101_0), .second, .val (.ref aE), .val (.ref tC), .val (.double (FP.i2d (x5 >>> ((8) &&& 31 : Int32) : Int32))), .second, .val (.ref o204), .val (.int y257_0), .val (.int (1))]) rfl ?_
            refine k_goto C X at_266 (tpc := 292) rfl ?_
            exact J260_292 _ (by rw [if_neg h260])
        intro z292_25 e_z292_25
        refine k_aload C X at_292 rfl rfl rfl ?_
        refine k_virtual C X at_294 rfl (hw _ (List.mem_of_getElem? (i := 68) rfl)) (hw _ (List.mem_of_getElem? (i := 69) rfl)) (hw _ (List.mem_of_getElem? (i := 10) rfl)) (hw _ (List.mem_of_getElem? (i := 72) rfl)) (hw _ (List.mem_of_getElem? (i := 71) rfl)) (hw _ (List.mem_of_getElem? (i := 70) rfl)) (by decide) (own_nf C.2.2.2.1 (hw _ (List.mem_of_getElem? (i := 71) rfl))) (own_eL (ix := 0) rfl) (own_isa l Z a0 hw o204 aE tC x0 (FP.i2d x1) y101_0 (FP.i2d (x5 >>> ((8) &&& 31 : Int32) : Int32)) y12_0 x2 ((x3 &&& 1073741823) + (1)) (Gw5)) (W := 0) (argsL := []) (rest := []) rfl rfl rfl own_pd2 rfl (Nat.le_of_eq rfl) (by decide) (by decide) (by decide) (by decide) (fun v T M hQ X => ?_)
        obtain ⟨rfl, rfl⟩ := hQ
        obtain ⟨got, e_got⟩ : ∃ z : Int32, z = (if 0 < x2 then (if FP.dcmp y101_0 0 = some .gt then (if y12_0 = 0 then (1) else (0)) else (1)) else (1)) := ⟨_, rfl⟩
        rw [← e_got]
        refine k_iload C X at_297 rfl rfl ?_
        refine k_icmp_ne C X at_299 rfl (tpc := 306) rfl (fun hc => (hc (own_set ed85 e_y101_0 e_y257_0 e_got e_z292_25) : False).elim) (fun _ => ?_)
        refine k_iconst C X at_302 rfl (v := 1) rfl ?_
        refine k_goto C X at_303 (tpc := 307) rfl ?_
        exact k_ireturnW (M := ([(o204, own_ob Z "com/example/cotenant/cotenant/core/lease/LeaseRequest" [("id", "J", (.long x0)), ("arrival", "D", (.double (FP.i2d x1))), ("arrivalKnown", "Z", (.int y12_0)), ("vms", "I", (.int x2)), ("memoryMb", "I", (.int ((x3 &&& 1073741823) + (1)))), ("duration", "D", (.double y101_0)), ("deadline", "D", (.double (FP.i2d (x5 >>> ((8) &&& 31 : Int32) : Int32)))), ("origin", "Lcom/example/cotenant/cotenant/core/lease/LeaseRequest$Origin;", (.ref aE)), ("type", "Lcom/example/cotenant/cotenant/core/lease/LeaseRequest$Type;", (.ref tC))])])) (G := Gw5) C X rfl Ww5 at_307 (by simp) rfl rfl (by decide) (by decide)
      · skip
        refine k_ldc2d C X at_188 rfl (hw _ (List.mem_of_getElem? (i := 76) rfl)) ?_
        refine k_dstore C X at_191 rfl (l' := #[.val (.long x0), .second, .val (.int x1), .val (.int x2), .val (.int x3), .val (.int x4), .val (.int x5), .val (.int y12_0), .val (.int (0)), .val (.int tt), .val (.int y49_0), .val (.int y64_0), .val (.double (FP.i2d x1)), .second, .val (.int ((x3 &&& 1073741823) + (1))), .val (.double d85), .second, .val (.double y101_0), .second, .val (.ref aE), .val (.ref tC), .val (.double 9218868437227405312), .second, .unset, .unset, .unset]) rfl ?_
        refine k_goto C X at_193 (tpc := 204) rfl ?_
        have hkn : y12_0 = 0 ∨ y12_0 = 1 := by
          rw [e_y12_0]; split
          · exact Or.inl rfl
          · exact Or.inr rfl
        have hdn := own_dun ed85 e_y101_0
        have hdf := own_duf ed85 e_y101_0
        refine k_new C X at_204 rfl (hw _ (List.mem_of_getElem? (i := 8) rfl)) (hw _ (List.mem_of_getElem? (i := 9) rfl)) (hw _ (List.mem_of_getElem? (i := 10) rfl)) (own_lay_LeaseRequest hw) (fs := [("id", "J", (.long (0))), ("arrival", "D", (.double 0)), ("arrivalKnown", "Z", (.int (0))), ("vms", "I", (.int (0))), ("memoryMb", "I", (.int (0))), ("duration", "D", (.double 0)), ("deadline", "D", (.double 0)), ("origin", "Lcom/example/cotenant/cotenant/core/lease/LeaseRequest$Origin;", .null), ("type", "Lcom/example/cotenant/cotenant/core/lease/LeaseRequest$Type;", .null)]) rfl (by decide) (by decide) (fun T o204 X => ?_)
        refine k_dup C X at_207 rfl rfl ?_
        refine k_lloadN C X at_208 rfl rfl ?_
        refine k_dload C X at_209 rfl rfl ?_
        refine k_iload C X at_211 rfl rfl ?_
        refine k_iloadN C X at_213 rfl rfl ?_
        refine k_iload C X at_214 rfl rfl ?_
        refine k_dload C X at_216 rfl rfl ?_
        refine k_dload C X at_218 rfl rfl ?_
        refine k_aload C X at_220 rfl rfl rfl ?_
        refine k_aload C X at_222 rfl rfl rfl ?_
        refine k_initW (vm0 := s.vm) (G := []) C X own_W.start (fun _ _ => trivial) at_224 rfl rfl (hw _ (List.mem_of_getElem? (i := 11) rfl)) (hw _ (List.mem_of_getElem? (i := 12) rfl)) (hw _ (List.mem_of_getElem? (i := 10) rfl)) (hw _ (List.mem_of_getElem? (i := 13) rfl)) (by decide) (own_ct2 l Z a0 hw o204 aL aE tN tC x0 (FP.i2d x1) y101_0 9218868437227405312 y12_0 x2 ((x3 &&& 1073741823) + (1)) hSL hSE hSN hne hkn (own_mb _) (own_i2dnn _) hdn (own_far _) hdf h_tC ([])) (W := 1) (argsL := [(.long x0), (.double (FP.i2d x1)), (.int y12_0), (.int x2), (.int ((x3 &&& 1073741823) + (1))), (.double y101_0), (.double 9218868437227405312), (.ref aE), (.ref tC)]) (rest := [(.ref o204)]) rfl rfl rfl own_pd3 rfl (Nat.le_of_eq rfl) (by decide) (by decide) (by decide) (by decide) (fun v T M vmw6 Gw6 hQ C Ww6 X => ?_)
        replace Ww6 : own_W s vmw6 Gw6 := Ww6
        obtain ⟨rfl, rfl⟩ := hQ
        replace X : own_S p l e room_1 (s.setVm vmw6) m #[(.long x0), (.int x1), (.int x2), (.int x3), (.int x4), (.int x5)] below meth c Z T ((o204, own_ob Z "com/example/cotenant/cotenant/core/lease/LeaseRequest" [("id", "J", (.long x0)), ("arrival", "D", (.double (FP.i2d x1))), ("arrivalKnown", "Z", (.int y12_0)), ("vms", "I", (.int x2)), ("memoryMb", "I", (.int ((x3 &&& 1073741823) + (1)))), ("duration", "D", (.double y101_0)), ("deadline", "D", (.double 9218868437227405312)), ("origin", "Lcom/example/cotenant/cotenant/core/lease/LeaseRequest$Origin;", (.ref aE)), ("type", "Lcom/example/cotenant/cotenant/core/lease/LeaseRequest$Type;", (.ref tC))]) :: Gw6) 5 57 := X
        refine k_astore C X at_227 rfl rfl (l' := #[.val (.long x0), .second, .val (.int x1), .val (.int x2), .val (.int x3), .val (.int x4), .val (.int x5), .val (.int y12_0), .val (.int (0)), .val (.int tt), .val (.int y49_0), .val (.int y64_0), .val (.double (FP.i2d x1)), .second, .val (.int ((x3 &&& 1073741823) + (1))), .val (.double d85), .second, .val (.double y101_0), .second, .val (.ref aE), .val (.ref tC), .val (.double 9218868437227405312), .second, .val (.ref o204), .unset, .unset]) rfl ?_
        refine k_iload C X at_229 rfl rfl ?_
        suffices J231_257 : ∀ (y257_0 : Int32) (e_y257_0 : y257_0 = (if y64_0 = 0 then (if 0 < x4 then (1) else (0)) else (if x4 < 0 then (1) else (0)))), own_Go p.tables e below (own_EW Z s room_1 (fun v M G => v = some (.int 1))) (T.setTop (mkF m 257 #[.val (.long x0), .second, .val (.int x1), .val (.int x2), .val (.int x3), .val (.int x4), .val (.int x5), .val (.int y12_0), .val (.int (0)), .val (.int tt), .val (.int y49_0), .val (.int y64_0), .val (.double (FP.i2d x1)), .second, .val (.int ((x3 &&& 1073741823) + (1))), .val (.double d85), .second, .val (.double y101_0), .second, .val (.ref aE), .val (.ref tC), .val (.double 9218868437227405312), .second, .val (.ref o204), .unset, .unset] [(.int y257_0)])) by
          refine k_if_eq C X at_231 rfl (tpc := 247) rfl (fun h231 => ?_) (fun h231 => ?_)
          · skip
            refine k_iload C X at_247 rfl rfl ?_
            refine k_if_le C X at_249 rfl (tpc := 256) rfl (fun h249 => ?_) (fun h249 => ?_)
            · skip
              refine k_iconst C X at_256 rfl (v := 0) rfl ?_
              exact J231_257 _ (by rw [if_pos h231, if_neg h249])
            · skip
              refine k_iconst C X at_252 rfl (v := 1) rfl ?_
              refine k_goto C X at_253 (tpc := 257) rfl ?_
              exact J231_257 _ (by rw [if_pos h231, if_pos h249])
          · skip
            refine k_iload C X at_234 rfl rfl ?_
            refine k_if_ge C X at_236 rfl (tpc := 243) rfl (fun h236 => ?_) (fun h236 => ?_)
            · skip
              refine k_iconst C X at_243 rfl (v := 0) rfl ?_
              refine k_goto C X at_244 (tpc := 257) rfl ?_
              exact J231_257 _ (by rw [if_neg h231, if_neg h236])
            · skip
              refine k_iconst C X at_239 rfl (v := 1) rfl ?_
              refine k_goto C X at_240 (tpc := 257) rfl ?_
              exact J231_257 _ (by rw [if_neg h231, if_pos h236])
        intro y257_0 e_y257_0
        refine k_istore C X at_257 rfl (l' := #[.val (.long x0), .second, .val (.int x1), .val (.int x2), .val (.int x3), .val (.int x4), .val (.int x5), .val (.int y12_0), .val (.int (0)), .val (.int tt), .val (.int y49_0), .val (.int y64_0), .val (.double (FP.i2d x1)), .second, .val (.int ((x3 &&& 1073741823) + (1))), .val (.double d85), .second, .val (.double y101_0), .second, .val (.ref aE), .val (.ref tC), .val (.double 9218868437227405312), .second, .val (.ref o204), .val (.int y257_0), .unset]) rfl ?_
        refine k_iloadN C X at_259 rfl rfl ?_
        suffices J260_292 : ∀ (z292_25 : Int32) (e_z292_25 : z292_25 = (if 0 < x2 then (if y257_0 = 0 then (1) else (if y12_0 = 0 then (1) else (0))) else (1))), own_Go p.tables e below (own_EW Z s room_1 (fun v M G => v = some (.int 1))) (T.setTop (mkF m 292 #[.val (.long x0), .second, .val (.int x1), .val (.int x2), .val (.int x3), .val (.int x4), .val (.int x5), .val (.int y12_0), .val (.int (0)), .val (.int tt), .val (.int y49_0), .val (.int y64_0), .val (.double (FP.i2d x1)), .second, .val (.int ((x3 &&& 1073741823) + (1))), .val (.double d85), .second, .val (.double y101_0), .second, .val (.ref aE), .val (.ref tC), .val (.double 9218868437227405312), .second, .val (.ref o204), .val (.int y257_0), .val (.int z292_25)] [])) by
          refine k_if_gt C X at_260 rfl (tpc := 269) rfl (fun h260 => ?_) (fun h260 => ?_)
          · skip
            refine k_iload C X at_269 rfl rfl ?_
            refine k_if_ne C X at_271 rfl (tpc := 280) rfl (fun h271 => ?_) (fun h271 => ?_)
            · skip
              refine k_iload C X at_280 rfl rfl ?_
              refine k_if_ne C X at_282 rfl (tpc := 289) rfl (fun h282 => ?_) (fun h282 => ?_)
              · skip
                refine k_iconst C X at_289 rfl (v := 0) rfl ?_
                refine k_istore C X at_290 rfl (l' := #[.val (.long x0), .second, .val (.int x1), .val (.int x2), .val (.int x3), .val (.int x4), .val (.int x5), .val (.int y12_0), .val (.int (0)), .val (.int tt), .val (.int y49_0), .val (.int y64_0), .val (.double (FP.i2d x1)), .second, .val (.int ((x3 &&& 1073741823) + (1))), .val (.double d85), .second, .val (.double y101_0), .second, .val (.ref aE), .val (.ref tC), .val (.double 9218868437227405312), .second, .val (.ref o204), .val (.int y257_0), .val (.int (0))]) rfl ?_
                exact J260_292 _ (by rw [if_pos h260, if_neg h271, if_neg h282])
              · skip
                refine k_iconst C X at_285 rfl (v := 1) rfl ?_
                refine k_goto C X at_286 (tpc := 290) rfl ?_
                refine k_istore C X at_290 rfl (l' := #[.val (.long x0), .second, .val (.int x1), .val (.int x2), .val (.int x3), .val (.int x4), .val (.int x5), .val (.int y12_0), .val (.int (0)), .val (.int tt), .val (.int y49_0), .val (.int y64_0), .val (.double (FP.i2d x1)), .second, .val (.int ((x3 &&& 1073741823) + (1))), .val (.double d85), .second, .val (.double y101_0), .second, .val (.ref aE), .val (.ref tC), .val (.double 9218868437227405312), .second, .val (.ref o204), .val (.int y257_0), .val (.int (1))]) rfl ?_
                exact J260_292 _ (by rw [if_pos h260, if_neg h271, if_pos h282])
            · skip
              refine k_iconst C X at_274 rfl (v := 1) rfl ?_
              refine k_istore C X at_275 rfl (l' := #[.val (.long x0), .second, .val (.int x1), .val (.int x2), .val (.int x3), .val (.int x4), .val (.int x5), .val (.int y12_0), .val (.int (0)), .val (.int tt), .val (.int y49_0), .val (.int y64_0), .val (.double (FP.i2d x1)), .second, .val (.int ((x3 &&& 1073741823) + (1))), .val (.double d85), .second, .val (.double y101_0), .second, .val (.ref aE), .val (.ref tC), .val (.double 9218868437227405312), .second, .val (.ref o204), .val (.int y257_0), .val (.int (1))]) rfl ?_
              refine k_goto C X at_277 (tpc := 292) rfl ?_
              exact J260_292 _ (by rw [if_pos h260, if_pos h271])
          · skip
            refine k_iconst C X at_263 rfl (v := 1) rfl ?_
            refine k_istore C X at_264 rfl (l' := #[.val (.long x0), .second, .val (.int x1), .val (.int x2), .val (.int x3), .val (.int x4), .val (.int x5), .val (.int y12_0), .val (.int (0)), .val (.int tt), .val (.int y49_0), .val (.int y64_0), .val (.double (FP.i2d x1)), .second, .val (.int ((x3 &&& 1073741823) + (1))), .val (.double d85), .second, .val (.double y101_0), .second, .val (.ref aE), .val (.ref tC), .val (.double 9218868437227405312), .second, .val (.ref o204), .val (.int y257_0), .val (.int (1))]) rfl ?_
            refine k_goto C X at_266 (tpc := 292) rfl ?_
            exact J260_292 _ (by rw [if_neg h260])
        intro z292_25 e_z292_25
        refine k_aload C X at_292 rfl rfl rfl ?_
        refine k_virtual C X at_294 rfl (hw _ (List.mem_of_getElem? (i := 68) rfl)) (hw _ (List.mem_of_getElem? (i := 69) rfl)) (hw _ (List.mem_of_getElem? (i := 10) rfl)) (hw _ (List.mem_of_getElem? (i := 72) rfl)) (hw _ (List.mem_of_getElem? (i := 71) rfl)) (hw _ (List.mem_of_getElem? (i := 70) rfl)) (by decide) (own_nf C.2.2.2.1 (hw _ (List.mem_of_getElem? (i := 71) rfl))) (own_eL (ix := 0) rfl) (own_isa l Z a0 hw o204 aE tC x0 (FP.i2d x1) y101_0 9218868437227405312 y12_0 x2 ((x3 &&& 1073741823) + (1)) (Gw6)) (W := 0) (argsL := []) (rest := []) rfl rfl rfl own_pd2 rfl (Nat.le_of_eq rfl) (by decide) (by decide) (by decide) (by decide) (fun v T M hQ X => ?_)
        obtain ⟨rfl, rfl⟩ := hQ
        obtain ⟨got, e_got⟩ : ∃ z : Int32, z = (if 0 < x2 then (if FP.dcmp y101_0 0 = some .gt then (if y12_0 = 0 then (1) else (0)) else (1)) else (1)) := ⟨_, rfl⟩
        rw [← e_got]
        refine k_iload C X at_297 rfl rfl ?_
        refine k_icmp_ne C X at_299 rfl (tpc := 306) rfl (fun hc => (hc (own_set ed85 e_y101_0 e_y257_0 e_got e_z292_25) : False).elim) (fun _ => ?_)
        refine k_iconst C X at_302 rfl (v := 1) rfl ?_
        refine k_goto C X at_303 (tpc := 307) rfl ?_
        exact k_ireturnW (M := ([(o204, own_ob Z "com/example/cotenant/cotenant/core/lease/LeaseRequest" [("id", "J", (.long x0)), ("arrival", "D", (.double (FP.i2d x1))), ("arrivalKnown", "Z", (.int y12_0)), ("vms", "I", (.int x2)), ("memoryMb", "I", (.int ((x3 &&& 1073741823) + (1)))), ("duration", "D", (.double y101_0)), ("deadline", "D", (.double 9218868437227405312)), ("origin", "Lcom/example/cotenant/cotenant/core/lease/LeaseRequest$Origin;", (.ref aE)), ("type", "Lcom/example/cotenant/cotenant/core/lease/LeaseRequest$Type;", (.ref tC))])])) (G := Gw6) C X rfl Ww6 at_307 (by simp) rfl rfl (by decide) (by decide)
  · skip
    refine k_iconst C X at_21 rfl (v := 1) rfl ?_
    refine k_goto C X at_22 (tpc := 26) rfl ?_
    refine k_istore C X at_26 rfl (l' := #[.val (.long x0), .second, .val (.int x1), .val (.int x2), .val (.int x3), .val (.int x4), .val (.int x5), .val (.int y12_0), .val (.int (1)), .unset, .unset, .unset, .unset, .unset, .unset, .unset, .unset, .unset, .unset, .unset, .unset, .unset, .unset, .unset, .unset, .unset]) rfl ?_
    refine k_iload C X at_28 rfl rfl ?_
    refine k_iconst C X at_30 rfl (v := 2) rfl ?_
    refine k_ishr C X at_31 rfl ?_
    refine k_iconst C X at_32 rfl (v := 3) rfl ?_
    refine k_iand C X at_33 rfl ?_
    refine k_istore C X at_34 rfl (l' := #[.val (.long x0), .second, .val (.int x1), .val (.int x2), .val (.int x3), .val (.int x4), .val (.int x5), .val (.int y12_0), .val (.int (1)), .val (.int ((x5 >>> ((2) &&& 31 : Int32) : Int32) &&& (3))), .unset, .unset, .unset, .unset, .unset, .unset, .unset, .unset, .unset, .unset, .unset, .unset, .unset, .unset, .unset, .unset]) rfl ?_
    obtain ⟨tt, e_tt⟩ : ∃ z, z = (((x5 >>> ((2) &&& 31 : Int32) : Int32) &&& (3)) : Int32) := ⟨_, rfl⟩
    rw [← e_tt]
    refine k_iload C X at_36 rfl rfl ?_
    refine k_bipush C X at_38 rfl (v := 16) rfl ?_
    refine k_iand C X at_40 rfl ?_
    suffices J41_49 : ∀ (y49_0 : Int32) (e_y49_0 : y49_0 = (if (x5 &&& (16)) = 0 then (0) else (1))), own_Go p.tables e below (own_EW Z s room_1 (fun v M G => v = some (.int 1))) (T.setTop (mkF m 49 #[.val (.long x0), .second, .val (.int x1), .val (.int x2), .val (.int x3), .val (.int x4), .val (.int x5), .val (.int y12_0), .val (.int (1)), .val (.int tt), .unset, .unset, .unset, .unset, .unset, .unset, .unset, .unset, .unset, .unset, .unset, .unset, .unset, .unset, .unset, .unset] [(.int y49_0)])) by
      refine k_if_eq C X at_41 rfl (tpc := 48) rfl (fun h41 => ?_) (fun h41 => ?_)
      · skip
        refine k_iconst C X at_48 rfl (v := 0) rfl ?_
        exact J41_49 _ (by rw [if_pos h41])
      · skip
        refine k_iconst C X at_44 rfl (v := 1) rfl ?_
        refine k_goto C X at_45 (tpc := 49) rfl ?_
        exact J41_49 _ (by rw [if_neg h41])
    intro y49_0 e_y49_0
    refine k_istore C X at_49 rfl (l' := #[.val (.long x0), .second, .val (.int x1), .val (.int x2), .val (.int x3), .val (.int x4), .val (.int x5), .val (.int y12_0), .val (.int (1)), .val (.int tt), .val (.int y49_0), .unset, .unset, .unset, .unset, .unset, .unset, .unset, .unset, .unset, .unset, .unset, .unset, .unset, .unset, .unset]) rfl ?_
    refine k_iload C X at_51 rfl rfl ?_
    refine k_bipush C X at_53 rfl (v := 32) rfl ?_
    refine k_iand C X at_55 rfl ?_
    suffices J56_64 : ∀ (y64_0 : Int32) (e_y64_0 : y64_0 = (if (x5 &&& (32)) = 0 then (0) else (1))), own_Go p.tables e below (own_EW Z s room_1 (fun v M G => v = some (.int 1))) (T.setTop (mkF m 64 #[.val (.long x0), .second, .val (.int x1), .val (.int x2), .val (.int x3), .val (.int x4), .val (.int x5), .val (.int y12_0), .val (.int (1)), .val (.int tt), .val (.int y49_0), .unset, .unset, .unset, .unset, .unset, .unset, .unset, .unset, .unset, .unset, .unset, .unset, .unset, .unset, .unset] [(.int y64_0)])) by
      refine k_if_eq C X at_56 rfl (tpc := 63) rfl (fun h56 => ?_) (fun h56 => ?_)
      · skip
        refine k_iconst C X at_63 rfl (v := 0) rfl ?_
        exact J56_64 _ (by rw [if_pos h56])
      · skip
        refine k_iconst C X at_59 rfl (v := 1) rfl ?_
        refine k_goto C X at_60 (tpc := 64) rfl ?_
        exact J56_64 _ (by rw [if_neg h56])
    intro y64_0 e_y64_0
    refine k_istore C X at_64 rfl (l' := #[.val (.long x0), .second, .val (.int x1), .val (.int x2), .val (.int x3), .val (.int x4), .val (.int x5), .val (.int y12_0), .val (.int (1)), .val (.int tt), .val (.int y49_0), .val (.int y64_0), .unset, .unset, .unset, .unset, .unset, .unset, .unset, .unset, .unset, .unset, .unset, .unset, .unset, .unset]) rfl ?_
    refine k_iloadN C X at_66 rfl rfl ?_
    refine k_i2d C X at_67 rfl ?_
    refine k_dstore C X at_68 rfl (l' := #[.val (.long x0), .second, .val (.int x1), .val (.int x2), .val (.int x3), .val (.int x4), .val (.int x5), .val (.int y12_0), .val (.int (1)), .val (.int tt), .val (.int y49_0), .val (.int y64_0), .val (.double (FP.i2d x1)), .second, .unset, .unset, .unset, .unset, .unset, .unset, .unset, .unset, .unset, .unset, .unset, .unset]) rfl ?_
    refine k_iload C X at_70 rfl rfl ?_
    refine k_ldc C X at_72 rfl (hw _ (List.mem_of_getElem? (i := 0) rfl)) ?_
    refine k_iand C X at_74 rfl ?_
    refine k_iconst C X at_75 rfl (v := 1) rfl ?_
    refine k_iadd C X at_76 rfl ?_
    refine k_istore C X at_77 rfl (l' := #[.val (.long x0), .second, .val (.int x1), .val (.int x2), .val (.int x3), .val (.int x4), .val (.int x5), .val (.int y12_0), .val (.int (1)), .val (.int tt), .val (.int y49_0), .val (.int y64_0), .val (.double (FP.i2d x1)), .second, .val (.int ((x3 &&& 1073741823) + (1))), .unset, .unset, .unset, .unset, .unset, .unset, .unset, .unset, .unset, .unset, .unset]) rfl ?_
    refine k_iload C X at_79 rfl rfl ?_
    refine k_i2d C X at_81 rfl ?_
    refine k_ldc2d C X at_82 rfl (hw _ (List.mem_of_getElem? (i := 1) rfl)) ?_
    refine k_ddiv C X at_85 rfl (Jvm.Free.Fl.ddiv_out (Jvm.Free.Fl.i2d_fin x4).noNaN (by unfold Jvm.Free.Fl.Fin64; decide +kernel) (by unfold Jvm.Free.Fl.Nz64; decide +kernel)) (fun d85 ed85 => ?_)
    refine k_dstore C X at_86 rfl (l' := #[.val (.long x0), .second, .val (.int x1), .val (.int x2), .val (.int x3), .val (.int x4), .val (.int x5), .val (.int y12_0), .val (.int (1)), .val (.int tt), .val (.int y49_0), .val (.int y64_0), .val (.double (FP.i2d x1)), .second, .val (.int ((x3 &&& 1073741823) + (1))), .val (.double d85), .second, .unset, .unset, .unset, .unset, .unset, .unset, .unset, .unset, .unset]) rfl ?_
    refine k_iload C X at_88 rfl rfl ?_
    suffices J90_101 : ∀ (y101_0 : UInt64) (e_y101_0 : y101_0 = (if y64_0 = 0 then d85 else (FP.dneg d85))), own_Go p.tables e below (own_EW Z s room_1 (fun v M G => v = some (.int 1))) (T.setTop (mkF m 101 #[.val (.long x0), .second, .val (.int x1), .val (.int x2), .val (.int x3), .val (.int x4), .val (.int x5), .val (.int y12_0), .val (.int (1)), .val (.int tt), .val (.int y49_0), .val (.int y64_0), .val (.double (FP.i2d x1)), .second, .val (.int ((x3 &&& 1073741823) + (1))), .val (.double d85), .second, .unset, .unset, .unset, .unset, .unset, .unset, .unset, .unset, .unset] [(.double y101_0)])) by
      refine k_if_eq C X at_90 rfl (tpc := 99) rfl (fun h90 => ?_) (fun h90 => ?_)
      · skip
        refine k_dload C X at_99 rfl rfl ?_
        exact J90_101 _ (by rw [if_pos h90])
      · skip
        refine k_dload C X at_93 rfl rfl ?_
        refine k_dneg C X at_95 rfl ?_
        refine k_goto C X at_96 (tpc := 101) rfl ?_
        exact J90_101 _ (by rw [if_neg h90])
    intro y101_0 e_y101_0
    refine k_dstore C X at_101 rfl (l' := #[.val (.long x0), .second, .val (.int x1), .val (.int x2), .val (.int x3), .val (.int x4), .val (.int x5), .val (.int y12_0), .val (.int (1)), .val (.int tt), .val (.int y49_0), .val (.int y64_0), .val (.double (FP.i2d x1)), .second, .val (.int ((x3 &&& 1073741823) + (1))), .val (.double d85), .second, .val (.double y101_0), .second, .unset, .unset, .unset, .unset, .unset, .unset, .unset]) rfl ?_
    refine k_iload C X at_103 rfl rfl ?_
    refine k_if_eq C X at_105 rfl (tpc := 126) rfl (fun hc => (absurd hc (by decide) : False).elim) (fun _ => ?_)
    refine k_getstatic C X at_108 rfl (hw _ (List.mem_of_getElem? (i := 73) rfl)) hSL (fun T X => ?_)
    refine k_astore C X at_111 rfl rfl (l' := #[.val (.long x0), .second, .val (.int x1), .val (.int x2), .val (.int x3), .val (.int x4), .val (.int x5), .val (.int y12_0), .val (.int (1)), .val (.int tt), .val (.int y49_0), .val (.int y64_0), .val (.double (FP.i2d x1)), .second, .val (.int ((x3 &&& 1073741823) + (1))), .val (.double d85), .second, .val (.double y101_0), .second, .val (.ref aL), .unset, .unset, .unset, .unset, .unset, .unset]) rfl ?_
    refine k_getstatic C X at_113 rfl (hw _ (List.mem_of_getElem? (i := 74) rfl)) hSN (fun T X => ?_)
    refine k_astore C X at_116 rfl rfl (l' := #[.val (.long x0), .second, .val (.int x1), .val (.int x2), .val (.int x3), .val (.int x4), .val (.int x5), .val (.int y12_0), .val (.int (1)), .val (.int tt), .val (.int y49_0), .val (.int y64_0), .val (.double (FP.i2d x1)), .second, .val (.int ((x3 &&& 1073741823) + (1))), .val (.double d85), .second, .val (.double y101_0), .second, .val (.ref aL), .val (.ref tN), .unset, .unset, .unset, .unset, .unset]) rfl ?_
    refine k_ldc2d C X at_118 rfl (hw _ (List.mem_of_getElem? (i := 76) rfl)) ?_
    refine k_dstore C X at_121 rfl (l' := #[.val (.long x0), .second, .val (.int x1), .val (.int x2), .val (.int x3), .val (.int x4), .val (.int x5), .val (.int y12_0), .val (.int (1)), .val (.int tt), .val (.int y49_0), .val (.int y64_0), .val (.double (FP.i2d x1)), .second, .val (.int ((x3 &&& 1073741823) + (1))), .val (.double d85), .second, .val (.double y101_0), .second, .val (.ref aL), .val (.ref tN), .val (.double 9218868437227405312), .second, .unset, .unset, .unset]) rfl ?_
    refine k_goto C X at_123 (tpc := 204) rfl ?_
    have hkn : y12_0 = 0 ∨ y12_0 = 1 := by
      rw [e_y12_0]; split
      · exact Or.inl rfl
      · exact Or.inr rfl
    have hdn := own_dun ed85 e_y101_0
    have hdf := own_duf ed85 e_y101_0
    refine k_new C X at_204 rfl (hw _ (List.mem_of_getElem? (i := 8) rfl)) (hw _ (List.mem_of_getElem? (i := 9) rfl)) (hw _ (List.mem_of_getElem? (i := 10) rfl)) (own_lay_LeaseRequest hw) (fs := [("id", "J", (.long (0))), ("arrival", "D", (.double 0)), ("arrivalKnown", "Z", (.int (0))), ("vms", "I", (.int (0))), ("memoryMb", "I", (.int (0))), ("duration", "D", (.double 0)), ("deadline", "D", (.double 0)), ("origin", "Lcom/example/cotenant/cotenant/core/lease/LeaseRequest$Origin;", .null), ("type", "Lcom/example/cotenant/cotenant/core/lease/LeaseRequest$Type;", .null)]) rfl (by decide) (by decide) (fun T o204 X => ?_)
    refine k_dup C X at_207 rfl rfl ?_
    refine k_lloadN C X at_208 rfl rfl ?_
    refine k_dload C X at_209 rfl rfl ?_
    refine k_iload C X at_211 rfl rfl ?_
    refine k_iloadN C X at_213 rfl rfl ?_
    refine k_iload C X at_214 rfl rfl ?_
    refine k_dload C X at_216 rfl rfl ?_
    refine k_dload C X at_218 rfl rfl ?_
    refine k_aload C X at_220 rfl rfl rfl ?_
    refine k_aload C X at_222 rfl rfl rfl ?_
    refine k_initW (vm0 := s.vm) (G := []) C X own_W.start (fun _ _ => trivial) at_224 rfl rfl (hw _ (List.mem_of_getElem? (i := 11) rfl)) (hw _ (List.mem_of_getElem? (i := 12) rfl)) (hw _ (List.mem_of_getElem? (i := 10) rfl)) (hw _ (List.mem_of_getElem? (i := 13) rfl)) (by decide) (own_ct1 l Z a0 hw o204 aL aE tN tN x0 (FP.i2d x1) y101_0 9218868437227405312 y12_0 x2 ((x3 &&& 1073741823) + (1)) hSL hSE hSN hne hkn (own_mb _) (own_i2dnn _) hdn (own_far _) hdf ([])) (W := 1) (argsL := [(.long x0), (.double (FP.i2d x1)), (.int y12_0), (.int x2), (.int ((x3 &&& 1073741823) + (1))), (.double y101_0), (.double 9218868437227405312), (.ref aL), (.ref tN)]) (rest := [(.ref o204)]) rfl rfl rfl own_pd3 rfl (Nat.le_of_eq rfl) (by decide) (by decide) (by decide) (by decide) (fun v T M vmw7 Gw7 hQ C Ww7 X => ?_)
    replace Ww7 : own_W s vmw7 Gw7 := Ww7
    obtain ⟨rfl, rfl⟩ := hQ
    replace X : own_S p l e room_1 (s.setVm vmw7) m #[(.long x0), (.int x1), (.int x2), (.int x3), (.int x4), (.int x5)] below meth c Z T ((o204, own_ob Z "com/example/cotenant/cotenant/core/lease/LeaseRequest" [("id", "J", (.long x0)), ("arrival", "D", (.double (FP.i2d x1))), ("arrivalKnown", "Z", (.int y12_0)), ("vms", "I", (.int x2)), ("memoryMb", "I", (.int ((x3 &&& 1073741823) + (1)))), ("duration", "D", (.double y101_0)), ("deadline", "D", (.double 9218868437227405312)), ("origin", "Lcom/example/cotenant/cotenant/core/lease/LeaseRequest$Origin;", (.ref aL)), ("type", "Lcom/example/cotenant/cotenant/core/lease/LeaseRequest$Type;", (.ref tN))]) :: Gw7) 5 57 := X
    refine k_astore C X at_227 rfl rfl (l' := #[.val (.long x0), .second, .val (.int x1), .val (.int x2), .val (.int x3), .val (.int x4), .val (.int x5), .val (.int y12_0), .val (.int (1)), .val (.int tt), .val (.int y49_0), .val (.int y64_0), .val (.double (FP.i2d x1)), .second, .val (.int ((x3 &&& 1073741823) + (1))), .val (.double d85), .second, .val (.double y101_0), .second, .val (.ref aL), .val (.ref tN), .val (.double 9218868437227405312), .second, .val (.ref o204), .unset, .unset]) rfl ?_
    refine k_iload C X at_229 rfl rfl ?_
    suffices J231_257 : ∀ (y257_0 : Int32) (e_y257_0 : y257_0 = (if y64_0 = 0 then (if 0 < x4 then (1) else (0)) else (if x4 < 0 then (1) else (0)))), own_Go p.tables e below (own_EW Z s room_1 (fun v M G => v = some (.int 1))) (T.setTop (mkF m 257 #[.val (.long x0), .second, .val (.int x1), .val (.int x2), .val (.int x3), .val (.int x4), .val (.int x5), .val (.int y12_0), .val (.int (1)), .val (.int tt), .val (.int y49_0), .val (.int y64_0), .val (.double (FP.i2d x1)), .second, .val (.int ((x3 &&& 1073741823) + (1))), .val (.double d85), .second, .val (.double y101_0), .second, .val (.ref aL), .val (.ref tN), .val (.double 9218868437227405312), .second, .val (.ref o204), .unset, .unset] [(.int y257_0)])) by
      refine k_if_eq C X at_231 rfl (tpc := 247) rfl (fun h231 => ?_) (fun h231 => ?_)
      · skip
        refine k_iload C X at_247 rfl rfl ?_
        refine k_if_le C X at_249 rfl (tpc := 256) rfl (fun h249 => ?_) (fun h249 => ?_)
        · skip
          refine k_iconst C X at_256 rfl (v := 0) rfl ?_
          exact J231_257 _ (by rw [if_pos h231, if_neg h249])
        · skip
          refine k_iconst C X at_252 rfl (v := 1) rfl ?_
          refine k_goto C X at_253 (tpc := 257) rfl ?_
          exact J231_257 _ (by rw [if_pos h231, if_pos h249])
      · skip
        refine k_iload C X at_234 rfl rfl ?_
        refine k_if_ge C X at_236 rfl (tpc := 243) rfl (fun h236 => ?_) (fun h236 => ?_)
        · skip
          refine k_iconst C X at_243 rfl (v := 0) rfl ?_
          refine k_goto C X at_244 (tpc := 257) rfl ?_
          exact J231_257 _ (by rw [if_neg h231, if_neg h236])
        · skip
          refine k_iconst C X at_239 rfl (v := 1) rfl ?_
          refine k_goto C X at_240 (tpc := 257) rfl ?_
          exact J231_257 _ (by rw [if_neg h231, if_pos h236])
    intro y257_0 e_y257_0
    refine k_istore C X at_257 rfl (l' := #[.val (.long x0), .second, .val (.int x1), .val (.int x2), .val (.int x3), .val (.int x4), .val (.int x5), .val (.int y12_0), .val (.int (1)), .val (.int tt), .val (.int y49_0), .val (.int y64_0), .val (.double (FP.i2d x1)), .second, .val (.int ((x3 &&& 1073741823) + (1))), .val (.double d85), .second, .val (.double y101_0), .second, .val (.ref aL), .val (.ref tN), .val (.double 9218868437227405312), .second, .val (.ref o204), .val (.int y257_0), .unset]) rfl ?_
    refine k_iloadN C X at_259 rfl rfl ?_
    suffices J260_292 : ∀ (z292_25 : Int32) (e_z292_25 : z292_25 = (if 0 < x2 then (if y257_0 = 0 then (1) else (if y12_0 = 0 then (1) else (0))) else (1))), own_Go p.tables e below (own_EW Z s room_1 (fun v M G => v = some (.int 1))) (T.setTop (mkF m 292 #[.val (.long x0), .second, .val (.int x1), .val (.int x2), .val (.int x3), .val (.int x4), .val (.int x5), .val (.int y12_0), .val (.int (1)), .val (.int tt), .val (.int y49_0), .val (.int y64_0), .val (.double (FP.i2d x1)), .second, .val (.int ((x3 &&& 1073741823) + (1))), .val (.double d85), .second, .val (.double y101_0), .second, .val (.ref aL), .val (.ref tN), .val (.double 9218868437227405312), .second, .val (.ref o204), .val (.int y257_0), .val (.int z292_25)] [])) by
      refine k_if_gt C X at_260 rfl (tpc := 269) rfl (fun h260 => ?_) (fun h260 => ?_)
      · skip
        refine k_iload C X at_269 rfl rfl ?_
        refine k_if_ne C X at_271 rfl (tpc := 280) rfl (fun h271 => ?_) (fun h271 => ?_)
        · skip
          refine k_iload C X at_280 rfl rfl ?_
          refine k_if_ne C X at_282 rfl (tpc := 289) rfl (fun h282 => ?_) (fun h282 => ?_)
          · skip
            refine k_iconst C X at_289 rfl (v := 0) rfl ?_
            refine k_istore C X at_290 rfl (l' := #[.val (.long x0), .second, .val (.int x1), .val (.int x2), .val (.int x3), .val (.int x4), .val (.int x5), .val (.int y12_0), .val (.int (1)), .val (.int tt), .val (.int y49_0), .val (.int y64_0), .val (.double (FP.i2d x1)), .second, .val (.int ((x3 &&& 1073741823) + (1))), .val (.double d85), .second, .val (.double y101_0), .second, .val (.ref aL), .val (.ref tN), .val (.double 9218868437227405312), .second, .val (.ref o204), .val (.int y257_0), .val (.int (0))]) rfl ?_
            exact J260_292 _ (by rw [if_pos h260, if_neg h271, if_neg h282])
          · skip
            refine k_iconst C X at_285 rfl (v := 1) rfl ?_
            refine k_goto C X at_286 (tpc := 290) rfl ?_
            refine k_istore C X at_290 rfl (l' := #[.val (.long x0), .second, .val (.int x1), .val (.int x2), .val (.int x3), .val (.int x4), .val (.int x5), .val (.int y12_0), .val (.int (1)), .val (.int tt), .val (.int y49_0), .val (.int y64_0), .val (.double (FP.i2d x1)), .second, .val (.int ((x3 &&& 1073741823) + (1))), .val (.double d85), .second, .val (.double y101_0), .second, .val (.ref aL), .val (.ref tN), .val (.double 9218868437227405312), .second, .val (.ref o204), .val (.int y257_0), .val (.int (1))]) rfl ?_
            exact J260_292 _ (by rw [if_pos h260, if_neg h271, if_pos h282])
        · skip
          refine k_iconst C X at_274 rfl (v := 1) rfl ?_
          refine k_istore C X at_275 rfl (l' := #[.val (.long x0), .second, .val (.int x1), .val (.int x2), .val (.int x3), .val (.int x4), .val (.int x5), .val (.int y12_0), .val (.int (1)), .val (.int tt), .val (.int y49_0), .val (.int y64_0), .val (.double (FP.i2d x1)), .second, .val (.int ((x3 &&& 1073741823) + (1))), .val (.double d85), .second, .val (.double y101_0), .second, .val (.ref aL), .val (.ref tN), .val (.double 9218868437227405312), .second, .val (.ref o204), .val (.int y257_0), .val (.int (1))]) rfl ?_
          refine k_goto C X at_277 (tpc := 292) rfl ?_
          exact J260_292 _ (by rw [if_pos h260, if_pos h271])
      · skip
        refine k_iconst C X at_263 rfl (v := 1) rfl ?_
        refine k_istore C X at_264 rfl (l' := #[.val (.long x0), .second, .val (.int x1), .val (.int x2), .val (.int x3), .val (.int x4), .val (.int x5), .val (.int y12_0), .val (.int (1)), .val (.int tt), .val (.int y49_0), .val (.int y64_0), .val (.double (FP.i2d x1)), .second, .val (.int ((x3 &&& 1073741823) + (1))), .val (.double d85), .second, .val (.double y101_0), .second, .val (.ref aL), .val (.ref tN), .val (.double 9218868437227405312), .second, .val (.ref o204), .val (.int y257_0), .val (.int (1))]) rfl ?_
        refine k_goto C X at_266 (tpc := 292) rfl ?_
        exact J260_292 _ (by rw [if_neg h260])
    intro z292_25 e_z292_25
    refine k_aload C X at_292 rfl rfl rfl ?_
    refine k_virtual C X at_294 rfl (hw _ (List.mem_of_getElem? (i := 68) rfl)) (hw _ (List.mem_of_getElem? (i := 69) rfl)) (hw _ (List.mem_of_getElem? (i := 10) rfl)) (hw _ (List.mem_of_getElem? (i := 72) rfl)) (hw _ (List.mem_of_getElem? (i := 71) rfl)) (hw _ (List.mem_of_getElem? (i := 70) rfl)) (by decide) (own_nf C.2.2.2.1 (hw _ (List.mem_of_getElem? (i := 71) rfl))) (own_eL (ix := 0) rfl) (own_isa l Z a0 hw o204 aL tN x0 (FP.i2d x1) y101_0 9218868437227405312 y12_0 x2 ((x3 &&& 1073741823) + (1)) (Gw7)) (W := 0) (argsL := []) (rest := []) rfl rfl rfl own_pd2 rfl (Nat.le_of_eq rfl) (by decide) (by decide) (by decide) (by decide) (fun v T M hQ X => ?_)
    obtain ⟨rfl, rfl⟩ := hQ
    obtain ⟨got, e_got⟩ : ∃ z : Int32, z = (if 0 < x2 then (if FP.dcmp y101_0 0 = some .gt then (if y12_0 = 0 then (1) else (0)) else (1)) else (1)) := ⟨_, rfl⟩
    rw [← e_got]
    refine k_iload C X at_297 rfl rfl ?_
    refine k_icmp_ne C X at_299 rfl (tpc := 306) rfl (fun hc => (hc (own_set ed85 e_y101_0 e_y257_0 e_got e_z292_25) : False).elim) (fun _ => ?_)
    refine k_iconst C X at_302 rfl (v := 1) rfl ?_
    refine k_goto C X at_303 (tpc := 307) rfl ?_
    exact k_ireturnW (M := ([(o204, own_ob Z "com/example/cotenant/cotenant/core/lease/LeaseRequest" [("id", "J", (.long x0)), ("arrival", "D", (.double (FP.i2d x1))), ("arrivalKnown", "Z", (.int y12_0)), ("vms", "I", (.int x2)), ("memoryMb", "I", (.int ((x3 &&& 1073741823) + (1)))), ("duration", "D", (.double y101_0)), ("deadline", "D", (.double 9218868437227405312)), ("origin", "Lcom/example/cotenant/cotenant/core/lease/LeaseRequest$Origin;", (.ref aL)), ("type", "Lcom/example/cotenant/cotenant/core/lease/LeaseRequest$Type;", (.ref tN))])])) (G := Gw7) C X rfl Ww7 at_307 (by simp) rfl rfl (by decide) (by decide)
set_option maxRecDepth 65536 in
set_option maxHeartbeats 40000000 in
theorem comes_1 {Post : Tables → Env → Array Value → State → Outcome → State → Prop} (hpost : ∀ tb e args s v u, (limb_1_1.after args s (.returned v) u = true ∧ limb_1_2.after args s (.returned v) u = true ∧ True) → ReturnedEndW s (.returned v) u (Jvm.fieldLocs frame_1_writes args s ++ Jvm.arrayLocs frame_1_arrays args s ++ Jvm.staticLocs frame_1_statics s) 16 2176 → Post tb e args s (.returned v) u) :
    ArmFor flags0 classFile x code maxLocals ret World_1 tables_1 room_1 Calls_1 rest_1 Pre_1 Post := by
  intro l hfl _ _ p e ha hc hk s m args below hf hA hF happ hP
  obtain ⟨hcalls, hrest, hpre⟩ := hP
  obtain ⟨-, -, -, hnamed, -, -, -, hat⟩ := (Spec.applies_iff hf).mp happ
  obtain ⟨hg, hn⟩ := and_e (Cond.before_iff.mp (show (Jvm.Cond.and given_1 narrow_1).before args s = true from hpre))
  obtain ⟨hcount, hg⟩ := and_e hg
  obtain ⟨g0, hg⟩ := and_e hg
  obtain ⟨g1, hg⟩ := and_e hg
  obtain ⟨g2, hg⟩ := and_e hg
  obtain ⟨g3, hg⟩ := and_e hg
  obtain ⟨g4, hg⟩ := and_e hg
  have g5 := hg
  obtain ⟨w0, w1, w2, w3, w4, w5, rfl⟩ : ∃ w0 w1 w2 w3 w4 w5 : Value, args = #[w0, w1, w2, w3, w4, w5] := by
    have hs : args.size = 6 := by simpa [Cond.value, given_1] using hcount
    obtain ⟨L⟩ := args
    match L, hs with
    | [w0, w1, w2, w3, w4, w5], _ => exact ⟨w0, w1, w2, w3, w4, w5, rfl⟩
  have hw := fun d (hd : d ∈ tables_1) => atoms_spec (ws := Jvm.Cond.code x code maxLocals ret :: tables_1) hat d (List.mem_cons_of_mem _ hd)
  have hfit : Fit s := fun {y c} hc i hi => by
    obtain ⟨ha, rfl⟩ := Array.getElem?_eq_some_iff.mp hc
    have q := List.all_eq_true.mp ((Array.all_eq_true_iff_forall_mem.mp hF) _ (Array.getElem_mem ha)) i (List.mem_range.mpr hi)
    simpa [Array.getElem?_eq_getElem hi] using q
  obtain ⟨i0, e0⟩ := isL_v g0
  obtain rfl : w0 = (.long i0) := Option.some.inj e0
  obtain ⟨i1, e1⟩ := is_v g1
  obtain rfl : w1 = (.int i1) := Option.some.inj e1
  obtain ⟨i2, e2⟩ := is_v g2
  obtain rfl : w2 = (.int i2) := Option.some.inj e2
  obtain ⟨i3, e3⟩ := is_v g3
  obtain rfl : w3 = (.int i3) := Option.some.inj e3
  obtain ⟨i4, e4⟩ := is_v g4
  obtain rfl : w4 = (.int i4) := Option.some.inj e4
  obtain ⟨i5, e5⟩ := is_v g5
  obtain rfl : w5 = (.int i5) := Option.some.inj e5
  obtain ⟨n0, hn⟩ := and_e hn
  obtain ⟨n1, hn⟩ := and_e hn
  obtain ⟨n2, hn⟩ := and_e hn
  obtain ⟨n3, hn⟩ := and_e hn
  obtain ⟨n4, hn⟩ := and_e hn
  obtain ⟨n5, hn⟩ := and_e hn
  obtain ⟨n6, hn⟩ := and_e hn
  obtain ⟨n7, hn⟩ := and_e hn
  obtain ⟨n8, hn⟩ := and_e hn
  obtain ⟨n9, hn⟩ := and_e hn
  obtain ⟨n10, hn⟩ := and_e hn
  have n11 := hn
  obtain ⟨aE, e_aE⟩ := exa_v n0
  have S_aE := Sta.start e_aE (Or.inr ⟨(hw _ (List.mem_of_getElem? (i := 3) rfl)), (hw _ (List.mem_of_getElem? (i := 4) rfl))⟩)
  obtain ⟨tC, e_tC⟩ := exa_v n1
  have S_tC := Sta.start e_tC (Or.inr ⟨(hw _ (List.mem_of_getElem? (i := 6) rfl)), (hw _ (List.mem_of_getElem? (i := 7) rfl))⟩)
  have H_tC := And.intro (Exa.start e_tC n1) (Fld.start (own_feq n5 e_tC))
  obtain ⟨aL, e_aL⟩ := exa_v n2
  have S_aL := Sta.start e_aL (Or.inr ⟨(hw _ (List.mem_of_getElem? (i := 3) rfl)), (hw _ (List.mem_of_getElem? (i := 41) rfl))⟩)
  obtain ⟨tN, e_tN⟩ := exa_v n6
  have S_tN := Sta.start e_tN (Or.inr ⟨(hw _ (List.mem_of_getElem? (i := 6) rfl)), (hw _ (List.mem_of_getElem? (i := 75) rfl))⟩)
  have H_tN := And.intro (Exa.start e_tN n6) (Fld.start (own_feq n7 e_tN))
  obtain ⟨tM, e_tM⟩ := exa_v n8
  have S_tM := Sta.start e_tM (Or.inr ⟨(hw _ (List.mem_of_getElem? (i := 6) rfl)), (hw _ (List.mem_of_getElem? (i := 80) rfl))⟩)
  have H_tM := And.intro (Exa.start e_tM n8) (Fld.start (own_feq n9 e_tM))
  obtain ⟨tS, e_tS⟩ := exa_v n10
  have S_tS := Sta.start e_tS (Or.inr ⟨(hw _ (List.mem_of_getElem? (i := 6) rfl)), (hw _ (List.mem_of_getElem? (i := 82) rfl))⟩)
  have H_tS := And.intro (Exa.start e_tS n10) (Fld.start (own_feq n11 e_tS))
  have hne : aL ≠ aE := fun q => by
    have f1 := own_feq n4 e_aL
    have f2 := own_feq n3 e_aE
    rw [q, f2] at f1
    exact absurd f1 (by decide)
  have hH : own_H s.heap s.heap [] := ⟨⟨Nat.le_refl _, fun _ _ q => q⟩, fun _ q => (nomatch q), List.nodup_nil⟩
  obtain ⟨n, o, h1, h2, h3, v, M, G, L, rfl, rfl, -, -, N, hq⟩ := (own_law l s _ hw i0 i1 i2 i3 i4 i5 aL aE tC tS tM tN S_aL S_aE S_tN S_tC S_tS S_tM H_tC H_tS H_tM H_tN hne) tables_1 p e ha hc hk s m _ below hf ((Spec.applies_iff_loose hf).mp happ).1 ⟨rfl, State.Warmed39.refl s, hH, trivial⟩ trivial
  refine ⟨n, _, h1, h2, h3, hpost _ _ _ _ _ _ ⟨Cond.after_iff.mpr rfl, Cond.after_iff.mpr (eq_i res_at (Term.int_eval (1)) rfl), trivial⟩ ⟨hq.1, hq.2.1, hq.2.2.1, (hq.2.2.2.sift fun y hy => Or.inr (N y hy)).mono (by decide) (by decide)⟩⟩
theorem main_1_1 : Claimed_1_1 := comes_1 fun _ _ _ _ _ _ h hF => ⟨h.1, hF⟩
theorem main_1_2 : Claimed_1_2 := comes_1 fun _ _ _ _ _ _ h hF => ⟨h.2.1, hF⟩
end Jvm.Pilot.@@N@@
namespace Jvm.Pilot.@@N@@
open Jvm Jvm.ClassFile Sem Op Lib Jvm.Free Jvm.Stand Jvm.Pilot.@@N@@.Jvm.D
/-! MADE BY PROGRAM (witnessworld.py) out of the Statement's table words and the real class files: 20 classes; the members and pool entries that the words name. The judged class is class 1, her method 1. -/
namespace start1
open Jvm.ClassFile
def u (s : String) : CpInfo := .utf8 (stringToUtf16 s)
/-- a pool by its gaps: so many unusable entries, then the entry; so many at the end -/
def gap : Nat → List CpInfo → List CpInfo
  | 0, r => r
  | n + 1, r => .unusable :: gap n r
def poolList (es : List (Nat × CpInfo)) (last : Nat) : List CpInfo := es.foldr (fun e r => gap e.1 (e.2 :: r)) (gap last [])
def pool (es : List (Nat × CpInfo)) (last : Nat) : Array CpInfo := ⟨poolList es last⟩
def fileOf (pool : Array CpInfo) (this : Nat) (attrs : Array Attribute := #[]) (ms : Array MethodInfo := #[]) (fl : Nat := 33) (sup : Nat := 0) (ifs : Array Nat := #[]) (fds : Array FieldInfo := #[]) : ClassFile where
  minorVersion := 0
  majorVersion := 65
  constantPool := pool
  accessFlags := fl
  thisClass := this
  superClass := sup
  interfaces := ifs
  fields := fds
  methods := ms
  attributes := attrs
def plain (name : String) (sup : Option ClassId) : Class where
  name := name
  kind := .ordinary
  loader := none
  accessFlags := 33
  super := sup
  interfaces := #[]
  cf := none
  fields := #[]
  methods := #[]
  instanceTypes := #[]
  staticTypes := #[]
  resolved := #[]
  callSites := []
  init := .initialized
  statics := none
  mirror := none

def pool0 : Array CpInfo := pool [(5, u "<init>"), (0, u "()V"), (1, .class_ 10), (1, u "java/lang/Object")] 113

def k0c0 : Code := { maxStack := 0, maxLocals := 1, code := object_method_1_code, exceptionTable := #[], attributes := #[] }
def k0m0 : Method := { name := "<init>", desc := "()V", sig := { parameters := [], returnType := none }, accessFlags := 1, code := some k0c0 }
/-- java/lang/Object -/
def k0 : Class := { plain "java/lang/Object" none with
  accessFlags := 33
  interfaces := #[]
  cf := some (fileOf pool0 8 #[] #[{ accessFlags := 1, nameIndex := 5, descriptorIndex := 6, attributes := #[] }] 33 0 #[] #[])
  fields := #[]
  methods := #[k0m0]
  instanceTypes := #[]
  staticTypes := #[]
  resolved := Array.replicate 124 none
  statics := none }

def pool1 : Array CpInfo := pool [(2, .class_ 4), (1, u "java/lang/Object"), (0, u "<init>"), (0, u "()V"), (0, .integer 1073741823), (0, .double 4616189618054758400), (1, .fieldref 11 12), (0, .class_ 13), (0, .nameAndType 14 15), (0, u "com/example/cotenant/cotenant/core/lease/LeaseRequest$Origin"), (0, u "LOCAL"), (0, u "Lcom/example/cotenant/cotenant/core/lease/LeaseRequest$Origin;"), (0, .fieldref 17 18), (0, .class_ 19), (0, .nameAndType 20 21), (0, u "com/example/cotenant/cotenant/core/lease/LeaseRequest$Type"), (0, u "NON_PREEMPTABLE"), (0, u "Lcom/example/cotenant/cotenant/core/lease/LeaseRequest$Type;"), (0, .class_ 23), (0, u "com/example/cotenant/cotenant/core/lease/LeaseRequest"), (0, .double 9218868437227405312), (1, .fieldref 11 27), (0, .nameAndType 28 15), (0, u "EXTERNAL"), (0, .fieldref 17 30), (0, .nameAndType 31 21), (0, u "CANCELLABLE"), (0, .fieldref 17 33), (0, .nameAndType 34 21), (0, u "SUSPENDABLE"), (0, .fieldref 17 36), (0, .nameAndType 37 21), (0, u "MIGRATABLE"), (0, .methodref 22 39), (0, .nameAndType 5 40), (0, u "(JDZIIDDLcom/example/cotenant/cotenant/core/lease/LeaseRequest$Origin;Lcom/example/cotenant/cotenant/core/lease/LeaseRequest$Type;)V"), (0, .methodref 22 42), (0, .nameAndType 43 44), (0, u "isSetAside"), (0, u "()Z"), (0, .class_ 46), (0, u "com/example/cotenant/cotenant/core/lease/LeaseRequestIsSetAsidePinLaw"), (2, u "law"), (0, u "(JIIIII)Z")] 6

def k1m0 : Method := { name := "<init>", desc := "()V", sig := { parameters := [], returnType := none }, accessFlags := 2, code := none }
def k1c1 : Code := { maxStack := 15, maxLocals := 26, code := code, exceptionTable := #[], attributes := #[] }
def k1m1 : Method := { name := "law", desc := "(JIIIII)Z", sig := { parameters := [.long, .int, .int, .int, .int, .int], returnType := some .boolean }, accessFlags := 9, code := some k1c1 }
/-- com/example/cotenant/cotenant/core/lease/LeaseRequestIsSetAsidePinLaw -/
def k1 : Class := { plain "com/example/cotenant/cotenant/core/lease/LeaseRequestIsSetAsidePinLaw" (some 0) with
  accessFlags := 49
  interfaces := #[]
  cf := some (fileOf pool1 45 #[] #[{ accessFlags := 2, nameIndex := 5, descriptorIndex := 6, attributes := #[] }, { accessFlags := 9, nameIndex := 49, descriptorIndex := 50, attributes := #[] }] 49 2 #[] #[])
  fields := #[]
  methods := #[k1m0, k1m1]
  instanceTypes := #[]
  staticTypes := #[]
  resolved := Array.replicate 57 none
  statics := none }

def pool2 : Array CpInfo := pool [(1, .class_ 2), (0, u "java/lang/constant/Constable"), (0, .class_ 4), (0, u "java/lang/Object")] 6

/-- java/lang/constant/Constable -/
def k2 : Class := { plain "java/lang/constant/Constable" (some 0) with
  accessFlags := 1537
  interfaces := #[]
  cf := some (fileOf pool2 1 #[] #[] 1537 3 #[] #[])
  fields := #[]
  methods := #[]
  instanceTypes := #[]
  staticTypes := #[]
  resolved := Array.replicate 11 none
  statics := none }

def pool3 : Array CpInfo := pool [(1, .class_ 2), (0, u "java/lang/Comparable"), (0, .class_ 4), (0, u "java/lang/Object")] 7

/-- java/lang/Comparable -/
def k3 : Class := { plain "java/lang/Comparable" (some 0) with
  accessFlags := 1537
  interfaces := #[]
  cf := some (fileOf pool3 1 #[] #[] 1537 3 #[] #[])
  fields := #[]
  methods := #[]
  instanceTypes := #[]
  staticTypes := #[]
  resolved := Array.replicate 12 none
  statics := none }

def pool4 : Array CpInfo := pool [(1, .class_ 2), (0, u "java/io/Serializable"), (0, .class_ 4), (0, u "java/lang/Object")] 2

/-- java/io/Serializable -/
def k4 : Class := { plain "java/io/Serializable" (some 0) with
  accessFlags := 1537
  interfaces := #[]
  cf := some (fileOf pool4 1 #[] #[] 1537 3 #[] #[])
  fields := #[]
  methods := #[]
  instanceTypes := #[]
  staticTypes := #[]
  resolved := Array.replicate 7 none
  statics := none }

def pool5 : Array CpInfo := pool [(2, .class_ 4), (1, u "java/lang/Enum"), (0, u "name"), (0, u "Ljava/lang/String;"), (2, u "ordinal"), (0, u "I"), (1, .class_ 14), (1, u "java/lang/Object"), (4, u "hash"), (86, .class_ 108), (1, u "java/lang/Enum$EnumDesc"), (2, .class_ 112), (0, u "java/lang/constant/Constable"), (0, .class_ 114), (0, u "java/lang/Comparable"), (0, .class_ 116), (0, u "java/io/Serializable")] 87

/-- java/lang/Enum -/
def k5 : Class := { plain "java/lang/Enum" (some 0) with
  accessFlags := 1057
  interfaces := #[2, 3, 4]
  cf := some (fileOf pool5 2 #[.nestMembers #[106]] #[] 1057 12 #[111, 113, 115] #[{ accessFlags := 18, nameIndex := 5, descriptorIndex := 6, attributes := #[] }, { accessFlags := 18, nameIndex := 9, descriptorIndex := 10, attributes := #[] }, { accessFlags := 2, nameIndex := 19, descriptorIndex := 10, attributes := #[] }])
  fields := #[{ name := "name", type := (.object "java/lang/String"), accessFlags := 18, slot := 0, constantValue := 0 }, { name := "ordinal", type := .int, accessFlags := 18, slot := 1, constantValue := 0 }, { name := "hash", type := .int, accessFlags := 2, slot := 2, constantValue := 0 }]
  methods := #[]
  instanceTypes := #[(.object "java/lang/String"), .int, .int]
  staticTypes := #[]
  resolved := Array.replicate 204 none
  statics := none }

def pool6 : Array CpInfo := pool [(1, .class_ 2), (0, u "com/example/cotenant/cotenant/core/lease/LeaseRequest$Origin"), (2, u "LOCAL"), (0, u "Lcom/example/cotenant/cotenant/core/lease/LeaseRequest$Origin;"), (2, u "EXTERNAL"), (2, u "$VALUES"), (0, u "[Lcom/example/cotenant/cotenant/core/lease/LeaseRequest$Origin;"), (6, .class_ 22), (1, u "java/lang/Enum"), (24, u "word"), (0, u "Ljava/lang/String;"), (2, u "ORIGINS"), (43, .class_ 96), (0, u "com/example/cotenant/cotenant/core/lease/LeaseRequest")] 22

/-- com/example/cotenant/cotenant/core/lease/LeaseRequest$Origin -/
def k6 : Class := { plain "com/example/cotenant/cotenant/core/lease/LeaseRequest$Origin" (some 5) with
  accessFlags := 16433
  interfaces := #[]
  cf := some (fileOf pool6 1 #[.nestHost 95] #[] 16433 20 #[] #[{ accessFlags := 16409, nameIndex := 5, descriptorIndex := 6, attributes := #[] }, { accessFlags := 16409, nameIndex := 9, descriptorIndex := 6, attributes := #[] }, { accessFlags := 26, nameIndex := 51, descriptorIndex := 13, attributes := #[] }, { accessFlags := 18, nameIndex := 47, descriptorIndex := 48, attributes := #[] }, { accessFlags := 4122, nameIndex := 12, descriptorIndex := 13, attributes := #[] }])
  fields := #[{ name := "LOCAL", type := (.object "com/example/cotenant/cotenant/core/lease/LeaseRequest$Origin"), accessFlags := 16409, slot := 0, constantValue := 0 }, { name := "EXTERNAL", type := (.object "com/example/cotenant/cotenant/core/lease/LeaseRequest$Origin"), accessFlags := 16409, slot := 1, constantValue := 0 }, { name := "ORIGINS", type := (.array (.object "com/example/cotenant/cotenant/core/lease/LeaseRequest$Origin")), accessFlags := 26, slot := 2, constantValue := 0 }, { name := "word", type := (.object "java/lang/String"), accessFlags := 18, slot := 3, constantValue := 0 }, { name := "$VALUES", type := (.array (.object "com/example/cotenant/cotenant/core/lease/LeaseRequest$Origin")), accessFlags := 4122, slot := 3, constantValue := 0 }]
  methods := #[]
  instanceTypes := #[(.object "java/lang/String"), .int, .int, (.object "java/lang/String")]
  staticTypes := #[(.object "com/example/cotenant/cotenant/core/lease/LeaseRequest$Origin"), (.object "com/example/cotenant/cotenant/core/lease/LeaseRequest$Origin"), (.array (.object "com/example/cotenant/cotenant/core/lease/LeaseRequest$Origin")), (.array (.object "com/example/cotenant/cotenant/core/lease/LeaseRequest$Origin"))]
  resolved := Array.replicate 119 none
  statics := some 0 }

def pool7 : Array CpInfo := pool [(1, .class_ 2), (0, u "com/example/cotenant/cotenant/core/lease/LeaseRequest$Type"), (2, u "CANCELLABLE"), (0, u "Lcom/example/cotenant/cotenant/core/lease/LeaseRequest$Type;"), (2, u "SUSPENDABLE"), (2, u "MIGRATABLE"), (2, u "NON_PREEMPTABLE"), (2, u "$VALUES"), (0, u "[Lcom/example/cotenant/cotenant/core/lease/LeaseRequest$Type;"), (6, .class_ 28), (1, u "java/lang/Enum"), (6, .fieldref 1 36), (0, .nameAndType 37 38), (0, u "bindsDeadline"), (0, u "Z"), (2, u "preemption"), (0, u "Lcom/example/cotenant/cotenant/core/lease/LeaseRequest$Preemption;"), (22, u "word"), (0, u "Ljava/lang/String;"), (2, u "TYPES"), (49, u "()Z"), (11, .class_ 132), (0, u "com/example/cotenant/cotenant/core/lease/LeaseRequest")] 23

def k7c0 : Code := { maxStack := 1, maxLocals := 1, code := prog_70_method_4_code, exceptionTable := #[], attributes := #[] }
def k7m0 : Method := { name := "bindsDeadline", desc := "()Z", sig := { parameters := [], returnType := some .boolean }, accessFlags := 1, code := some k7c0 }
/-- com/example/cotenant/cotenant/core/lease/LeaseRequest$Type -/
def k7 : Class := { plain "com/example/cotenant/cotenant/core/lease/LeaseRequest$Type" (some 5) with
  accessFlags := 16433
  interfaces := #[]
  cf := some (fileOf pool7 1 #[.nestHost 131] #[{ accessFlags := 1, nameIndex := 37, descriptorIndex := 119, attributes := #[] }] 16433 26 #[] #[{ accessFlags := 16409, nameIndex := 5, descriptorIndex := 6, attributes := #[] }, { accessFlags := 16409, nameIndex := 9, descriptorIndex := 6, attributes := #[] }, { accessFlags := 16409, nameIndex := 12, descriptorIndex := 6, attributes := #[] }, { accessFlags := 16409, nameIndex := 15, descriptorIndex := 6, attributes := #[] }, { accessFlags := 26, nameIndex := 69, descriptorIndex := 19, attributes := #[] }, { accessFlags := 18, nameIndex := 37, descriptorIndex := 38, attributes := #[] }, { accessFlags := 18, nameIndex := 41, descriptorIndex := 42, attributes := #[] }, { accessFlags := 18, nameIndex := 65, descriptorIndex := 66, attributes := #[] }, { accessFlags := 4122, nameIndex := 18, descriptorIndex := 19, attributes := #[] }])
  fields := #[{ name := "CANCELLABLE", type := (.object "com/example/cotenant/cotenant/core/lease/LeaseRequest$Type"), accessFlags := 16409, slot := 0, constantValue := 0 }, { name := "SUSPENDABLE", type := (.object "com/example/cotenant/cotenant/core/lease/LeaseRequest$Type"), accessFlags := 16409, slot := 1, constantValue := 0 }, { name := "MIGRATABLE", type := (.object "com/example/cotenant/cotenant/core/lease/LeaseRequest$Type"), accessFlags := 16409, slot := 2, constantValue := 0 }, { name := "NON_PREEMPTABLE", type := (.object "com/example/cotenant/cotenant/core/lease/LeaseRequest$Type"), accessFlags := 16409, slot := 3, constantValue := 0 }, { name := "TYPES", type := (.array (.object "com/example/cotenant/cotenant/core/lease/LeaseRequest$Type")), accessFlags := 26, slot := 4, constantValue := 0 }, { name := "bindsDeadline", type := .boolean, accessFlags := 18, slot := 3, constantValue := 0 }, { name := "preemption", type := (.object "com/example/cotenant/cotenant/core/lease/LeaseRequest$Preemption"), accessFlags := 18, slot := 4, constantValue := 0 }, { name := "word", type := (.object "java/lang/String"), accessFlags := 18, slot := 5, constantValue := 0 }, { name := "$VALUES", type := (.array (.object "com/example/cotenant/cotenant/core/lease/LeaseRequest$Type")), accessFlags := 4122, slot := 5, constantValue := 0 }]
  methods := #[k7m0]
  instanceTypes := #[(.object "java/lang/String"), .int, .int, .boolean, (.object "com/example/cotenant/cotenant/core/lease/LeaseRequest$Preemption"), (.object "java/lang/String")]
  staticTypes := #[(.object "com/example/cotenant/cotenant/core/lease/LeaseRequest$Type"), (.object "com/example/cotenant/cotenant/core/lease/LeaseRequest$Type"), (.object "com/example/cotenant/cotenant/core/lease/LeaseRequest$Type"), (.object "com/example/cotenant/cotenant/core/lease/LeaseRequest$Type"), (.array (.object "com/example/cotenant/cotenant/core/lease/LeaseRequest$Type")), (.array (.object "com/example/cotenant/cotenant/core/lease/LeaseRequest$Type"))]
  resolved := Array.replicate 156 none
  statics := some 1 }

def pool8 : Array CpInfo := pool [(1, .methodref 2 3), (0, .class_ 4), (0, .nameAndType 5 6), (0, u "java/lang/Object"), (0, u "<init>"), (0, u "()V"), (0, .class_ 8), (0, u "java/lang/Record")] 13

def k8c0 : Code := { maxStack := 1, maxLocals := 1, code := jdk_30_method_1_code, exceptionTable := #[], attributes := #[] }
def k8m0 : Method := { name := "<init>", desc := "()V", sig := { parameters := [], returnType := none }, accessFlags := 4, code := some k8c0 }
/-- java/lang/Record -/
def k8 : Class := { plain "java/lang/Record" (some 0) with
  accessFlags := 1057
  interfaces := #[]
  cf := some (fileOf pool8 7 #[] #[{ accessFlags := 4, nameIndex := 5, descriptorIndex := 6, attributes := #[] }] 1057 2 #[] #[])
  fields := #[]
  methods := #[k8m0]
  instanceTypes := #[]
  staticTypes := #[]
  resolved := Array.replicate 22 none
  statics := none }

def pool9 : Array CpInfo := pool [(3, .methodref 4 5), (0, .class_ 6), (0, .nameAndType 7 8), (0, u "java/lang/Record"), (0, u "<init>"), (0, u "()V"), (0, .methodref 10 11), (0, .class_ 12), (0, .nameAndType 13 14), (0, u "java/lang/Math"), (0, u "abs"), (0, u "(D)D"), (0, .class_ 16), (0, u "com/example/cotenant/cotenant/core/lease/LeaseRequest"), (0, .double 4845873199050653696), (10, .double 9218868437227405312), (4, .string 34), (0, u "origin"), (0, .methodref 36 37), (0, .class_ 38), (0, .nameAndType 39 40), (0, u "java/util/Objects"), (0, u "requireNonNull"), (0, u "(Ljava/lang/Object;Ljava/lang/String;)Ljava/lang/Object;"), (0, .string 42), (0, u "type"), (3, .fieldref 47 48), (0, .class_ 49), (0, .nameAndType 50 51), (0, u "com/example/cotenant/cotenant/core/lease/LeaseRequest$Origin"), (0, u "LOCAL"), (0, u "Lcom/example/cotenant/cotenant/core/lease/LeaseRequest$Origin;"), (0, .fieldref 53 54), (0, .class_ 55), (0, .nameAndType 56 57), (0, u "com/example/cotenant/cotenant/core/lease/LeaseRequest$Type"), (0, u "NON_PREEMPTABLE"), (0, u "Lcom/example/cotenant/cotenant/core/lease/LeaseRequest$Type;"), (9, .fieldref 47 68), (0, .nameAndType 69 51), (0, u "EXTERNAL"), (0, .methodref 53 71), (0, .nameAndType 72 73), (0, u "bindsDeadline"), (0, u "()Z"), (7, .fieldref 15 82), (0, .nameAndType 83 84), (0, u "id"), (0, u "J"), (0, .fieldref 15 86), (0, .nameAndType 87 88), (0, u "arrival"), (0, u "D"), (0, .fieldref 15 90), (0, .nameAndType 91 92), (0, u "arrivalKnown"), (0, u "Z"), (0, .fieldref 15 94), (0, .nameAndType 95 96), (0, u "vms"), (0, u "I"), (0, .fieldref 15 98), (0, .nameAndType 99 96), (0, u "memoryMb"), (0, .fieldref 15 101), (0, .nameAndType 102 88), (0, u "duration"), (0, .fieldref 15 104), (0, .nameAndType 105 88), (0, u "deadline"), (0, .fieldref 15 107), (0, .nameAndType 34 51), (0, .fieldref 15 109), (0, .nameAndType 42 57), (2, u "(JDZIIDDLcom/example/cotenant/cotenant/core/lease/LeaseRequest$Origin;Lcom/example/cotenant/cotenant/core/lease/LeaseRequest$Type;)V"), (32, u "ARRIVAL_ORDER"), (0, u "Ljava/util/Comparator;"), (0, u "TIME_LIMIT"), (1, u "NO_DEADLINE"), (7, u "isSetAside"), (13, .class_ 172), (0, u "com/example/cotenant/cotenant/core/lease/LeaseRequest$Preemption")] 66

def k9c0 : Code := { maxStack := 8, maxLocals := 14, code := prog_67_method_1_code, exceptionTable := #[], attributes := #[] }
def k9m0 : Method := { name := "<init>", desc := "(JDZIIDDLcom/example/cotenant/cotenant/core/lease/LeaseRequest$Origin;Lcom/example/cotenant/cotenant/core/lease/LeaseRequest$Type;)V", sig := { parameters := [.long, .double, .boolean, .int, .int, .double, .double, (.object "com/example/cotenant/cotenant/core/lease/LeaseRequest$Origin"), (.object "com/example/cotenant/cotenant/core/lease/LeaseRequest$Type")], returnType := none }, accessFlags := 1, code := some k9c0 }
def k9c1 : Code := { maxStack := 4, maxLocals := 1, code := prog_67_method_3_code, exceptionTable := #[], attributes := #[] }
def k9m1 : Method := { name := "isSetAside", desc := "()Z", sig := { parameters := [], returnType := some .boolean }, accessFlags := 1, code := some k9c1 }
/-- com/example/cotenant/cotenant/core/lease/LeaseRequest -/
def k9 : Class := { plain "com/example/cotenant/cotenant/core/lease/LeaseRequest" (some 8) with
  accessFlags := 49
  interfaces := #[]
  cf := some (fileOf pool9 15 #[.nestMembers #[53, 171, 47]] #[{ accessFlags := 1, nameIndex := 7, descriptorIndex := 112, attributes := #[] }, { accessFlags := 1, nameIndex := 157, descriptorIndex := 73, attributes := #[] }] 49 4 #[] #[{ accessFlags := 18, nameIndex := 83, descriptorIndex := 84, attributes := #[] }, { accessFlags := 18, nameIndex := 87, descriptorIndex := 88, attributes := #[] }, { accessFlags := 18, nameIndex := 91, descriptorIndex := 92, attributes := #[] }, { accessFlags := 18, nameIndex := 95, descriptorIndex := 96, attributes := #[] }, { accessFlags := 18, nameIndex := 99, descriptorIndex := 96, attributes := #[] }, { accessFlags := 18, nameIndex := 102, descriptorIndex := 88, attributes := #[] }, { accessFlags := 18, nameIndex := 105, descriptorIndex := 88, attributes := #[] }, { accessFlags := 18, nameIndex := 34, descriptorIndex := 51, attributes := #[] }, { accessFlags := 18, nameIndex := 42, descriptorIndex := 57, attributes := #[] }, { accessFlags := 25, nameIndex := 147, descriptorIndex := 88, attributes := #[] }, { accessFlags := 25, nameIndex := 149, descriptorIndex := 88, attributes := #[] }, { accessFlags := 25, nameIndex := 145, descriptorIndex := 146, attributes := #[] }])
  fields := #[{ name := "id", type := .long, accessFlags := 18, slot := 0, constantValue := 0 }, { name := "arrival", type := .double, accessFlags := 18, slot := 1, constantValue := 0 }, { name := "arrivalKnown", type := .boolean, accessFlags := 18, slot := 2, constantValue := 0 }, { name := "vms", type := .int, accessFlags := 18, slot := 3, constantValue := 0 }, { name := "memoryMb", type := .int, accessFlags := 18, slot := 4, constantValue := 0 }, { name := "duration", type := .double, accessFlags := 18, slot := 5, constantValue := 0 }, { name := "deadline", type := .double, accessFlags := 18, slot := 6, constantValue := 0 }, { name := "origin", type := (.object "com/example/cotenant/cotenant/core/lease/LeaseRequest$Origin"), accessFlags := 18, slot := 7, constantValue := 0 }, { name := "type", type := (.object "com/example/cotenant/cotenant/core/lease/LeaseRequest$Type"), accessFlags := 18, slot := 8, constantValue := 0 }, { name := "TIME_LIMIT", type := .double, accessFlags := 25, slot := 0, constantValue := 0 }, { name := "NO_DEADLINE", type := .double, accessFlags := 25, slot := 1, constantValue := 0 }, { name := "ARRIVAL_ORDER", type := (.object "java/util/Comparator"), accessFlags := 25, slot := 2, constantValue := 0 }]
  methods := #[k9m0, k9m1]
  instanceTypes := #[.long, .double, .boolean, .int, .int, .double, .double, (.object "com/example/cotenant/cotenant/core/lease/LeaseRequest$Origin"), (.object "com/example/cotenant/cotenant/core/lease/LeaseRequest$Type")]
  staticTypes := #[.double, .double, (.object "java/util/Comparator")]
  resolved := Array.replicate 239 none
  statics := none }

def pool10 : Array CpInfo := pool [(1, .class_ 2), (0, u "java/lang/Math"), (1, .class_ 6), (1, u "java/lang/Object"), (0, u "<init>"), (0, u "()V"), (5, u "(D)D"), (83, .class_ 100), (1, u "java/lang/Math$RandomNumberGeneratorHolder"), (23, u "abs"), (47, u "negativeZeroFloatBits"), (0, u "J"), (2, u "negativeZeroDoubleBits"), (68, u "$assertionsDisabled"), (0, u "Z"), (91, u "twoToTheDoubleScaleDown"), (0, u "D"), (4, u "twoToTheDoubleScaleUp"), (9, u "E"), (3, u "PI"), (2, u "TAU"), (2, u "DEGREES_TO_RADIANS"), (0, u "RADIANS_TO_DEGREES")] 94

def k10m0 : Method := { name := "<init>", desc := "()V", sig := { parameters := [], returnType := none }, accessFlags := 2, code := none }
def k10c1 : Code := { maxStack := 4, maxLocals := 2, code := jdk_29_method_64_code, exceptionTable := #[], attributes := #[] }
def k10m1 : Method := { name := "abs", desc := "(D)D", sig := { parameters := [.double], returnType := some .double }, accessFlags := 9, code := some k10c1 }
/-- java/lang/Math -/
def k10 : Class := { plain "java/lang/Math" (some 0) with
  accessFlags := 49
  interfaces := #[]
  cf := some (fileOf pool10 1 #[.nestMembers #[98]] #[{ accessFlags := 2, nameIndex := 7, descriptorIndex := 8, attributes := #[] }, { accessFlags := 9, nameIndex := 124, descriptorIndex := 14, attributes := #[] }] 49 4 #[] #[{ accessFlags := 25, nameIndex := 354, descriptorIndex := 339, attributes := #[] }, { accessFlags := 25, nameIndex := 358, descriptorIndex := 339, attributes := #[] }, { accessFlags := 25, nameIndex := 361, descriptorIndex := 339, attributes := #[] }, { accessFlags := 26, nameIndex := 364, descriptorIndex := 339, attributes := #[] }, { accessFlags := 26, nameIndex := 365, descriptorIndex := 339, attributes := #[] }, { accessFlags := 26, nameIndex := 172, descriptorIndex := 173, attributes := #[] }, { accessFlags := 26, nameIndex := 176, descriptorIndex := 173, attributes := #[] }, { accessFlags := 8, nameIndex := 344, descriptorIndex := 339, attributes := #[] }, { accessFlags := 8, nameIndex := 338, descriptorIndex := 339, attributes := #[] }, { accessFlags := 4120, nameIndex := 245, descriptorIndex := 246, attributes := #[] }])
  fields := #[{ name := "E", type := .double, accessFlags := 25, slot := 0, constantValue := 0 }, { name := "PI", type := .double, accessFlags := 25, slot := 1, constantValue := 0 }, { name := "TAU", type := .double, accessFlags := 25, slot := 2, constantValue := 0 }, { name := "DEGREES_TO_RADIANS", type := .double, accessFlags := 26, slot := 3, constantValue := 0 }, { name := "RADIANS_TO_DEGREES", type := .double, accessFlags := 26, slot := 4, constantValue := 0 }, { name := "negativeZeroFloatBits", type := .long, accessFlags := 26, slot := 5, constantValue := 0 }, { name := "negativeZeroDoubleBits", type := .long, accessFlags := 26, slot := 6, constantValue := 0 }, { name := "twoToTheDoubleScaleUp", type := .double, accessFlags := 8, slot := 7, constantValue := 0 }, { name := "twoToTheDoubleScaleDown", type := .double, accessFlags := 8, slot := 8, constantValue := 0 }, { name := "$assertionsDisabled", type := .boolean, accessFlags := 4120, slot := 9, constantValue := 0 }]
  methods := #[k10m0, k10m1]
  instanceTypes := #[]
  staticTypes := #[.double, .double, .double, .double, .double, .long, .long, .double, .double, .boolean]
  resolved := Array.replicate 460 none
  statics := none }

def pool11 : Array CpInfo := pool [(2, .class_ 4), (1, u "java/lang/CharSequence"), (42, .class_ 48), (0, u "java/lang/CharSequence$1CodePointIterator"), (10, .class_ 60), (0, u "java/lang/CharSequence$1CharIterator"), (5, .class_ 67), (0, u "java/lang/Object")] 63

/-- java/lang/CharSequence -/
def k11 : Class := { plain "java/lang/CharSequence" (some 0) with
  accessFlags := 1537
  interfaces := #[]
  cf := some (fileOf pool11 2 #[.nestMembers #[47, 59]] #[] 1537 66 #[] #[])
  fields := #[]
  methods := #[]
  instanceTypes := #[]
  staticTypes := #[]
  resolved := Array.replicate 131 none
  statics := none }

def pool12 : Array CpInfo := pool [(1, .class_ 2), (0, u "java/lang/constant/ConstantDesc"), (0, .class_ 4), (0, u "java/lang/Object")] 32

/-- java/lang/constant/ConstantDesc -/
def k12 : Class := { plain "java/lang/constant/ConstantDesc" (some 0) with
  accessFlags := 1537
  interfaces := #[]
  cf := some (fileOf pool12 1 #[] #[] 1537 3 #[] #[])
  fields := #[]
  methods := #[]
  instanceTypes := #[]
  staticTypes := #[]
  resolved := Array.replicate 37 none
  statics := none }

def pool13 : Array CpInfo := pool [(2, .class_ 4), (1, u "java/lang/Object"), (0, u "<init>"), (0, u "()V"), (3, .class_ 12), (1, u "java/lang/String"), (0, u "value"), (0, u "[B"), (2, u "coder"), (0, u "B"), (2, u "hash"), (0, u "I"), (2, u "hashIsZero"), (0, u "Z"), (13, u "COMPACT_STRINGS"), (534, .class_ 576), (0, u "java/lang/CharSequence"), (22, u "CASE_INSENSITIVE_ORDER"), (0, u "Ljava/util/Comparator;"), (500, u "serialPersistentFields"), (0, u "[Ljava/io/ObjectStreamField;"), (0, .class_ 1104), (0, u "java/lang/String$CaseInsensitiveComparator"), (1, .class_ 1107), (0, u "java/io/Serializable"), (0, .class_ 1109), (0, u "java/lang/Comparable"), (0, .class_ 1111), (0, u "java/lang/constant/Constable"), (0, .class_ 1113), (0, u "java/lang/constant/ConstantDesc"), (2, u "serialVersionUID"), (0, u "J"), (3, u "REPL"), (0, u "C"), (2, u "LATIN1"), (1, u "UTF16")] 323

def k13m0 : Method := { name := "<init>", desc := "()V", sig := { parameters := [], returnType := none }, accessFlags := 1, code := none }
/-- java/lang/String -/
def k13 : Class := { plain "java/lang/String" (some 0) with
  accessFlags := 49
  interfaces := #[4, 3, 11, 2, 12]
  cf := some (fileOf pool13 10 #[.nestMembers #[1103]] #[{ accessFlags := 1, nameIndex := 5, descriptorIndex := 6, attributes := #[] }] 49 2 #[1106, 1108, 575, 1110, 1112] #[{ accessFlags := 18, nameIndex := 13, descriptorIndex := 14, attributes := #[] }, { accessFlags := 18, nameIndex := 17, descriptorIndex := 18, attributes := #[] }, { accessFlags := 2, nameIndex := 21, descriptorIndex := 22, attributes := #[] }, { accessFlags := 2, nameIndex := 25, descriptorIndex := 26, attributes := #[] }, { accessFlags := 26, nameIndex := 1116, descriptorIndex := 1117, attributes := #[] }, { accessFlags := 24, nameIndex := 40, descriptorIndex := 26, attributes := #[] }, { accessFlags := 26, nameIndex := 1101, descriptorIndex := 1102, attributes := #[] }, { accessFlags := 26, nameIndex := 1121, descriptorIndex := 1122, attributes := #[] }, { accessFlags := 25, nameIndex := 599, descriptorIndex := 600, attributes := #[] }, { accessFlags := 24, nameIndex := 1125, descriptorIndex := 18, attributes := #[] }, { accessFlags := 24, nameIndex := 1127, descriptorIndex := 18, attributes := #[] }])
  fields := #[{ name := "value", type := (.array .byte), accessFlags := 18, slot := 0, constantValue := 0 }, { name := "coder", type := .byte, accessFlags := 18, slot := 1, constantValue := 0 }, { name := "hash", type := .int, accessFlags := 2, slot := 2, constantValue := 0 }, { name := "hashIsZero", type := .boolean, accessFlags := 2, slot := 3, constantValue := 0 }, { name := "serialVersionUID", type := .long, accessFlags := 26, slot := 0, constantValue := 0 }, { name := "COMPACT_STRINGS", type := .boolean, accessFlags := 24, slot := 1, constantValue := 0 }, { name := "serialPersistentFields", type := (.array (.object "java/io/ObjectStreamField")), accessFlags := 26, slot := 2, constantValue := 0 }, { name := "REPL", type := .char, accessFlags := 26, slot := 3, constantValue := 0 }, { name := "CASE_INSENSITIVE_ORDER", type := (.object "java/util/Comparator"), accessFlags := 25, slot := 4, constantValue := 0 }, { name := "LATIN1", type := .byte, accessFlags := 24, slot := 5, constantValue := 0 }, { name := "UTF16", type := .byte, accessFlags := 24, slot := 6, constantValue := 0 }]
  methods := #[k13m0]
  instanceTypes := #[(.array .byte), .byte, .int, .boolean]
  staticTypes := #[.long, .boolean, (.array (.object "java/io/ObjectStreamField")), .char, (.object "java/util/Comparator"), .byte, .byte]
  resolved := Array.replicate 1451 none
  statics := none }

def pool14 : Array CpInfo := pool [(2, .class_ 4), (1, u "java/lang/Object"), (0, u "<init>"), (0, u "()V"), (35, .class_ 44), (1, u "java/util/Objects"), (0, u "requireNonNull"), (48, u "(Ljava/lang/Object;Ljava/lang/String;)Ljava/lang/Object;")] 89

def k14m0 : Method := { name := "<init>", desc := "()V", sig := { parameters := [], returnType := none }, accessFlags := 2, code := none }
def k14c1 : Code := { maxStack := 3, maxLocals := 2, code := jdk_31_method_11_code, exceptionTable := #[], attributes := #[] }
def k14m1 : Method := { name := "requireNonNull", desc := "(Ljava/lang/Object;Ljava/lang/String;)Ljava/lang/Object;", sig := { parameters := [(.object "java/lang/Object"), (.object "java/lang/String")], returnType := some (.object "java/lang/Object") }, accessFlags := 9, code := some k14c1 }
/-- java/util/Objects -/
def k14 : Class := { plain "java/util/Objects" (some 0) with
  accessFlags := 49
  interfaces := #[]
  cf := some (fileOf pool14 42 #[] #[{ accessFlags := 2, nameIndex := 5, descriptorIndex := 6, attributes := #[] }, { accessFlags := 9, nameIndex := 45, descriptorIndex := 94, attributes := #[] }] 49 2 #[] #[])
  fields := #[]
  methods := #[k14m0, k14m1]
  instanceTypes := #[]
  staticTypes := #[]
  resolved := Array.replicate 184 none
  statics := none }

def pool15 : Array CpInfo := pool [(1, u "java/lang/Cloneable"), (0, .class_ 1), (0, u "java/lang/Object"), (0, .class_ 3)] 3

/-- java/lang/Cloneable -/
def k15 : Class := { plain "java/lang/Cloneable" (some 0) with
  accessFlags := 1537
  interfaces := #[]
  cf := some (fileOf pool15 2 #[] #[] 1537 4 #[] #[])
  fields := #[]
  methods := #[]
  instanceTypes := #[]
  staticTypes := #[]
  resolved := Array.replicate 8 none
  statics := none }

/-- the primitive byte -/
def k16 : Class := { plain "byte" none with kind := .primitive 'B', accessFlags := 0x411 }
/-- [B -/
def k17 : Class := { plain "[B" (some 0) with kind := .array 16 .byte, interfaces := #[15, 4], accessFlags := 1041 }

/-- the primitive int -/
def k18 : Class := { plain "int" none with kind := .primitive 'I', accessFlags := 0x411 }
/-- [I -/
def k19 : Class := { plain "[I" (some 0) with kind := .array 18 .int, interfaces := #[15, 4], accessFlags := 1041 }

def heap : Heap := #[{ cls := 6, slots := #[.ref 2, .ref 3, .null, .null], vm := .statics 6 },
  { cls := 7, slots := #[.ref 4, .ref 5, .ref 6, .ref 7, .null, .null], vm := .statics 7 },
  { cls := 6, slots := #[.null, .int 0, .int 0, .null], vm := .none },
  { cls := 6, slots := #[.null, .int 1, .int 0, .null], vm := .none },
  { cls := 7, slots := #[.null, .int 0, .int 0, .int 0, .null, .null], vm := .none },
  { cls := 7, slots := #[.null, .int 1, .int 0, .int 0, .null, .null], vm := .none },
  { cls := 7, slots := #[.null, .int 2, .int 0, .int 1, .null, .null], vm := .none },
  { cls := 7, slots := #[.null, .int 3, .int 0, .int 1, .null, .null], vm := .none }]
def classes : Array Class := #[k0, k1, k2, k3, k4, k5, k6, k7, k8, k9, k10, k11, k12, k13, k14, k15, k16, k17, k18, k19]
def interned : List (Array UInt16 × Addr) := []
def slotsUsed : Nat := 42
def theMethod : MethodId := ⟨1, 1⟩
def args0 : Array Value := #[.long 5, .int 2, .int 3, .int 4, .int 1, .int 6]
def aboutOver (below : List Frame) : State where
  vm := { classes := classes, interned := interned.toArray }
  heap := heap
  slotsUsed := slotsUsed
  threads := #[{ frames := .invoking theMethod args0 :: below }]
def below0 : List Frame := [.native { method := ⟨0, 0⟩, args := #[] }]
def about1 : State := aboutOver below0
def p0 : Program := .bare "" "" ""
def e0 : Env := launch0.env 0 0 0
theorem w_frames : about1.frames = Frame.invoking theMethod args0 :: below0 := rfl
set_option maxRecDepth 65536 in
theorem w_args : argsFit about1.vm theMethod args0 = true := by decide +kernel
set_option maxRecDepth 65536 in
theorem w_heap : heapFits about1 = true := by decide +kernel
set_option maxRecDepth 65536 in
theorem w_runnable : about1.curStatus? = some .runnable := by decide +kernel
set_option maxRecDepth 65536 in
theorem w_alone : about1.alone = true := by decide +kernel
set_option maxRecDepth 65536 in
theorem w_named : about1.methodNamed? x = some theMethod := by decide +kernel
set_option maxRecDepth 65536 in
theorem w_hears : about1.hears theMethod below0 = true := by decide +kernel
set_option maxRecDepth 65536 in
theorem w_ripe : about1.ripe theMethod args0 below0 = true := by decide +kernel
theorem w_running : about1.status = .running := rfl
set_option maxRecDepth 65536 in
theorem w_room : about1.hasRoom e0.platform room_1 = true :=
  launch0.hasRoom_least _ room_1 (by decide +kernel) (by decide +kernel) (by decide +kernel) (by decide +kernel) (by decide +kernel) (by decide +kernel)
theorem allAtoms_all (ts : List Jvm.Cond) (a : Array Jvm.Value) (st : Jvm.State) : (allAtoms ts).before a st = ts.all (fun c => c.before a st) := by
  induction ts with
  | nil => rfl
  | cons c t ih =>
    show (Jvm.Cond.and c (allAtoms t)).before a st = _
    rw [Jvm.Cond.before_and, ih, List.all_cons]
def words1 : List Jvm.Cond := Jvm.Cond.code x code maxLocals ret :: tables_1
/-- a 'code' word, met by the world's own term for the bytes: nothing is compared byte by byte -/
theorem code_word {y : MethodName} {bytes : ByteArray} {mx : Nat} {rt : Option FieldType} {a : Array Value} {s : State} {m : MethodId} {meth : Method} {c : Code} (h1 : s.methodNamed? y = some m) (h2 : s.vm.method? m = some meth) (h3 : meth.code = some c) (h4 : c.code = bytes)
    (h5 : (c.maxLocals == mx && c.exceptionTable.isEmpty && decide (c.maxStack ≤ mostOperands) && decide (meth.sig.returnType = rt) && !meth.locks && decide (parseMethodDescriptor y.desc = some meth.sig)) = true) : (Jvm.Cond.code y bytes mx rt).before a s = true := by
  simp only [Bool.and_eq_true, beq_iff_eq, Bool.not_eq_true', decide_eq_true_eq] at h5
  obtain ⟨⟨⟨⟨⟨g1, g2⟩, g3⟩, g4⟩, g5⟩, g6⟩ := h5
  simp [Cond.before, Cond.holds, Cond.value, h1, h2, h3, h4, g1, g2, g3, g4, g5, g6]
def isCode : Jvm.Cond → Bool
  | .code _ _ _ _ => true
  | _ => false
theorem all_split {L : List Jvm.Cond} {P : Jvm.Cond → Bool} (h1 : L.all (fun c => isCode c || P c) = true) (h2 : ∀ c ∈ L.filter isCode, P c = true) : L.all P = true := by
  refine List.all_eq_true.mpr fun c hc => ?_
  have h := List.all_eq_true.mp h1 c hc
  rcases Bool.eq_false_or_eq_true (isCode c) with hi | hi
  · exact h2 c (List.mem_filter.mpr ⟨hc, hi⟩)
  · simpa [hi] using h
set_option maxRecDepth 65536 in
theorem w_c0 : (Jvm.Cond.code x code maxLocals ret).before args0 about1 = true := code_word (m := ⟨1, 1⟩) (meth := k1m1) (c := k1c1) (by decide +kernel) rfl rfl rfl (by decide +kernel)
set_option maxRecDepth 65536 in
theorem w_c1 : (Jvm.Cond.code ({ cls := "com/example/cotenant/cotenant/core/lease/LeaseRequest", name := "<init>", desc := "(JDZIIDDLcom/example/cotenant/cotenant/core/lease/LeaseRequest$Origin;Lcom/example/cotenant/cotenant/core/lease/LeaseRequest$Type;)V" } : Jvm.MethodName) prog_67_method_1_code (14 : Nat) (Option.none : Option Jvm.ClassFile.FieldType)).before args0 about1 = true := code_word (m := ⟨9, 0⟩) (meth := k9m0) (c := k9c0) (by decide +kernel) rfl rfl rfl (by decide +kernel)
set_option maxRecDepth 65536 in
theorem w_c2 : (Jvm.Cond.code ({ cls := "java/lang/Record", name := "<init>", desc := "()V" } : Jvm.MethodName) jdk_30_method_1_code (1 : Nat) (Option.none : Option Jvm.ClassFile.FieldType)).before args0 about1 = true := code_word (m := ⟨8, 0⟩) (meth := k8m0) (c := k8c0) (by decide +kernel) rfl rfl rfl (by decide +kernel)
set_option maxRecDepth 65536 in
theorem w_c3 : (Jvm.Cond.code ({ cls := "java/lang/Object", name := "<init>", desc := "()V" } : Jvm.MethodName) object_method_1_code (1 : Nat) (Option.none : Option Jvm.ClassFile.FieldType)).before args0 about1 = true := code_word (m := ⟨0, 0⟩) (meth := k0m0) (c := k0c0) (by decide +kernel) rfl rfl rfl (by decide +kernel)
set_option maxRecDepth 65536 in
theorem w_c4 : (Jvm.Cond.code ({ cls := "java/lang/Math", name := "abs", desc := "(D)D" } : Jvm.MethodName) jdk_29_method_64_code (2 : Nat) (Option.some Jvm.ClassFile.FieldType.double)).before args0 about1 = true := code_word (m := ⟨10, 1⟩) (meth := k10m1) (c := k10c1) (by decide +kernel) rfl rfl rfl (by decide +kernel)
set_option maxRecDepth 65536 in
theorem w_c5 : (Jvm.Cond.code ({ cls := "java/util/Objects", name := "requireNonNull", desc := "(Ljava/lang/Object;Ljava/lang/String;)Ljava/lang/Object;" } : Jvm.MethodName) jdk_31_method_11_code (2 : Nat) (Option.some (Jvm.ClassFile.FieldType.object "java/lang/Object"))).before args0 about1 = true := code_word (m := ⟨14, 1⟩) (meth := k14m1) (c := k14c1) (by decide +kernel) rfl rfl rfl (by decide +kernel)
set_option maxRecDepth 65536 in
theorem w_c6 : (Jvm.Cond.code ({ cls := "com/example/cotenant/cotenant/core/lease/LeaseRequest$Type", name := "bindsDeadline", desc := "()Z" } : Jvm.MethodName) prog_70_method_4_code (1 : Nat) (Option.some Jvm.ClassFile.FieldType.boolean)).before args0 about1 = true := code_word (m := ⟨7, 0⟩) (meth := k7m0) (c := k7c0) (by decide +kernel) rfl rfl rfl (by decide +kernel)
set_option maxRecDepth 65536 in
theorem w_c7 : (Jvm.Cond.code ({ cls := "com/example/cotenant/cotenant/core/lease/LeaseRequest", name := "isSetAside", desc := "()Z" } : Jvm.MethodName) prog_67_method_3_code (1 : Nat) (Option.some Jvm.ClassFile.FieldType.boolean)).before args0 about1 = true := code_word (m := ⟨9, 1⟩) (meth := k9m1) (c := k9c1) (by decide +kernel) rfl rfl rfl (by decide +kernel)
def codes1 : List Jvm.Cond := [Jvm.Cond.code x code maxLocals ret, Jvm.Cond.code ({ cls := "com/example/cotenant/cotenant/core/lease/LeaseRequest", name := "<init>", desc := "(JDZIIDDLcom/example/cotenant/cotenant/core/lease/LeaseRequest$Origin;Lcom/example/cotenant/cotenant/core/lease/LeaseRequest$Type;)V" } : Jvm.MethodName) prog_67_method_1_code (14 : Nat) (Option.none : Option Jvm.ClassFile.FieldType), Jvm.Cond.code ({ cls := "java/lang/Record", name := "<init>", desc := "()V" } : Jvm.MethodName) jdk_30_method_1_code (1 : Nat) (Option.none : Option Jvm.ClassFile.FieldType), Jvm.Cond.code ({ cls := "java/lang/Object", name := "<init>", desc := "()V" } : Jvm.MethodName) object_method_1_code (1 : Nat) (Option.none : Option Jvm.ClassFile.FieldType), Jvm.Cond.code ({ cls := "java/lang/Math", name := "abs", desc := "(D)D" } : Jvm.MethodName) jdk_29_method_64_code (2 : Nat) (Option.some Jvm.ClassFile.FieldType.double), Jvm.Cond.code ({ cls := "java/util/Objects", name := "requireNonNull", desc := "(Ljava/lang/Object;Ljava/lang/String;)Ljava/lang/Object;" } : Jvm.MethodName) jdk_31_method_11_code (2 : Nat) (Option.some (Jvm.ClassFile.FieldType.object "java/lang/Object")), Jvm.Cond.code ({ cls := "com/example/cotenant/cotenant/core/lease/LeaseRequest$Type", name := "bindsDeadline", desc := "()Z" } : Jvm.MethodName) prog_70_method_4_code (1 : Nat) (Option.some Jvm.ClassFile.FieldType.boolean), Jvm.Cond.code ({ cls := "com/example/cotenant/cotenant/core/lease/LeaseRequest", name := "isSetAside", desc := "()Z" } : Jvm.MethodName) prog_67_method_3_code (1 : Nat) (Option.some Jvm.ClassFile.FieldType.boolean)]
set_option maxRecDepth 65536 in
theorem codes_eq : words1.filter isCode = codes1 := rfl
theorem w_codes : ∀ c ∈ words1.filter isCode, c.before args0 about1 = true := by
  rw [codes_eq]
  intro c hc
  simp only [codes1, List.mem_cons, List.not_mem_nil, or_false] at hc
  rcases hc with rfl | rfl | rfl | rfl | rfl | rfl | rfl | rfl
  · exact w_c0
  · exact w_c1
  · exact w_c2
  · exact w_c3
  · exact w_c4
  · exact w_c5
  · exact w_c6
  · exact w_c7
set_option maxRecDepth 65536 in
theorem w_t1 : (words1.take 24).all (fun c => isCode c || c.before args0 about1) = true := by decide +kernel
set_option maxRecDepth 65536 in
theorem w_t2 : ((words1.drop 24).take 24).all (fun c => isCode c || c.before args0 about1) = true := by decide +kernel
set_option maxRecDepth 65536 in
theorem w_t3 : (((words1.drop 24).drop 24).take 24).all (fun c => isCode c || c.before args0 about1) = true := by decide +kernel
set_option maxRecDepth 65536 in
theorem w_t4 : (((words1.drop 24).drop 24).drop 24).all (fun c => isCode c || c.before args0 about1) = true := by decide +kernel
theorem w_tables : (allAtoms (Jvm.Cond.code x code maxLocals ret :: tables_1)).before args0 about1 = true := by
  rw [allAtoms_all]
  show words1.all (fun c => c.before args0 about1) = true
  refine all_split ?_ w_codes
  rw [← List.take_append_drop 24 words1, List.all_append, w_t1, ← List.take_append_drop 24 (words1.drop 24), List.all_append, w_t2, ← List.take_append_drop 24 ((words1.drop 24).drop 24), List.all_append, w_t3, w_t4]
  rfl
set_option maxRecDepth 65536 in
theorem w_case : (Jvm.Cond.and given_1 narrow_1).before args0 about1 = true := by decide +kernel
theorem w_applies : (headSpec (Jvm.Cond.code x code maxLocals ret :: tables_1) room_1).applies x e0.platform about1 = true :=
  (Spec.applies_iff w_frames).mpr ⟨w_running, w_runnable, w_alone, w_named, w_hears, w_ripe, w_room, w_tables⟩
theorem atStart : AtStart classFile x code maxLocals ret World_1 tables_1 room_1 Calls_1 rest_1 Pre_1 launch0 p0 e0 about1 theMethod args0 below0 :=
  ⟨lists_1, trivial, launch0.admits_env _ _ _, launch0.least_env, fairChoices_fair.cas, fairChoices_fair.clock, w_frames, w_args, w_heap, w_applies, trivial, trivial, w_case⟩
end start1
theorem witness_1 : WitnessClaimed_1 := ⟨start1.p0, start1.e0, start1.about1, start1.theMethod, start1.args0, start1.below0, start1.atStart⟩
end Jvm.Pilot.@@N@@
