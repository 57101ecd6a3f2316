import JvmDerived
import JvmDerived.Pilot.@@N@@Statement
import JvmDerived.Pilot.@@N@@Code
set_option linter.unusedVariables false
set_option linter.unusedSimpArgs false
@@BLOCK:NumsL.lean.txt@@
namespace Jvm.Pilot.@@N@@
open Jvm Jvm.ClassFile Sem Op Lib Jvm.Free Jvm.Stand Jvm.LawKit Jvm.RoadKit Bundle Jvm.Pilot.@@N@@.Jvm.D
/-! A small calculus over the library's laws: the cells that the walk itself has made stand in a list (an object: its class and fields; an array: its kind and elements); K pc locals stack cells .. says that the run from there ends as the contract says. -/
abbrev ACell := (String × List (String × String × Value)) ⊕ (FieldType × List Value)
abbrev AHeap := List ACell
def ad (n0 i : Nat) : Addr := n0 + i
theorem ad_le (n0 i : Nat) : n0 ≤ ad n0 i := Nat.le_add_right _ _
theorem ad_ne {n0 i j : Nat} (h : i ≠ j) : ad n0 i ≠ ad n0 j := fun e => h (Nat.add_left_cancel e)
def COk (Z : State) (a0 : Array Value) (h : Heap) (a : Addr) : ACell → Prop
  | .inl (C, fs) => Exa Z h a C ∧ (fs.map Prod.fst).Nodup ∧ ∀ (j : Nat) (n d : String) (v : Value), fs[j]? = some (n, d, v) → Fld Z h a C n d v ∧ Laid Z a0 C C n d ∧ ∃ t, parseFieldDescriptor d = some t
  | .inr (ty, vs) => Exa Z h a ("[" ++ ty.toString) ∧ ∃ c : Cell, Arr Z h a c ty ∧ c.slots = vs.toArray ∧ vs.length < 2147483648 ∧ ∀ v ∈ vs, fits ty v = true
def Rep (Z : State) (a0 : Array Value) (n0 : Nat) (h : Heap) (A : AHeap) : Prop := h.size = n0 + A.length ∧ ∀ (i : Nat) (c : ACell), A[i]? = some c → COk Z a0 h (ad n0 i) c
section Reps
variable {Z : State} {a0 : Array Value} {n0 : Nat} {h h' : Heap} {A : AHeap}
theorem COk.ext {a : Addr} {c : ACell} (E : Ext h h') (H : COk Z a0 h a c) : COk Z a0 h' a c := by
  match c, H with
  | .inl (C, fs), ⟨h1, h2, h3⟩ => exact ⟨h1.ext E, h2, fun j n d v hj => ⟨(h3 j n d v hj).1.ext E, (h3 j n d v hj).2⟩⟩
  | .inr (ty, vs), ⟨h0, c, h1, h2⟩ => exact ⟨h0.ext E, c, h1.ext E, h2⟩
theorem COk.other {a b : Addr} {sl : Nat} {v : Value} {c : ACell} (W : Wr h h' a sl v) (ne : b ≠ a) (H : COk Z a0 h b c) : COk Z a0 h' b c := by
  match c, H with
  | .inl (C, fs), ⟨h1, h2, h3⟩ => exact ⟨h1.wr W, h2, fun j n d v hj => ⟨(h3 j n d v hj).1.other W (Or.inl ne), (h3 j n d v hj).2⟩⟩
  | .inr (ty, vs), ⟨h0, c, h1, h2⟩ => exact ⟨h0.wr W, c, h1.other W ne, h2⟩
theorem Rep.nil (Z : State) (a0 : Array Value) (h : Heap) : Rep Z a0 h.size h [] := ⟨rfl, fun i c hi => by simp at hi⟩
theorem Rep.push {c : ACell} (H : Rep Z a0 n0 h A) (E : Ext h h') (hs : h'.size = h.size + 1) (hc : COk Z a0 h' h.size c) : Rep Z a0 n0 h' (A ++ [c]) := by
  refine ⟨by rw [hs, H.1]; simp [Nat.add_assoc], fun i d hi => ?_⟩
  rcases Nat.lt_or_ge i A.length with q | q
  · rw [List.getElem?_append_left q] at hi
    exact (H.2 i d hi).ext E
  · rw [List.getElem?_append_right q] at hi
    have hz : i - A.length = 0 := by
      rcases Nat.eq_zero_or_pos (i - A.length) with z | z
      · exact z
      · rw [List.getElem?_eq_none (by simp; omega)] at hi; cases hi
    rw [hz] at hi
    cases hi
    have : ad n0 i = h.size := by rw [H.1]; show n0 + i = _; omega
    rw [this]; exact hc
theorem Rep.wr {i : Nat} {sl : Nat} {v : Value} {c : ACell} (H : Rep Z a0 n0 h A) (W : Wr h h' (ad n0 i) sl v) (hc : COk Z a0 h' (ad n0 i) c) : Rep Z a0 n0 h' (A.set i c) := by
  refine ⟨by rw [W.size, H.1]; simp, fun j d hj => ?_⟩
  rw [List.getElem?_set] at hj
  split at hj
  · rename_i e
    subst e
    split at hj
    · cases hj; exact hc
    · cases hj
  · rename_i ne
    exact (H.2 j d hj).other W (ad_ne fun e => ne e.symm)
theorem nodup_at {L : List String} {i j : Nat} {x : String} (hn : L.Nodup) (hi : L[i]? = some x) (hj : L[j]? = some x) : i = j :=
  (List.getElem?_inj (List.getElem?_eq_some_iff.mp hi).1 hn).mp (hi.trans hj.symm)
theorem COk.put {a : Addr} {C n d : String} {v old : Value} {fs : List (String × String × Value)} {j : Nat} (H : COk Z a0 h a (.inl (C, fs))) (hj : fs[j]? = some (n, d, old)) (W : Wr h h' a (Jvm.RoadKit.slotOf Z C n d) v) : COk Z a0 h' a (.inl (C, fs.set j (n, d, v))) := by
  obtain ⟨h1, h2, h3⟩ := H
  have hm : (fs.set j (n, d, v)).map Prod.fst = fs.map Prod.fst := by
    rw [List.map_set]
    obtain ⟨hl, e⟩ := List.getElem?_eq_some_iff.mp hj
    apply List.ext_getElem?
    intro k
    rw [List.getElem?_set]
    split
    · rename_i e2; subst e2; simp [hl, e]
    · rfl
  refine ⟨h1.wr W, by rw [hm]; exact h2, fun k n' d' v' hk => ?_⟩
  rw [List.getElem?_set] at hk
  split at hk
  · rename_i e; subst e
    split at hk
    · cases hk; exact ⟨(h3 j n d old hj).1.same W, (h3 j n d old hj).2⟩
    · cases hk
  · rename_i ne
    have q := h3 k n' d' v' hk
    obtain ⟨q1, q2, t', q3⟩ := q
    obtain ⟨-, p2, t, p3⟩ := h3 j n d old hj
    refine ⟨q1.other W (Or.inr (slot_ne q2 p2 ?_ q3 p3)), q2, t', q3⟩
    intro e
    subst e
    exact ne (nodup_at h2 (i := j) (j := k) (x := n') (by simp [hj]) (by simp [hk]))
theorem COk.store {a : Addr} {ty : FieldType} {vs : List Value} {v : Value} {j : Nat} (H : COk Z a0 h a (.inr (ty, vs))) (hf : fits ty v = true) (W : Wr h h' a j v) : COk Z a0 h' a (.inr (ty, vs.set j v)) := by
  obtain ⟨h0, c, h1, h2, h3, h4⟩ := H
  refine ⟨h0.wr W, _, h1.same W, ?_, by simpa using h3, fun w hw => ?_⟩
  · show c.slots.setIfInBounds j v = _
    rw [h2]; simp
  · rcases List.mem_or_eq_of_mem_set hw with q | rfl
    · exact h4 w q
    · exact hf
def FOk (Z : State) (a0 : Array Value) (C : String) (fs : List (String × String × Value)) : Prop := (fs.map Prod.fst).Nodup ∧ ∀ f ∈ fs, Laid Z a0 C C f.1 f.2.1 ∧ ∃ t, parseFieldDescriptor f.2.1 = some t ∧ defaultValue t = f.2.2
theorem FOk.nil (C : String) : FOk Z a0 C [] := ⟨List.nodup_nil, fun f hf => nomatch hf⟩
theorem FOk.cons {C n d : String} {t : FieldType} {fs : List (String × String × Value)} (H : FOk Z a0 C fs) (L : Laid Z a0 C C n d) (ht : parseFieldDescriptor d = some t) (hn : n ∉ fs.map Prod.fst) : FOk Z a0 C ((n, d, defaultValue t) :: fs) := by
  refine ⟨by simp only [List.map_cons]; exact List.nodup_cons.mpr ⟨hn, H.1⟩, fun f hf => ?_⟩
  rcases List.mem_cons.mp hf with rfl | q
  · exact ⟨L, t, ht, rfl⟩
  · exact H.2 f q
theorem set_at {i : Nat} {c X : ACell} (h : A[i]? = some c) : (A.set i X)[i]? = some X := by
  obtain ⟨hl, -⟩ := List.getElem?_eq_some_iff.mp h
  simp [hl]
theorem set_ne {i j : Nat} {c X : ACell} (ne : i ≠ j) (h : A[j]? = some c) : (A.set i X)[j]? = some c := by
  rw [List.getElem?_set_ne ne]; exact h
end Reps
/-- Java's x >>> y -/
def ushr (x y : Int32) : Int32 := (x.toUInt32 >>> (y &&& 31).toUInt32).toInt32
def ushrL (x : Int64) (y : Int32) : Int64 := (x.toUInt64 >>> (y &&& 0x3f).toInt64.toUInt64).toInt64
abbrev KK := Nat → List Slot → List Value → AHeap → Nat → Nat → Prop
def Gd (l : Launch) (Z : State) (a0 : Array Value) (n0 b : Nat) (R : Room) (cs ss : Nat) (own nm : String) (code : ByteArray) (ml : Nat) (ret : Option FieldType) (Q : Option Value → AHeap → Prop) (K : KK) : Prop :=
  ∃ (p : Program) (e : Env) (s : State) (m : MethodId) (args : Array Value) (below : List Frame) (meth : Method) (c : Code),
    p.tables.exec = Jvm.exec ∧ c.code = code ∧ c.maxLocals = ml ∧ s.vm.findClass own = some m.cls ∧ meth.name = nm ∧ Z.Warmed39 s.vm ∧ meth.sig.returnType = ret ∧ meth.locks = false ∧ s.heap.size = n0 + b ∧
    K = fun pc Ls st A k n => ∀ (T : State) (locs : List Loc), Stand p l e R s m args below meth c T locs k n → Fr n0 locs → A.length = b + k → Rep Z a0 n0 T.heap A →
      ∃ s₂ o, Steps p.tables e below (T.setTop (mkF m pc Ls.toArray st)) s₂ ∧ s₂.status = .running ∧ Ended s₂ below o ∧ ∃ v L, o = .returned v ∧ (Fr n0 L ∧ ∃ A', Q v A' ∧ Rep Z a0 n0 s₂.heap A') ∧ FrameEnd s o s₂ L cs ss
def Meth (l : Launch) (Z : State) (a0 : Array Value) (ws : List Jvm.Cond) (y : MethodName) (bytes : ByteArray) (maxL : Nat) (ret : Option FieldType) (rm : Room) (cs ss : Nat) (n0 : Nat) (as : Array Value) (A : AHeap) (Q : Option Value → AHeap → Prop) : Prop :=
  ∀ h0, Rep Z a0 n0 h0 A → MetFree l y (head1 (Jvm.Cond.code y bytes maxL ret :: ws) rm) (fun a U => a = as ∧ Z.Warmed39 U.vm ∧ U.heap = h0) (fun _ _ _ _ _ => True)
    (fun _ U o U' => ∃ v L, o = .returned v ∧ (Fr n0 L ∧ ∃ A', Q v A' ∧ Rep Z a0 n0 U'.heap A') ∧ FrameEnd U o U' L cs ss)
section Rules
variable {l : Launch} {Z : State} {a0 : Array Value} {n0 b : Nat} {R : Room} {cs ss : Nat} {own nm : String} {code : ByteArray} {ml : Nat} {ret : Option FieldType} {Q : Option Value → AHeap → Prop} {K : KK} {pc pc' : Nat} {Ls Ls' : List Slot} {st st' : List Value} {A A' : AHeap} {k n k' n' : Nat}
theorem Meth.of {ws : List Jvm.Cond} {y : MethodName} {as : Array Value} (hp : plainFor y = true) (he : ∀ m : MethodId, entryFrame m as ml = mkF m 0 Ls.toArray []) (body : ∀ K, Gd l Z a0 n0 A.length R cs ss y.cls y.name code ml ret Q K → K 0 Ls [] A 0 0) : Meth l Z a0 ws y code ml ret R cs ss n0 as A Q := by
  intro h0 hR
  refine MetFree.of_bodySF hp hisR ?_
  intro p e s m args below meth c s₁ Bd hml0 hP hK
  obtain ⟨rfl, hZ, hh⟩ := hP
  have X0 : Stand p l e R s m args below meth c s₁ [] 0 0 := Stand.of_body Bd
  have e0 : s₁.heap = h0 := by rw [← hh, Bd.state]; rfl
  have q := body _ ⟨p, e, s, m, args, below, meth, c, Bd.exec, Bd.bytes, hml0, findClass_of_methodNamed Bd.named, (name_of_methodNamed Bd.named Bd.method).1, hZ, Bd.returns, Bd.notSynchronized, by rw [hh]; exact hR.1, rfl⟩ s₁ [] X0 (Fr.nil n0) rfl (by rw [e0]; exact hR)
  obtain ⟨s₂, o, h1, h2, h3, h4⟩ := q
  exact ⟨s₂, o, castTop (he m) h1, h2, h3, h4⟩
theorem Gd.run1 (G : Gd l Z a0 n0 b R cs ss own nm code ml ret Q K) (hst : ∀ (p : Program) (e : Env) (below : List Frame) (T target : State) (m : MethodId) (c : Code), p.tables.exec = Jvm.exec → c.code = code → At T m c below → Steps p.tables e below (T.setTop (mkF m pc' Ls'.toArray st')) target → Steps p.tables e below (T.setTop (mkF m pc Ls.toArray st)) target) (h : K pc' Ls' st' A k n) : K pc Ls st A k n := by
  obtain ⟨p, e, s, m, args, below, meth, c, hx, hby, -, -, -, -, -, -, -, rfl⟩ := G
  intro T locs X N hA RP
  obtain ⟨s₂, o, hs, r⟩ := h T locs X N hA RP
  exact ⟨s₂, o, hst p e below T s₂ m c hx hby X.here hs, r⟩
/-- the count of slots may grow -/
theorem Gd.more (G : Gd l Z a0 n0 b R cs ss own nm code ml ret Q K) (hn : n ≤ n') (h : K pc Ls st A k n') : K pc Ls st A k n := by
  obtain ⟨p, e, s, m, args, below, meth, c, hx, hby, -, -, -, -, -, -, -, rfl⟩ := G
  intro T locs X N hA RP
  exact h T locs (X.more (Nat.le_refl _) hn) N hA RP
theorem lat {L : List Slot} {i : Nat} {o : Slot} (h : L[i]? = some o) : L.toArray[i]? = some o := by simpa using h
theorem Gd.iloadN (G : Gd l Z a0 n0 b R cs ss own nm code ml ret Q K) {i : Fin 4} {v : Int32} (hd : decode code pc = .ok (.iload_n i, 1)) (hl : Ls[i.val]? = some (.val (.int v))) (h : K (pc + 1) Ls (.int v :: st) A k n) : K pc Ls st A k n :=
  G.run1 (fun _ _ _ _ _ _ _ hx hby hA r => XS.iloadN hA hx rfl (hb hby hd) (lat hl) r) h
theorem Gd.iload (G : Gd l Z a0 n0 b R cs ss own nm code ml ret Q K) {i : Nat} {v : Int32} (hd : decode code pc = .ok (.iload i, 2)) (hl : Ls[i]? = some (.val (.int v))) (h : K (pc + 2) Ls (.int v :: st) A k n) : K pc Ls st A k n :=
  G.run1 (fun _ _ _ _ _ _ _ hx hby hA r => XS.iload hA hx rfl (hb hby hd) (lat hl) r) h
theorem Gd.lloadN (G : Gd l Z a0 n0 b R cs ss own nm code ml ret Q K) {i : Fin 4} {v : Int64} (hd : decode code pc = .ok (.lload_n i, 1)) (hl : Ls[i.val]? = some (.val (.long v))) (h : K (pc + 1) Ls (.long v :: st) A k n) : K pc Ls st A k n :=
  G.run1 (fun _ _ _ _ _ _ _ hx hby hA r => XS.lloadN hA hx rfl (hb hby hd) (lat hl) r) h
theorem Gd.lload (G : Gd l Z a0 n0 b R cs ss own nm code ml ret Q K) {i : Nat} {v : Int64} (hd : decode code pc = .ok (.lload i, 2)) (hl : Ls[i]? = some (.val (.long v))) (h : K (pc + 2) Ls (.long v :: st) A k n) : K pc Ls st A k n :=
  G.run1 (fun _ _ _ _ _ _ _ hx hby hA r => XS.lload hA hx rfl (hb hby hd) (lat hl) r) h
theorem Gd.aloadN (G : Gd l Z a0 n0 b R cs ss own nm code ml ret Q K) {i : Fin 4} {v : Value} (hd : decode code pc = .ok (.aload_n i, 1)) (hl : Ls[i.val]? = some (.val v)) (hv : v.isRef = true) (h : K (pc + 1) Ls (v :: st) A k n) : K pc Ls st A k n :=
  G.run1 (fun _ _ _ _ _ _ _ hx hby hA r => XS.aloadN hA hx rfl (hb hby hd) (lat hl) hv r) h
theorem Gd.aload (G : Gd l Z a0 n0 b R cs ss own nm code ml ret Q K) {i : Nat} {v : Value} (hd : decode code pc = .ok (.aload i, 2)) (hl : Ls[i]? = some (.val v)) (hv : v.isRef = true) (h : K (pc + 2) Ls (v :: st) A k n) : K pc Ls st A k n :=
  G.run1 (fun _ _ _ _ _ _ _ hx hby hA r => XS.aload hA hx rfl (hb hby hd) (lat hl) hv r) h
theorem Gd.iconst (G : Gd l Z a0 n0 b R cs ss own nm code ml ret Q K) {i : Int} (z : Int32) (hd : decode code pc = .ok (.iconst i, 1)) (hz : Int32.ofInt i = z) (h : K (pc + 1) Ls (.int z :: st) A k n) : K pc Ls st A k n :=
  G.run1 (fun _ _ _ _ _ _ _ hx hby hA r => XS.iconst hA hx rfl (hb hby hd) (by rw [hz]; exact r)) h
theorem Gd.bipush (G : Gd l Z a0 n0 b R cs ss own nm code ml ret Q K) {i : Int} (z : Int32) (hd : decode code pc = .ok (.bipush i, 2)) (hz : (Int8.ofInt i).toInt32 = z) (h : K (pc + 2) Ls (.int z :: st) A k n) : K pc Ls st A k n :=
  G.run1 (fun _ _ _ _ _ _ _ hx hby hA r => XS.bipush hA hx rfl (hb hby hd) (by rw [hz]; exact r)) h
theorem Gd.sipush (G : Gd l Z a0 n0 b R cs ss own nm code ml ret Q K) {i : Int} (z : Int32) (hd : decode code pc = .ok (.sipush i, 3)) (hz : (Int16.ofInt i).toInt32 = z) (h : K (pc + 3) Ls (.int z :: st) A k n) : K pc Ls st A k n :=
  G.run1 (fun _ _ _ _ _ _ _ hx hby hA r => XS.sipush hA hx rfl (hb hby hd) (by rw [hz]; exact r)) h
theorem Gd.lconst (G : Gd l Z a0 n0 b R cs ss own nm code ml ret Q K) {i : Fin 2} (z : Int64) (hd : decode code pc = .ok (.lconst i, 1)) (hz : Int64.ofNat i = z) (h : K (pc + 1) Ls (.long z :: st) A k n) : K pc Ls st A k n :=
  G.run1 (fun _ _ _ _ _ _ _ hx hby hA r => XS.lconst hA hx rfl (hb hby hd) (by rw [hz]; exact r)) h
theorem Gd.aconstNull (G : Gd l Z a0 n0 b R cs ss own nm code ml ret Q K) (hd : decode code pc = .ok (.aconst_null, 1)) (h : K (pc + 1) Ls (.null :: st) A k n) : K pc Ls st A k n :=
  G.run1 (fun _ _ _ _ _ _ _ hx hby hA r => XS.aconstNull hA hx rfl (hb hby hd) r) h
theorem Gd.iadd (G : Gd l Z a0 n0 b R cs ss own nm code ml ret Q K) {x y : Int32} (hd : decode code pc = .ok (.iadd, 1)) (h : K (pc + 1) Ls (.int (x + y) :: st) A k n) : K pc Ls (.int y :: .int x :: st) A k n :=
  G.run1 (fun _ _ _ _ _ _ _ hx hby hA r => XS.iadd hA hx rfl (hb hby hd) rfl r) h
theorem Gd.isub (G : Gd l Z a0 n0 b R cs ss own nm code ml ret Q K) {x y : Int32} (hd : decode code pc = .ok (.isub, 1)) (h : K (pc + 1) Ls (.int (x - y) :: st) A k n) : K pc Ls (.int y :: .int x :: st) A k n :=
  G.run1 (fun _ _ _ _ _ _ _ hx hby hA r => XS.isub hA hx rfl (hb hby hd) rfl r) h
theorem Gd.imul (G : Gd l Z a0 n0 b R cs ss own nm code ml ret Q K) {x y : Int32} (hd : decode code pc = .ok (.imul, 1)) (h : K (pc + 1) Ls (.int (x * y) :: st) A k n) : K pc Ls (.int y :: .int x :: st) A k n :=
  G.run1 (fun _ _ _ _ _ _ _ hx hby hA r => XS.imul hA hx rfl (hb hby hd) rfl r) h
theorem Gd.iand (G : Gd l Z a0 n0 b R cs ss own nm code ml ret Q K) {x y : Int32} (hd : decode code pc = .ok (.iand, 1)) (h : K (pc + 1) Ls (.int (x &&& y) :: st) A k n) : K pc Ls (.int y :: .int x :: st) A k n :=
  G.run1 (fun _ _ _ _ _ _ _ hx hby hA r => XS.iand hA hx rfl (hb hby hd) rfl r) h
theorem Gd.ior (G : Gd l Z a0 n0 b R cs ss own nm code ml ret Q K) {x y : Int32} (hd : decode code pc = .ok (.ior, 1)) (h : K (pc + 1) Ls (.int (x ||| y) :: st) A k n) : K pc Ls (.int y :: .int x :: st) A k n :=
  G.run1 (fun _ _ _ _ _ _ _ hx hby hA r => XS.ior hA hx rfl (hb hby hd) rfl r) h
theorem Gd.ixor (G : Gd l Z a0 n0 b R cs ss own nm code ml ret Q K) {x y : Int32} (hd : decode code pc = .ok (.ixor, 1)) (h : K (pc + 1) Ls (.int (x ^^^ y) :: st) A k n) : K pc Ls (.int y :: .int x :: st) A k n :=
  G.run1 (fun _ _ _ _ _ _ _ hx hby hA r => XS.ixor hA hx rfl (hb hby hd) rfl r) h
theorem Gd.ishl (G : Gd l Z a0 n0 b R cs ss own nm code ml ret Q K) {x y : Int32} (hd : decode code pc = .ok (.ishl, 1)) (h : K (pc + 1) Ls (.int (x <<< (y &&& 31)) :: st) A k n) : K pc Ls (.int y :: .int x :: st) A k n :=
  G.run1 (fun _ _ _ _ _ _ _ hx hby hA r => XS.ishl hA hx rfl (hb hby hd) rfl r) h
theorem Gd.ishr (G : Gd l Z a0 n0 b R cs ss own nm code ml ret Q K) {x y : Int32} (hd : decode code pc = .ok (.ishr, 1)) (h : K (pc + 1) Ls (.int (x >>> (y &&& 31)) :: st) A k n) : K pc Ls (.int y :: .int x :: st) A k n :=
  G.run1 (fun _ _ _ _ _ _ _ hx hby hA r => XS.ishr hA hx rfl (hb hby hd) rfl r) h
theorem Gd.iushr (G : Gd l Z a0 n0 b R cs ss own nm code ml ret Q K) {x y : Int32} (hd : decode code pc = .ok (.iushr, 1)) (h : K (pc + 1) Ls (.int (ushr x y) :: st) A k n) : K pc Ls (.int y :: .int x :: st) A k n :=
  G.run1 (fun _ _ _ _ _ _ _ hx hby hA r => XS.iushr hA hx rfl (hb hby hd) rfl r) h
theorem Gd.ladd (G : Gd l Z a0 n0 b R cs ss own nm code ml ret Q K) {x y : Int64} (hd : decode code pc = .ok (.ladd, 1)) (h : K (pc + 1) Ls (.long (x + y) :: st) A k n) : K pc Ls (.long y :: .long x :: st) A k n :=
  G.run1 (fun _ _ _ _ _ _ _ hx hby hA r => XS.ladd hA hx rfl (hb hby hd) rfl r) h
theorem Gd.lsub (G : Gd l Z a0 n0 b R cs ss own nm code ml ret Q K) {x y : Int64} (hd : decode code pc = .ok (.lsub, 1)) (h : K (pc + 1) Ls (.long (x - y) :: st) A k n) : K pc Ls (.long y :: .long x :: st) A k n :=
  G.run1 (fun _ _ _ _ _ _ _ hx hby hA r => XS.lsub hA hx rfl (hb hby hd) rfl r) h
theorem Gd.lmul (G : Gd l Z a0 n0 b R cs ss own nm code ml ret Q K) {x y : Int64} (hd : decode code pc = .ok (.lmul, 1)) (h : K (pc + 1) Ls (.long (x * y) :: st) A k n) : K pc Ls (.long y :: .long x :: st) A k n :=
  G.run1 (fun _ _ _ _ _ _ _ hx hby hA r => XS.lmul hA hx rfl (hb hby hd) rfl r) h
theorem Gd.land (G : Gd l Z a0 n0 b R cs ss own nm code ml ret Q K) {x y : Int64} (hd : decode code pc = .ok (.land, 1)) (h : K (pc + 1) Ls (.long (x &&& y) :: st) A k n) : K pc Ls (.long y :: .long x :: st) A k n :=
  G.run1 (fun _ _ _ _ _ _ _ hx hby hA r => XS.land hA hx rfl (hb hby hd) rfl r) h
theorem Gd.lor (G : Gd l Z a0 n0 b R cs ss own nm code ml ret Q K) {x y : Int64} (hd : decode code pc = .ok (.lor, 1)) (h : K (pc + 1) Ls (.long (x ||| y) :: st) A k n) : K pc Ls (.long y :: .long x :: st) A k n :=
  G.run1 (fun _ _ _ _ _ _ _ hx hby hA r => XS.lor hA hx rfl (hb hby hd) rfl r) h
theorem Gd.lxor (G : Gd l Z a0 n0 b R cs ss own nm code ml ret Q K) {x y : Int64} (hd : decode code pc = .ok (.lxor, 1)) (h : K (pc + 1) Ls (.long (x ^^^ y) :: st) A k n) : K pc Ls (.long y :: .long x :: st) A k n :=
  G.run1 (fun _ _ _ _ _ _ _ hx hby hA r => XS.lxor hA hx rfl (hb hby hd) rfl r) h
theorem Gd.lshl (G : Gd l Z a0 n0 b R cs ss own nm code ml ret Q K) {x : Int64} {y : Int32} (hd : decode code pc = .ok (.lshl, 1)) (h : K (pc + 1) Ls (.long (x <<< (y &&& 0x3f).toInt64) :: st) A k n) : K pc Ls (.int y :: .long x :: st) A k n :=
  G.run1 (fun _ _ _ _ _ _ _ hx hby hA r => XS.lshl hA hx rfl (hb hby hd) rfl r) h
theorem Gd.lshr (G : Gd l Z a0 n0 b R cs ss own nm code ml ret Q K) {x : Int64} {y : Int32} (hd : decode code pc = .ok (.lshr, 1)) (h : K (pc + 1) Ls (.long (x >>> (y &&& 0x3f).toInt64) :: st) A k n) : K pc Ls (.int y :: .long x :: st) A k n :=
  G.run1 (fun _ _ _ _ _ _ _ hx hby hA r => XS.lshr hA hx rfl (hb hby hd) rfl r) h
theorem Gd.lushr (G : Gd l Z a0 n0 b R cs ss own nm code ml ret Q K) {x : Int64} {y : Int32} (hd : decode code pc = .ok (.lushr, 1)) (h : K (pc + 1) Ls (.long (ushrL x y) :: st) A k n) : K pc Ls (.int y :: .long x :: st) A k n :=
  G.run1 (fun _ _ _ _ _ _ _ hx hby hA r => XS.lushr hA hx rfl (hb hby hd) rfl r) h
theorem Gd.ineg (G : Gd l Z a0 n0 b R cs ss own nm code ml ret Q K) {x : Int32} (hd : decode code pc = .ok (.ineg, 1)) (h : K (pc + 1) Ls (.int (-x) :: st) A k n) : K pc Ls (.int x :: st) A k n :=
  G.run1 (fun _ _ _ _ _ _ _ hx hby hA r => XS.ineg hA hx rfl (hb hby hd) rfl r) h
theorem Gd.lneg (G : Gd l Z a0 n0 b R cs ss own nm code ml ret Q K) {x : Int64} (hd : decode code pc = .ok (.lneg, 1)) (h : K (pc + 1) Ls (.long (-x) :: st) A k n) : K pc Ls (.long x :: st) A k n :=
  G.run1 (fun _ _ _ _ _ _ _ hx hby hA r => XS.lneg hA hx rfl (hb hby hd) rfl r) h
theorem Gd.i2l (G : Gd l Z a0 n0 b R cs ss own nm code ml ret Q K) {x : Int32} (hd : decode code pc = .ok (.i2l, 1)) (h : K (pc + 1) Ls (.long (x.toInt64) :: st) A k n) : K pc Ls (.int x :: st) A k n :=
  G.run1 (fun _ _ _ _ _ _ _ hx hby hA r => XS.i2l hA hx rfl (hb hby hd) rfl r) h
theorem Gd.l2i (G : Gd l Z a0 n0 b R cs ss own nm code ml ret Q K) {x : Int64} (hd : decode code pc = .ok (.l2i, 1)) (h : K (pc + 1) Ls (.int (x.toInt32) :: st) A k n) : K pc Ls (.long x :: st) A k n :=
  G.run1 (fun _ _ _ _ _ _ _ hx hby hA r => XS.l2i hA hx rfl (hb hby hd) rfl r) h
theorem Gd.i2b (G : Gd l Z a0 n0 b R cs ss own nm code ml ret Q K) {x : Int32} (hd : decode code pc = .ok (.i2b, 1)) (h : K (pc + 1) Ls (.int (x.toInt8.toInt32) :: st) A k n) : K pc Ls (.int x :: st) A k n :=
  G.run1 (fun _ _ _ _ _ _ _ hx hby hA r => XS.i2b hA hx rfl (hb hby hd) rfl r) h
theorem Gd.i2c (G : Gd l Z a0 n0 b R cs ss own nm code ml ret Q K) {x : Int32} (hd : decode code pc = .ok (.i2c, 1)) (h : K (pc + 1) Ls (.int (x.toUInt32.toUInt16.toUInt32.toInt32) :: st) A k n) : K pc Ls (.int x :: st) A k n :=
  G.run1 (fun _ _ _ _ _ _ _ hx hby hA r => XS.i2c hA hx rfl (hb hby hd) rfl r) h
theorem Gd.i2s (G : Gd l Z a0 n0 b R cs ss own nm code ml ret Q K) {x : Int32} (hd : decode code pc = .ok (.i2s, 1)) (h : K (pc + 1) Ls (.int (x.toInt16.toInt32) :: st) A k n) : K pc Ls (.int x :: st) A k n :=
  G.run1 (fun _ _ _ _ _ _ _ hx hby hA r => XS.i2s hA hx rfl (hb hby hd) rfl r) h
theorem Gd.irem (G : Gd l Z a0 n0 b R cs ss own nm code ml ret Q K) {x y : Int32} (hd : decode code pc = .ok (.irem, 1)) (hy : y ≠ 0) (h : K (pc + 1) Ls (.int (x % y) :: st) A k n) : K pc Ls (.int y :: .int x :: st) A k n :=
  G.run1 (fun _ _ _ _ _ _ _ hx hby hA r => XS.irem hA hx rfl (hb hby hd) rfl hy (by have q : x - x / y * y = x % y := irem_eq_mod x y; rw [q]; exact r)) h
theorem Gd.lcmp (G : Gd l Z a0 n0 b R cs ss own nm code ml ret Q K) {x y : Int64} (hd : decode code pc = .ok (.lcmp, 1)) (h : K (pc + 1) Ls (.int (lcmpW x y) :: st) A k n) : K pc Ls (.long y :: .long x :: st) A k n :=
  G.run1 (fun _ _ _ _ _ _ _ hx hby hA r => XS.lcmp hA hx rfl (hb hby hd) rfl r) h
theorem Gd.dup (G : Gd l Z a0 n0 b R cs ss own nm code ml ret Q K) {x : Value} (hd : decode code pc = .ok (.dup, 1)) (hc : x.category = 1) (h : K (pc + 1) Ls (x :: x :: st) A k n) : K pc Ls (x :: st) A k n :=
  G.run1 (fun _ _ _ _ _ _ _ hx hby hA r => XS.dup hA hx rfl (hb hby hd) rfl hc r) h
theorem Gd.pop (G : Gd l Z a0 n0 b R cs ss own nm code ml ret Q K) {x : Value} (hd : decode code pc = .ok (.pop, 1)) (hc : x.category = 1) (h : K (pc + 1) Ls st A k n) : K pc Ls (x :: st) A k n :=
  G.run1 (fun _ _ _ _ _ _ _ hx hby hA r => XS.pop hA hx rfl (hb hby hd) rfl hc r) h
theorem Gd.dupX1 (G : Gd l Z a0 n0 b R cs ss own nm code ml ret Q K) {x y : Value} (hd : decode code pc = .ok (.dup_x1, 1)) (hc : x.category = 1) (hc' : y.category = 1) (h : K (pc + 1) Ls (x :: y :: x :: st) A k n) : K pc Ls (x :: y :: st) A k n :=
  G.run1 (fun _ _ _ _ _ _ _ hx hby hA r => XS.dupX1 hA hx rfl (hb hby hd) rfl hc hc' r) h
theorem Gd.dup2 (G : Gd l Z a0 n0 b R cs ss own nm code ml ret Q K) {x y : Value} (hd : decode code pc = .ok (.dup2, 1)) (hc : x.category = 1) (hc' : y.category = 1) (h : K (pc + 1) Ls (x :: y :: x :: y :: st) A k n) : K pc Ls (x :: y :: st) A k n :=
  G.run1 (fun _ _ _ _ _ _ _ hx hby hA r => Jvm.Free.XT.dup2 hA hx rfl (hb hby hd) rfl hc hc' r) h
theorem Gd.astore11 (G : Gd l Z a0 n0 b R cs ss own nm code ml ret Q K) {u0 u1 u2 u3 u4 u5 u6 u7 u8 u9 u10 o : Slot} {r : List Slot} {x : Value} (hd : decode code pc = .ok (.astore 11, 2)) (hv : x.isRef = true) (hl : storeLocals (u0 :: u1 :: u2 :: u3 :: u4 :: u5 :: u6 :: u7 :: u8 :: u9 :: u10 :: o :: r).toArray 11 (x) = some (u0 :: u1 :: u2 :: u3 :: u4 :: u5 :: u6 :: u7 :: u8 :: u9 :: u10 :: .val x :: r).toArray) (h : K (pc + 2) (u0 :: u1 :: u2 :: u3 :: u4 :: u5 :: u6 :: u7 :: u8 :: u9 :: u10 :: .val x :: r) st A k n) : K pc (u0 :: u1 :: u2 :: u3 :: u4 :: u5 :: u6 :: u7 :: u8 :: u9 :: u10 :: o :: r) (x :: st) A k n :=
  G.run1 (fun _ _ _ _ _ _ _ hx hby hA r => XS.astore hA hx rfl (hb hby hd) rfl hv hl r) h
theorem Gd.iinc1 (G : Gd l Z a0 n0 b R cs ss own nm code ml ret Q K) {u0 : Slot} {r : List Slot} {x : Int32} {cst : Int} (z : Int32) (hd : decode code pc = .ok (.iinc 1 cst, 3)) (hz : Int32.ofInt cst = z) (hl : storeLocals (u0 :: .val (.int x) :: r).toArray 1 (.int (x + z)) = some (u0 :: .val (.int (x + z)) :: r).toArray) (h : K (pc + 3) (u0 :: .val (.int (x + z)) :: r) st A k n) : K pc (u0 :: .val (.int x) :: r) st A k n := by
  subst hz
  exact G.run1 (fun _ _ _ _ _ _ _ hx hby hA r => XS.iinc hA hx rfl (hb hby hd) (by simp) hl r) h
theorem Gd.istore5 (G : Gd l Z a0 n0 b R cs ss own nm code ml ret Q K) {u0 u1 u2 u3 u4 o : Slot} {r : List Slot} {x : Int32} (hd : decode code pc = .ok (.istore 5, 2)) (hl : storeLocals (u0 :: u1 :: u2 :: u3 :: u4 :: o :: r).toArray 5 (.int x) = some (u0 :: u1 :: u2 :: u3 :: u4 :: .val (.int x) :: r).toArray) (h : K (pc + 2) (u0 :: u1 :: u2 :: u3 :: u4 :: .val (.int x) :: r) st A k n) : K pc (u0 :: u1 :: u2 :: u3 :: u4 :: o :: r) (.int x :: st) A k n :=
  G.run1 (fun _ _ _ _ _ _ _ hx hby hA r => XS.istore hA hx rfl (hb hby hd) rfl hl r) h
theorem Gd.istore6 (G : Gd l Z a0 n0 b R cs ss own nm code ml ret Q K) {u0 u1 u2 u3 u4 u5 o : Slot} {r : List Slot} {x : Int32} (hd : decode code pc = .ok (.istore 6, 2)) (hl : storeLocals (u0 :: u1 :: u2 :: u3 :: u4 :: u5 :: o :: r).toArray 6 (.int x) = some (u0 :: u1 :: u2 :: u3 :: u4 :: u5 :: .val (.int x) :: r).toArray) (h : K (pc + 2) (u0 :: u1 :: u2 :: u3 :: u4 :: u5 :: .val (.int x) :: r) st A k n) : K pc (u0 :: u1 :: u2 :: u3 :: u4 :: u5 :: o :: r) (.int x :: st) A k n :=
  G.run1 (fun _ _ _ _ _ _ _ hx hby hA r => XS.istore hA hx rfl (hb hby hd) rfl hl r) h
theorem Gd.istore7 (G : Gd l Z a0 n0 b R cs ss own nm code ml ret Q K) {u0 u1 u2 u3 u4 u5 u6 o : Slot} {r : List Slot} {x : Int32} (hd : decode code pc = .ok (.istore 7, 2)) (hl : storeLocals (u0 :: u1 :: u2 :: u3 :: u4 :: u5 :: u6 :: o :: r).toArray 7 (.int x) = some (u0 :: u1 :: u2 :: u3 :: u4 :: u5 :: u6 :: .val (.int x) :: r).toArray) (h : K (pc + 2) (u0 :: u1 :: u2 :: u3 :: u4 :: u5 :: u6 :: .val (.int x) :: r) st A k n) : K pc (u0 :: u1 :: u2 :: u3 :: u4 :: u5 :: u6 :: o :: r) (.int x :: st) A k n :=
  G.run1 (fun _ _ _ _ _ _ _ hx hby hA r => XS.istore hA hx rfl (hb hby hd) rfl hl r) h
theorem Gd.istore8 (G : Gd l Z a0 n0 b R cs ss own nm code ml ret Q K) {u0 u1 u2 u3 u4 u5 u6 u7 o : Slot} {r : List Slot} {x : Int32} (hd : decode code pc = .ok (.istore 8, 2)) (hl : storeLocals (u0 :: u1 :: u2 :: u3 :: u4 :: u5 :: u6 :: u7 :: o :: r).toArray 8 (.int x) = some (u0 :: u1 :: u2 :: u3 :: u4 :: u5 :: u6 :: u7 :: .val (.int x) :: r).toArray) (h : K (pc + 2) (u0 :: u1 :: u2 :: u3 :: u4 :: u5 :: u6 :: u7 :: .val (.int x) :: r) st A k n) : K pc (u0 :: u1 :: u2 :: u3 :: u4 :: u5 :: u6 :: u7 :: o :: r) (.int x :: st) A k n :=
  G.run1 (fun _ _ _ _ _ _ _ hx hby hA r => XS.istore hA hx rfl (hb hby hd) rfl hl r) h
theorem Gd.istore9 (G : Gd l Z a0 n0 b R cs ss own nm code ml ret Q K) {u0 u1 u2 u3 u4 u5 u6 u7 u8 o : Slot} {r : List Slot} {x : Int32} (hd : decode code pc = .ok (.istore 9, 2)) (hl : storeLocals (u0 :: u1 :: u2 :: u3 :: u4 :: u5 :: u6 :: u7 :: u8 :: o :: r).toArray 9 (.int x) = some (u0 :: u1 :: u2 :: u3 :: u4 :: u5 :: u6 :: u7 :: u8 :: .val (.int x) :: r).toArray) (h : K (pc + 2) (u0 :: u1 :: u2 :: u3 :: u4 :: u5 :: u6 :: u7 :: u8 :: .val (.int x) :: r) st A k n) : K pc (u0 :: u1 :: u2 :: u3 :: u4 :: u5 :: u6 :: u7 :: u8 :: o :: r) (.int x :: st) A k n :=
  G.run1 (fun _ _ _ _ _ _ _ hx hby hA r => XS.istore hA hx rfl (hb hby hd) rfl hl r) h
theorem Gd.istore10 (G : Gd l Z a0 n0 b R cs ss own nm code ml ret Q K) {u0 u1 u2 u3 u4 u5 u6 u7 u8 u9 o : Slot} {r : List Slot} {x : Int32} (hd : decode code pc = .ok (.istore 10, 2)) (hl : storeLocals (u0 :: u1 :: u2 :: u3 :: u4 :: u5 :: u6 :: u7 :: u8 :: u9 :: o :: r).toArray 10 (.int x) = some (u0 :: u1 :: u2 :: u3 :: u4 :: u5 :: u6 :: u7 :: u8 :: u9 :: .val (.int x) :: r).toArray) (h : K (pc + 2) (u0 :: u1 :: u2 :: u3 :: u4 :: u5 :: u6 :: u7 :: u8 :: u9 :: .val (.int x) :: r) st A k n) : K pc (u0 :: u1 :: u2 :: u3 :: u4 :: u5 :: u6 :: u7 :: u8 :: u9 :: o :: r) (.int x :: st) A k n :=
  G.run1 (fun _ _ _ _ _ _ _ hx hby hA r => XS.istore hA hx rfl (hb hby hd) rfl hl r) h
theorem Gd.istore12 (G : Gd l Z a0 n0 b R cs ss own nm code ml ret Q K) {u0 u1 u2 u3 u4 u5 u6 u7 u8 u9 u10 u11 o : Slot} {r : List Slot} {x : Int32} (hd : decode code pc = .ok (.istore 12, 2)) (hl : storeLocals (u0 :: u1 :: u2 :: u3 :: u4 :: u5 :: u6 :: u7 :: u8 :: u9 :: u10 :: u11 :: o :: r).toArray 12 (.int x) = some (u0 :: u1 :: u2 :: u3 :: u4 :: u5 :: u6 :: u7 :: u8 :: u9 :: u10 :: u11 :: .val (.int x) :: r).toArray) (h : K (pc + 2) (u0 :: u1 :: u2 :: u3 :: u4 :: u5 :: u6 :: u7 :: u8 :: u9 :: u10 :: u11 :: .val (.int x) :: r) st A k n) : K pc (u0 :: u1 :: u2 :: u3 :: u4 :: u5 :: u6 :: u7 :: u8 :: u9 :: u10 :: u11 :: o :: r) (.int x :: st) A k n :=
  G.run1 (fun _ _ _ _ _ _ _ hx hby hA r => XS.istore hA hx rfl (hb hby hd) rfl hl r) h
theorem Gd.istoreN1 (G : Gd l Z a0 n0 b R cs ss own nm code ml ret Q K) {u0 o : Slot} {r : List Slot} {x : Int32} (hd : decode code pc = .ok (.istore_n ⟨1, by decide⟩, 1)) (hl : storeLocals (u0 :: o :: r).toArray 1 (.int x) = some (u0 :: .val (.int x) :: r).toArray) (h : K (pc + 1) (u0 :: .val (.int x) :: r) st A k n) : K pc (u0 :: o :: r) (.int x :: st) A k n :=
  G.run1 (fun _ _ _ _ _ _ _ hx hby hA r => XS.istoreN hA hx rfl (hb hby hd) rfl hl r) h
theorem Gd.istoreN2 (G : Gd l Z a0 n0 b R cs ss own nm code ml ret Q K) {u0 u1 o : Slot} {r : List Slot} {x : Int32} (hd : decode code pc = .ok (.istore_n ⟨2, by decide⟩, 1)) (hl : storeLocals (u0 :: u1 :: o :: r).toArray 2 (.int x) = some (u0 :: u1 :: .val (.int x) :: r).toArray) (h : K (pc + 1) (u0 :: u1 :: .val (.int x) :: r) st A k n) : K pc (u0 :: u1 :: o :: r) (.int x :: st) A k n :=
  G.run1 (fun _ _ _ _ _ _ _ hx hby hA r => XS.istoreN hA hx rfl (hb hby hd) rfl hl r) h
theorem Gd.istoreN3 (G : Gd l Z a0 n0 b R cs ss own nm code ml ret Q K) {u0 u1 u2 o : Slot} {r : List Slot} {x : Int32} (hd : decode code pc = .ok (.istore_n ⟨3, by decide⟩, 1)) (hl : storeLocals (u0 :: u1 :: u2 :: o :: r).toArray 3 (.int x) = some (u0 :: u1 :: u2 :: .val (.int x) :: r).toArray) (h : K (pc + 1) (u0 :: u1 :: u2 :: .val (.int x) :: r) st A k n) : K pc (u0 :: u1 :: u2 :: o :: r) (.int x :: st) A k n :=
  G.run1 (fun _ _ _ _ _ _ _ hx hby hA r => XS.istoreN hA hx rfl (hb hby hd) rfl hl r) h
theorem Gd.goto (G : Gd l Z a0 n0 b R cs ss own nm code ml ret Q K) {o : Int} (pc' : Nat) (hd : decode code pc = .ok (.goto o, 3)) (ho : 0 ≤ (pc : Int) + o) (hp : ((pc : Int) + o).toNat = pc') (h : K pc' Ls st A k n) : K pc Ls st A k n :=
  G.run1 (fun _ _ _ _ _ _ _ hx hby hA r => XS.goto hA hx rfl rfl (hb hby hd) ho hp r) h
theorem Gd.icmp (G : Gd l Z a0 n0 b R cs ss own nm code ml ret Q K) {cd : ClassFile.Cond} {o : Int} {x y : Int32} (pc' : Nat) (hd : decode code pc = .ok (.if_icmp cd o, 3)) (ho : 0 ≤ (pc : Int) + o) (hp : ((pc : Int) + o).toNat = pc') (h1 : if_icmp.holds cd x y = true → K pc' Ls st A k n) (h2 : if_icmp.holds cd x y = false → K (pc + 3) Ls st A k n) : K pc Ls (.int y :: .int x :: st) A k n := by
  cases q : if_icmp.holds cd x y with
  | true => exact G.run1 (fun _ _ _ _ _ _ _ hx hby hA r => XS.icmpYes hA hx rfl rfl (hb hby hd) rfl q ho hp r) (h1 q)
  | false => exact G.run1 (fun _ _ _ _ _ _ _ hx hby hA r => XS.icmpNo hA hx rfl (hb hby hd) rfl q r) (h2 q)
theorem Gd.ifc (G : Gd l Z a0 n0 b R cs ss own nm code ml ret Q K) {cd : ClassFile.Cond} {o : Int} {x : Int32} (pc' : Nat) (hd : decode code pc = .ok (.ifCond cd o, 3)) (ho : 0 ≤ (pc : Int) + o) (hp : ((pc : Int) + o).toNat = pc') (h1 : if_icmp.holds cd x 0 = true → K pc' Ls st A k n) (h2 : if_icmp.holds cd x 0 = false → K (pc + 3) Ls st A k n) : K pc Ls (.int x :: st) A k n := by
  cases q : if_icmp.holds cd x 0 with
  | true => exact G.run1 (fun _ _ _ _ _ _ _ hx hby hA r => XS.ifYes hA hx rfl rfl (hb hby hd) rfl ((if0 _ _).trans q) ho hp r) (h1 q)
  | false => exact G.run1 (fun _ _ _ _ _ _ _ hx hby hA r => XS.ifNo hA hx rfl (hb hby hd) rfl ((if0 _ _).trans q) r) (h2 q)
theorem hI_eq {x y : Int32} : (if_icmp.holds .eq x y = true → x = y) ∧ (if_icmp.holds .eq x y = false → ¬ x = y) := by simp [if_icmp.holds, Int32.not_lt, Int32.not_le]
theorem Gd.icmp_eq (G : Gd l Z a0 n0 b R cs ss own nm code ml ret Q K) {o : Int} {x y : Int32} (pc' : Nat) (hd : decode code pc = .ok (.if_icmp .eq o, 3)) (ho : 0 ≤ (pc : Int) + o) (hp : ((pc : Int) + o).toNat = pc') (h1 : x = y → K pc' Ls st A k n) (h2 : ¬ x = y → K (pc + 3) Ls st A k n) : K pc Ls (.int y :: .int x :: st) A k n :=
  G.icmp pc' hd ho hp (fun q => h1 (hI_eq.1 q)) (fun q => h2 (hI_eq.2 q))
theorem Gd.if_eq (G : Gd l Z a0 n0 b R cs ss own nm code ml ret Q K) {o : Int} {x : Int32} (pc' : Nat) (hd : decode code pc = .ok (.ifCond .eq o, 3)) (ho : 0 ≤ (pc : Int) + o) (hp : ((pc : Int) + o).toNat = pc') (h1 : x = 0 → K pc' Ls st A k n) (h2 : ¬ x = 0 → K (pc + 3) Ls st A k n) : K pc Ls (.int x :: st) A k n :=
  G.ifc pc' hd ho hp (fun q => h1 (hI_eq.1 q)) (fun q => h2 (hI_eq.2 q))
theorem hI_ne {x y : Int32} : (if_icmp.holds .ne x y = true → ¬ x = y) ∧ (if_icmp.holds .ne x y = false → x = y) := by simp [if_icmp.holds, Int32.not_lt, Int32.not_le]
theorem Gd.icmp_ne (G : Gd l Z a0 n0 b R cs ss own nm code ml ret Q K) {o : Int} {x y : Int32} (pc' : Nat) (hd : decode code pc = .ok (.if_icmp .ne o, 3)) (ho : 0 ≤ (pc : Int) + o) (hp : ((pc : Int) + o).toNat = pc') (h1 : ¬ x = y → K pc' Ls st A k n) (h2 : x = y → K (pc + 3) Ls st A k n) : K pc Ls (.int y :: .int x :: st) A k n :=
  G.icmp pc' hd ho hp (fun q => h1 (hI_ne.1 q)) (fun q => h2 (hI_ne.2 q))
theorem Gd.if_ne (G : Gd l Z a0 n0 b R cs ss own nm code ml ret Q K) {o : Int} {x : Int32} (pc' : Nat) (hd : decode code pc = .ok (.ifCond .ne o, 3)) (ho : 0 ≤ (pc : Int) + o) (hp : ((pc : Int) + o).toNat = pc') (h1 : ¬ x = 0 → K pc' Ls st A k n) (h2 : x = 0 → K (pc + 3) Ls st A k n) : K pc Ls (.int x :: st) A k n :=
  G.ifc pc' hd ho hp (fun q => h1 (hI_ne.1 q)) (fun q => h2 (hI_ne.2 q))
theorem hI_lt {x y : Int32} : (if_icmp.holds .lt x y = true → x < y) ∧ (if_icmp.holds .lt x y = false → ¬ x < y) := by simp [if_icmp.holds, Int32.not_lt, Int32.not_le]
theorem Gd.icmp_lt (G : Gd l Z a0 n0 b R cs ss own nm code ml ret Q K) {o : Int} {x y : Int32} (pc' : Nat) (hd : decode code pc = .ok (.if_icmp .lt o, 3)) (ho : 0 ≤ (pc : Int) + o) (hp : ((pc : Int) + o).toNat = pc') (h1 : x < y → K pc' Ls st A k n) (h2 : ¬ x < y → K (pc + 3) Ls st A k n) : K pc Ls (.int y :: .int x :: st) A k n :=
  G.icmp pc' hd ho hp (fun q => h1 (hI_lt.1 q)) (fun q => h2 (hI_lt.2 q))
theorem Gd.if_lt (G : Gd l Z a0 n0 b R cs ss own nm code ml ret Q K) {o : Int} {x : Int32} (pc' : Nat) (hd : decode code pc = .ok (.ifCond .lt o, 3)) (ho : 0 ≤ (pc : Int) + o) (hp : ((pc : Int) + o).toNat = pc') (h1 : x < 0 → K pc' Ls st A k n) (h2 : ¬ x < 0 → K (pc + 3) Ls st A k n) : K pc Ls (.int x :: st) A k n :=
  G.ifc pc' hd ho hp (fun q => h1 (hI_lt.1 q)) (fun q => h2 (hI_lt.2 q))
theorem hI_ge {x y : Int32} : (if_icmp.holds .ge x y = true → ¬ x < y) ∧ (if_icmp.holds .ge x y = false → x < y) := by simp [if_icmp.holds, Int32.not_lt, Int32.not_le]
theorem Gd.icmp_ge (G : Gd l Z a0 n0 b R cs ss own nm code ml ret Q K) {o : Int} {x y : Int32} (pc' : Nat) (hd : decode code pc = .ok (.if_icmp .ge o, 3)) (ho : 0 ≤ (pc : Int) + o) (hp : ((pc : Int) + o).toNat = pc') (h1 : ¬ x < y → K pc' Ls st A k n) (h2 : x < y → K (pc + 3) Ls st A k n) : K pc Ls (.int y :: .int x :: st) A k n :=
  G.icmp pc' hd ho hp (fun q => h1 (hI_ge.1 q)) (fun q => h2 (hI_ge.2 q))
theorem Gd.if_ge (G : Gd l Z a0 n0 b R cs ss own nm code ml ret Q K) {o : Int} {x : Int32} (pc' : Nat) (hd : decode code pc = .ok (.ifCond .ge o, 3)) (ho : 0 ≤ (pc : Int) + o) (hp : ((pc : Int) + o).toNat = pc') (h1 : ¬ x < 0 → K pc' Ls st A k n) (h2 : x < 0 → K (pc + 3) Ls st A k n) : K pc Ls (.int x :: st) A k n :=
  G.ifc pc' hd ho hp (fun q => h1 (hI_ge.1 q)) (fun q => h2 (hI_ge.2 q))
theorem hI_gt {x y : Int32} : (if_icmp.holds .gt x y = true → y < x) ∧ (if_icmp.holds .gt x y = false → ¬ y < x) := by simp [if_icmp.holds, Int32.not_lt, Int32.not_le]
theorem Gd.icmp_gt (G : Gd l Z a0 n0 b R cs ss own nm code ml ret Q K) {o : Int} {x y : Int32} (pc' : Nat) (hd : decode code pc = .ok (.if_icmp .gt o, 3)) (ho : 0 ≤ (pc : Int) + o) (hp : ((pc : Int) + o).toNat = pc') (h1 : y < x → K pc' Ls st A k n) (h2 : ¬ y < x → K (pc + 3) Ls st A k n) : K pc Ls (.int y :: .int x :: st) A k n :=
  G.icmp pc' hd ho hp (fun q => h1 (hI_gt.1 q)) (fun q => h2 (hI_gt.2 q))
theorem Gd.if_gt (G : Gd l Z a0 n0 b R cs ss own nm code ml ret Q K) {o : Int} {x : Int32} (pc' : Nat) (hd : decode code pc = .ok (.ifCond .gt o, 3)) (ho : 0 ≤ (pc : Int) + o) (hp : ((pc : Int) + o).toNat = pc') (h1 : 0 < x → K pc' Ls st A k n) (h2 : ¬ 0 < x → K (pc + 3) Ls st A k n) : K pc Ls (.int x :: st) A k n :=
  G.ifc pc' hd ho hp (fun q => h1 (hI_gt.1 q)) (fun q => h2 (hI_gt.2 q))
theorem hI_le {x y : Int32} : (if_icmp.holds .le x y = true → ¬ y < x) ∧ (if_icmp.holds .le x y = false → y < x) := by simp [if_icmp.holds, Int32.not_lt, Int32.not_le]
theorem Gd.icmp_le (G : Gd l Z a0 n0 b R cs ss own nm code ml ret Q K) {o : Int} {x y : Int32} (pc' : Nat) (hd : decode code pc = .ok (.if_icmp .le o, 3)) (ho : 0 ≤ (pc : Int) + o) (hp : ((pc : Int) + o).toNat = pc') (h1 : ¬ y < x → K pc' Ls st A k n) (h2 : y < x → K (pc + 3) Ls st A k n) : K pc Ls (.int y :: .int x :: st) A k n :=
  G.icmp pc' hd ho hp (fun q => h1 (hI_le.1 q)) (fun q => h2 (hI_le.2 q))
theorem Gd.if_le (G : Gd l Z a0 n0 b R cs ss own nm code ml ret Q K) {o : Int} {x : Int32} (pc' : Nat) (hd : decode code pc = .ok (.ifCond .le o, 3)) (ho : 0 ≤ (pc : Int) + o) (hp : ((pc : Int) + o).toNat = pc') (h1 : ¬ 0 < x → K pc' Ls st A k n) (h2 : 0 < x → K (pc + 3) Ls st A k n) : K pc Ls (.int x :: st) A k n :=
  G.ifc pc' hd ho hp (fun q => h1 (hI_le.1 q)) (fun q => h2 (hI_le.2 q))
theorem Gd.ifnonnullR (G : Gd l Z a0 n0 b R cs ss own nm code ml ret Q K) {o : Int} {b : Addr} (pc' : Nat) (hd : decode code pc = .ok (.ifnonnull o, 3)) (ho : 0 ≤ (pc : Int) + o) (hp : ((pc : Int) + o).toNat = pc') (h : K pc' Ls st A k n) : K pc Ls (.ref b :: st) A k n :=
  G.run1 (fun _ _ _ _ _ _ _ hx hby hA r => XS.ifnonnullYes hA hx rfl rfl (hb hby hd) rfl ho hp r) h
theorem idxOk {c : Cell} {vs : List Value} {j : Int32} {jn : Nat} (e : c.slots = vs.toArray) (hj : j.toInt = (jn : Int)) (hl : jn < vs.length) : ¬ (j < 0 ∨ c.slots.size ≤ j.toNatClampNeg) ∧ j.toNatClampNeg = jn := by
  have h1 : j.toNatClampNeg = jn := by
    show j.toInt.toNat = jn
    rw [hj]; rfl
  refine ⟨?_, h1⟩
  rintro (q | q)
  · rw [Int32.lt_iff_toInt_lt] at q
    have : (0 : Int32).toInt = 0 := by decide
    omega
  · rw [h1, e] at q
    simp at q
    omega
theorem Gd.getf (G : Gd l Z a0 n0 b R cs ss own nm code ml ret Q K) {idx i j : Nat} {C fn d host : String} {fs : List (String × String × Value)} {v : Value} (hd : decode code pc = .ok (.getfield idx, 3)) (w : (Jvm.Cond.fieldLink own idx C fn d).before a0 Z = true ∨ (Jvm.Cond.fieldLinkNest own idx C fn d host).before a0 Z = true) (hA : A[i]? = some (.inl (C, fs))) (hf : fs[j]? = some (fn, d, v)) (h : K (pc + 3) Ls (v :: st) A k n) : K pc Ls (.ref (ad n0 i) :: st) A k n := by
  obtain ⟨p, e, s, m, args, below, meth, c, hx, hby, -, hown, -, hZ, -, -, -, rfl⟩ := G
  intro T locs X N hAl RP
  obtain ⟨T', X', e', stp⟩ := getF X hx hZ hown w Via.refl rfl ((RP.2 i _ hA).2.2 j _ _ _ hf).1 (g := mkF m pc Ls.toArray (.ref (ad n0 i) :: st)) rfl rfl (hb hby hd)
  obtain ⟨s₂, o, hs, r⟩ := h T' locs X' N hAl (by rw [e']; exact RP)
  exact ⟨s₂, o, stp _ hs, r⟩
theorem Gd.putf (G : Gd l Z a0 n0 b R cs ss own nm code ml ret Q K) {idx i j kk : Nat} {C fn d host : String} {fs : List (String × String × Value)} {v old : Value} {ty : FieldType} (hd : decode code pc = .ok (.putfield idx, 3)) (w : (Jvm.Cond.fieldLink own idx C fn d).before a0 Z = true ∨ (Jvm.Cond.fieldLinkNest own idx C fn d host).before a0 Z = true) (L : (Jvm.Cond.lays C C fn d).before a0 Z = true ∨ ((Jvm.Cond.laysFinal C C fn d).before a0 Z = true ∧ own = C ∧ nm = "<init>")) (wi : (Jvm.Cond.instantiable C kk).before a0 Z = true)
    (hty : parseFieldDescriptor d = some ty) (hn : narrow ty v = v) (hv : fits ty v = true) (hA : A[i]? = some (.inl (C, fs))) (hf : fs[j]? = some (fn, d, old)) (h : K (pc + 3) Ls st (A.set i (.inl (C, fs.set j (fn, d, v)))) k n) : K pc Ls (v :: .ref (ad n0 i) :: st) A k n := by
  obtain ⟨p, e, s, m, args, below, meth, c, hx, hby, -, hown, hnm, hZ, -, -, -, rfl⟩ := G
  intro T locs X N hAl RP
  have F := ((RP.2 i _ hA).2.2 j _ _ _ hf).1
  obtain ⟨T', h', X', e', W, stp⟩ := putF X hx hZ hown w Via.refl rfl F (RP.2 i _ hA).1 (by rcases L with L | ⟨L1, L2, L3⟩; exact Or.inl L; exact Or.inr ⟨L1, L2, hnm.trans L3⟩) wi hty hn hv (g := mkF m pc Ls.toArray (v :: .ref (ad n0 i) :: st)) rfl rfl (hb hby hd)
  obtain ⟨s₂, o, hs, r⟩ := h T' _ X' (Fr.snoc X' N (ad_le _ _)) (by rw [List.length_set]; exact hAl) (by rw [e']; exact RP.wr W ((RP.2 i _ hA).put hf W))
  exact ⟨s₂, o, stp _ hs, r⟩
/-- a field whose pool entry is resolved already -/
theorem Gd.getfR (G : Gd l Z a0 n0 b R cs ss own nm code ml ret Q K) {idx i j : Nat} {C fn d : String} {fs : List (String × String × Value)} {v : Value} (hd : decode code pc = .ok (.getfield idx, 3)) (w : (Jvm.Cond.fieldRef own idx C fn d).before a0 Z = true) (hA : A[i]? = some (.inl (C, fs))) (hf : fs[j]? = some (fn, d, v)) (h : K (pc + 3) Ls (v :: st) A k n) : K pc Ls (.ref (ad n0 i) :: st) A k n := by
  obtain ⟨p, e, s, m, args, below, meth, c, hx, hby, -, hown, -, hZ, -, -, -, rfl⟩ := G
  intro T locs X N hAl RP
  obtain ⟨cell, cf, kf, fi, f, h1, h2, h3, h4, h5, h6, h7⟩ := ((RP.2 i _ hA).2.2 j _ _ _ hf).1
  have hZT : Z.Warmed39 T.vm := wtrans hZ X.warmed
  have hown' : (Z.setVm T.vm).vm.findClass own = some m.cls := by show T.vm.findClass own = _; rw [X.warmed.alike.findClass]; exact hown
  obtain ⟨c3, k3, i3, f3, hi3, hr⟩ := Cond.fieldRef_spec (s := Z.setVm T.vm) hown' (Cond.fieldRef_warmed39 hZT w)
  obtain ⟨k', hi', -⟩ := State.fieldFound?_setVm (s := Z) hZT.alike h2
  cases hi3.symm.trans hi'
  have hr' : T.vm.fieldReady m.cls idx cf f := hr
  obtain ⟨s₂, o, hs, r⟩ := h T locs X N hAl RP
  refine ⟨s₂, o, ?_, r⟩
  show Steps p.tables e below (T.setTop { method := m, pc := pc, locals := Ls.toArray, stack := .ref (ad n0 i) :: st, locked := none }) _
  jvm_step X.here [hx, hb hby hd, getfield.wp_ready (e := e) (s := T) (f := { method := m, pc := pc, locals := Ls.toArray, stack := .ref (ad n0 i) :: st, locked := none }) X.here.top hr' h3 rfl h1 h4 h7]
  exact hs
theorem Gd.putfR (G : Gd l Z a0 n0 b R cs ss own nm code ml ret Q K) {idx i j kk : Nat} {C fn d : String} {fs : List (String × String × Value)} {v old : Value} {ty : FieldType} (hd : decode code pc = .ok (.putfield idx, 3)) (w : (Jvm.Cond.fieldRef own idx C fn d).before a0 Z = true) (L : (Jvm.Cond.lays C C fn d).before a0 Z = true) (wi : (Jvm.Cond.instantiable C kk).before a0 Z = true)
    (hty : parseFieldDescriptor d = some ty) (hn : narrow ty v = v) (hv : fits ty v = true) (hA : A[i]? = some (.inl (C, fs))) (hf : fs[j]? = some (fn, d, old)) (h : K (pc + 3) Ls st (A.set i (.inl (C, fs.set j (fn, d, v)))) k n) : K pc Ls (v :: .ref (ad n0 i) :: st) A k n := by
  obtain ⟨p, e, s, m, args, below, meth, c, hx, hby, -, hown, -, hZ, -, -, -, rfl⟩ := G
  intro T locs X N hAl RP
  obtain ⟨cell, cf, kf, fi, f, h1, h2, h3, h4, h5, h6, h7⟩ := ((RP.2 i _ hA).2.2 j _ _ _ hf).1
  obtain ⟨cell', kc, e1, e2, e3, -⟩ := (RP.2 i _ hA).1
  cases h1.symm.trans e1
  obtain ⟨c1, k1, cf1, kf1, i1, f1, a1, a2, a3, -, a5, -, a7, -⟩ := Cond.lays_spec L
  cases h2.symm.trans a3
  cases e2.symm.trans a1
  obtain ⟨c2, k2, i1', i2, i3, -⟩ := Cond.instantiable_spec wi
  cases e2.symm.trans i1'
  cases a2.symm.trans i2
  have ht := (State.fieldFound?_type h2 hty).2
  have hlt := (Array.getElem?_eq_some_iff.mp h7).1
  have hfitZ : Z.fitsSlot cell.cls cell.vm f.slot v = true := by
    have q : Z.slotType? cell.cls cell.vm f.slot = some ty := by
      simp only [State.slotType?, a2, Option.bind_eq_bind, Option.bind_some, i3]
      cases hq : cell.vm <;> first | (rw [hq] at h5; exact Bool.noConfusion h5) | (rw [a7, ht])
    simp [State.fitsSlot, q, hv]
  have hZT : Z.Warmed39 T.vm := wtrans hZ X.warmed
  have hfitT : T.fitsSlot cell.cls cell.vm f.slot v = true := by rw [← State.fitsSlot_setVm hZT.alike] at hfitZ; exact hfitZ
  have hown' : (Z.setVm T.vm).vm.findClass own = some m.cls := by show T.vm.findClass own = _; rw [X.warmed.alike.findClass]; exact hown
  obtain ⟨c3, k3, i3', f3, hi3, hr⟩ := Cond.fieldRef_spec (s := Z.setVm T.vm) hown' (Cond.fieldRef_warmed39 hZT w)
  obtain ⟨k', hi', -⟩ := State.fieldFound?_setVm (s := Z) hZT.alike h2
  cases hi3.symm.trans hi'
  have hr' : T.vm.fieldReady m.cls idx cf f := hr
  have X' := X.stored h1 f.slot v
  have es : Jvm.RoadKit.slotOf Z C fn d = f.slot := by simp [Jvm.RoadKit.slotOf, h2]
  have W : Wr T.heap (T.setCell (ad n0 i) (cell.setSlot f.slot v)).heap (ad n0 i) (Jvm.RoadKit.slotOf Z C fn d) v := by rw [es]; exact ⟨cell, h1, h5, hlt, rfl⟩
  obtain ⟨s₂, o, hs, r⟩ := h _ _ X' (Fr.snoc X' N (ad_le _ _)) (by rw [List.length_set]; exact hAl) (RP.wr W ((RP.2 i _ hA).put hf W))
  refine ⟨s₂, o, ?_, r⟩
  have hnar : narrow f.type v = v := by rw [ht]; exact hn
  show Steps p.tables e below (T.setTop { method := m, pc := pc, locals := Ls.toArray, stack := v :: .ref (ad n0 i) :: st, locked := none }) _
  jvm_step X.here [hx, hb hby hd, putfield.wp_ready (e := e) (s := T) (f := { method := m, pc := pc, locals := Ls.toArray, stack := v :: .ref (ad n0 i) :: st, locked := none }) X.here.top hr' h3 a5 rfl h1 h4, hnar]
  exact ⟨hlt, hfitT, hs⟩
theorem Gd.newo (G : Gd l Z a0 n0 b R cs ss own nm code ml ret Q K) {idx sl : Nat} {C : String} {fs : List (String × String × Value)} (hd : decode code pc = .ok (.new idx, 3)) (w : (Jvm.Cond.classLink own idx C).before a0 Z = true) (wi : (Jvm.Cond.instantiable C sl).before a0 Z = true) (wz : (Jvm.Cond.initialized C).before a0 Z = true) (hf : FOk Z a0 C fs) (hc : k + 1 ≤ R.cells) (hl : n + sl ≤ R.slots) (h : K (pc + 3) Ls (.ref (ad n0 A.length) :: st) (A ++ [.inl (C, fs)]) (k + 1) (n + sl)) : K pc Ls st A k n := by
  obtain ⟨p, e, s, m, args, below, meth, c, hx, hby, -, hown, hnm, hZ, -, -, hb0, rfl⟩ := G
  intro T locs X N hAl RP
  obtain ⟨T', h', X', e', E, Ex, D, -, stp⟩ := newO X hx hZ hown w wi wz rfl (g := mkF m pc Ls.toArray st) rfl (hb hby hd) hc hl
  have hsz : h'.size = T.heap.size + 1 := by
    have q1 := X'.heapSize
    have q2 : T.heap.size < h'.size := Ex.lt
    rw [e'] at q1
    have q3 := RP.1
    omega
  have R' : Rep Z a0 n0 h' (A ++ [.inl (C, fs)]) := RP.push E hsz ⟨Ex, hf.1, fun j fn d v hj => by
    obtain ⟨L, t, ht, hv⟩ := hf.2 _ (List.mem_of_getElem? hj)
    exact ⟨by have := D L ht; rw [hv] at this; exact this, L, t, ht⟩⟩
  have ea : ad n0 A.length = T.heap.size := RP.1.symm
  obtain ⟨s₂, o, hs, r⟩ := h T' locs X' N (by simp; omega) (by rw [e']; exact R')
  rw [ea] at hs
  exact ⟨s₂, o, stp _ hs, r⟩
theorem Gd.newarr (G : Gd l Z a0 n0 b R cs ss own nm code ml ret Q K) {aty : ArrayType} {z : Int32} (zn cap : Nat) (hd : decode code pc = .ok (.newarray aty, 2)) (w : (Jvm.Cond.arrayClass (newarray.typeOf aty)).before a0 Z = true) (hz : z.toInt = (zn : Int)) (hcap : zn ≤ cap) (hb0 : cap * 8 ≤ 536870912) (hc : k + 1 ≤ R.cells) (hl : n + cap ≤ R.slots) (hfit : fits (newarray.typeOf aty) (defaultValue (newarray.typeOf aty)) = true) (h : K (pc + 2) Ls (.ref (ad n0 A.length) :: st) (A ++ [.inr (newarray.typeOf aty, List.replicate zn (defaultValue (newarray.typeOf aty)))]) (k + 1) (n + cap)) : K pc Ls (.int z :: st) A k n := by
  obtain ⟨p, e, s, m, args, below, meth, c, hx, hby, -, hown, hnm, hZ, -, -, hsb, rfl⟩ := G
  intro T locs X N hAl RP
  have hz0 : ¬ z < 0 := by
    rw [Int32.lt_iff_toInt_lt]
    have : (0 : Int32).toInt = 0 := by decide
    omega
  have hzn : z.toNatClampNeg = zn := by show z.toInt.toNat = zn; rw [hz]; rfl
  obtain ⟨T', h', cA, X', e', E, Ar, Ex, stp⟩ := newPE X hx hZ w rfl (g := mkF m pc Ls.toArray (.int z :: st)) rfl (hb hby hd) rfl hz0 (cap := cap) (by rw [hzn]; exact hcap) hb0 hc hl (ad := "[" ++ (newarray.typeOf aty).toString) rfl
  have hsz : h'.size = T.heap.size + 1 := by
    have q1 := X'.heapSize
    have q2 : T.heap.size < h'.size := Ex.lt
    rw [e'] at q1
    have q3 := RP.1
    omega
  have R' : Rep Z a0 n0 h' (A ++ [.inr (newarray.typeOf aty, List.replicate zn (defaultValue (newarray.typeOf aty)))]) := RP.push E hsz ⟨Ex, _, Ar, by simp [newA, hzn], by simp; have := z.toInt_lt; omega, fun v hv => by rw [List.eq_of_mem_replicate hv]; exact hfit⟩
  have ea : ad n0 A.length = T.heap.size := RP.1.symm
  obtain ⟨s₂, o, hs, r⟩ := h T' locs X' N (by simp; omega) (by rw [e']; exact R')
  rw [ea] at hs
  exact ⟨s₂, o, stp _ hs, r⟩
theorem Gd.alen (G : Gd l Z a0 n0 b R cs ss own nm code ml ret Q K) {i : Nat} {ty : FieldType} {vs : List Value} (z : Int32) (hd : decode code pc = .ok (.arraylength, 1)) (hA : A[i]? = some (.inr (ty, vs))) (hz : vs.length.toInt32 = z) (h : K (pc + 1) Ls (.int z :: st) A k n) : K pc Ls (.ref (ad n0 i) :: st) A k n := by
  obtain ⟨p, e, s, m, args, below, meth, c, hx, hby, -, hown, -, hZ, -, -, -, rfl⟩ := G
  intro T locs X N hAl RP
  obtain ⟨-, cl, Ar, es, -, -⟩ := RP.2 i _ hA
  obtain ⟨s₂, o, hs, r⟩ := h T locs X N hAl RP
  refine ⟨s₂, o, X.arraylength hx Ar.1 (State.isArrayOf_alike hZ.alike Ar.2.1) (g := mkF m pc Ls.toArray (.ref (ad n0 i) :: st)) rfl rfl (hb hby hd) _ ?_, r⟩
  have q : cl.slots.size.toInt32 = z := by rw [es]; exact hz
  rw [q]; exact hs
theorem Gd.iald (G : Gd l Z a0 n0 b R cs ss own nm code ml ret Q K) {i : Nat} {vs : List Value} {j : Int32} {x : Int32} (jn : Nat) (hd : decode code pc = .ok (.iaload, 1)) (hA : A[i]? = some (.inr (.int, vs))) (hj : j.toInt = (jn : Int)) (hv : vs[jn]? = some (.int x)) (h : K (pc + 1) Ls (.int x :: st) A k n) : K pc Ls (.int j :: .ref (ad n0 i) :: st) A k n := by
  obtain ⟨p, e, s, m, args, below, meth, c, hx, hby, -, hown, -, hZ, -, -, -, rfl⟩ := G
  intro T locs X N hAl RP
  obtain ⟨-, cl, Ar, es, -, -⟩ := RP.2 i _ hA
  obtain ⟨q1, q2⟩ := idxOk es hj (List.getElem?_eq_some_iff.mp hv).1
  obtain ⟨s₂, o, hs, r⟩ := h T locs X N hAl RP
  exact ⟨s₂, o, X.iaload hx (j := j) (v := .int x) Ar.1 (State.isArrayOf_alike hZ.alike Ar.2.1) Ar.2.2 q1 (by rw [q2, es]; simpa using hv) (g := mkF m pc Ls.toArray (.int j :: .ref (ad n0 i) :: st)) rfl rfl (hb hby hd) _ hs, r⟩
theorem Gd.lald (G : Gd l Z a0 n0 b R cs ss own nm code ml ret Q K) {i : Nat} {vs : List Value} {j : Int32} {x : Int64} (jn : Nat) (hd : decode code pc = .ok (.laload, 1)) (hA : A[i]? = some (.inr (.long, vs))) (hj : j.toInt = (jn : Int)) (hv : vs[jn]? = some (.long x)) (h : K (pc + 1) Ls (.long x :: st) A k n) : K pc Ls (.int j :: .ref (ad n0 i) :: st) A k n := by
  obtain ⟨p, e, s, m, args, below, meth, c, hx, hby, -, hown, -, hZ, -, -, -, rfl⟩ := G
  intro T locs X N hAl RP
  obtain ⟨-, cl, Ar, es, -, -⟩ := RP.2 i _ hA
  obtain ⟨q1, q2⟩ := idxOk es hj (List.getElem?_eq_some_iff.mp hv).1
  obtain ⟨s₂, o, hs, r⟩ := h T locs X N hAl RP
  exact ⟨s₂, o, X.laload hx (j := j) (v := .long x) Ar.1 (State.isArrayOf_alike hZ.alike Ar.2.1) Ar.2.2 q1 (by rw [q2, es]; simpa using hv) (g := mkF m pc Ls.toArray (.int j :: .ref (ad n0 i) :: st)) rfl rfl (hb hby hd) _ hs, r⟩
theorem Gd.bald (G : Gd l Z a0 n0 b R cs ss own nm code ml ret Q K) {i : Nat} {vs : List Value} {j : Int32} {x : Int32} (jn : Nat) (hd : decode code pc = .ok (.baload, 1)) (hA : A[i]? = some (.inr (.byte, vs))) (hj : j.toInt = (jn : Int)) (hv : vs[jn]? = some (.int x)) (h : K (pc + 1) Ls (.int x :: st) A k n) : K pc Ls (.int j :: .ref (ad n0 i) :: st) A k n := by
  obtain ⟨p, e, s, m, args, below, meth, c, hx, hby, -, hown, -, hZ, -, -, -, rfl⟩ := G
  intro T locs X N hAl RP
  obtain ⟨-, cl, Ar, es, -, -⟩ := RP.2 i _ hA
  obtain ⟨q1, q2⟩ := idxOk es hj (List.getElem?_eq_some_iff.mp hv).1
  obtain ⟨s₂, o, hs, r⟩ := h T locs X N hAl RP
  exact ⟨s₂, o, X.baloadBytes hx (j := j) (v := .int x) Ar.1 (State.isArrayOf_alike hZ.alike Ar.2.1) Ar.2.2 q1 (by rw [q2, es]; simpa using hv) (g := mkF m pc Ls.toArray (.int j :: .ref (ad n0 i) :: st)) rfl rfl (hb hby hd) _ hs, r⟩
theorem Gd.zald (G : Gd l Z a0 n0 b R cs ss own nm code ml ret Q K) {i : Nat} {vs : List Value} {j : Int32} {x : Int32} (jn : Nat) (hd : decode code pc = .ok (.baload, 1)) (hA : A[i]? = some (.inr (.boolean, vs))) (hj : j.toInt = (jn : Int)) (hv : vs[jn]? = some (.int x)) (h : K (pc + 1) Ls (.int x :: st) A k n) : K pc Ls (.int j :: .ref (ad n0 i) :: st) A k n := by
  obtain ⟨p, e, s, m, args, below, meth, c, hx, hby, -, hown, -, hZ, -, -, -, rfl⟩ := G
  intro T locs X N hAl RP
  obtain ⟨-, cl, Ar, es, -, -⟩ := RP.2 i _ hA
  obtain ⟨q1, q2⟩ := idxOk es hj (List.getElem?_eq_some_iff.mp hv).1
  obtain ⟨s₂, o, hs, r⟩ := h T locs X N hAl RP
  exact ⟨s₂, o, X.baloadBooleans hx (j := j) (v := .int x) Ar.1 (State.isArrayOf_alike hZ.alike Ar.2.1) Ar.2.2 q1 (by rw [q2, es]; simpa using hv) (g := mkF m pc Ls.toArray (.int j :: .ref (ad n0 i) :: st)) rfl rfl (hb hby hd) _ hs, r⟩
theorem Gd.iast (G : Gd l Z a0 n0 b R cs ss own nm code ml ret Q K) {i : Nat} {vs : List Value} {j : Int32} {x : Int32} (jn : Nat) (hd : decode code pc = .ok (.iastore, 1)) (hA : A[i]? = some (.inr (.int, vs))) (hj : j.toInt = (jn : Int)) (hl : jn < vs.length) (h : K (pc + 1) Ls st (A.set i (.inr (.int, vs.set jn (.int x)))) k n) : K pc Ls (.int x :: .int j :: .ref (ad n0 i) :: st) A k n := by
  obtain ⟨p, e, s, m, args, below, meth, c, hx, hby, -, hown, -, hZ, -, -, -, rfl⟩ := G
  intro T locs X N hAl RP
  obtain ⟨-, cl, Ar, es, -, -⟩ := RP.2 i _ hA
  obtain ⟨q1, q2⟩ := idxOk es hj hl
  obtain ⟨T', h', X', e', W, stp⟩ := stI X hx hZ rfl Ar q1 (g := mkF m pc Ls.toArray (.int x :: .int j :: .ref (ad n0 i) :: st)) rfl rfl (hb hby hd)
  have W' : Wr T.heap h' (ad n0 i) jn (.int x) := by rw [← q2]; exact W
  obtain ⟨s₂, o, hs, r⟩ := h T' _ X' (Fr.snoc X' N (ad_le _ _)) (by rw [List.length_set]; exact hAl) (by rw [e']; exact RP.wr W' ((RP.2 i _ hA).store rfl W'))
  exact ⟨s₂, o, stp _ hs, r⟩
theorem Gd.last (G : Gd l Z a0 n0 b R cs ss own nm code ml ret Q K) {i : Nat} {vs : List Value} {j : Int32} {x : Int64} (jn : Nat) (hd : decode code pc = .ok (.lastore, 1)) (hA : A[i]? = some (.inr (.long, vs))) (hj : j.toInt = (jn : Int)) (hl : jn < vs.length) (h : K (pc + 1) Ls st (A.set i (.inr (.long, vs.set jn (.long x)))) k n) : K pc Ls (.long x :: .int j :: .ref (ad n0 i) :: st) A k n := by
  obtain ⟨p, e, s, m, args, below, meth, c, hx, hby, -, hown, -, hZ, -, -, -, rfl⟩ := G
  intro T locs X N hAl RP
  obtain ⟨-, cl, Ar, es, -, -⟩ := RP.2 i _ hA
  obtain ⟨q1, q2⟩ := idxOk es hj hl
  obtain ⟨T', h', X', e', W, stp⟩ := stJ X hx hZ rfl Ar q1 (g := mkF m pc Ls.toArray (.long x :: .int j :: .ref (ad n0 i) :: st)) rfl rfl (hb hby hd)
  have W' : Wr T.heap h' (ad n0 i) jn (.long x) := by rw [← q2]; exact W
  obtain ⟨s₂, o, hs, r⟩ := h T' _ X' (Fr.snoc X' N (ad_le _ _)) (by rw [List.length_set]; exact hAl) (by rw [e']; exact RP.wr W' ((RP.2 i _ hA).store rfl W'))
  exact ⟨s₂, o, stp _ hs, r⟩
theorem Gd.bast (G : Gd l Z a0 n0 b R cs ss own nm code ml ret Q K) {i : Nat} {vs : List Value} {j : Int32} {x : Int32} (jn : Nat) (hd : decode code pc = .ok (.bastore, 1)) (hA : A[i]? = some (.inr (.byte, vs))) (hj : j.toInt = (jn : Int)) (hl : jn < vs.length) {x8 : Int32} (hx8 : nar .byte x = x8) (hfit : fits .byte (.int x8) = true) (h : K (pc + 1) Ls st (A.set i (.inr (.byte, vs.set jn (.int x8)))) k n) : K pc Ls (.int x :: .int j :: .ref (ad n0 i) :: st) A k n := by
  obtain ⟨p, e, s, m, args, below, meth, c, hx, hby, -, hown, -, hZ, -, -, -, rfl⟩ := G
  intro T locs X N hAl RP
  obtain ⟨-, cl, Ar, es, -, -⟩ := RP.2 i _ hA
  obtain ⟨q1, q2⟩ := idxOk es hj hl
  obtain ⟨T', h', X', e', W, stp⟩ := stB X hx hZ rfl Ar q1 (g := mkF m pc Ls.toArray (.int x :: .int j :: .ref (ad n0 i) :: st)) rfl rfl (hb hby hd)
  have W' : Wr T.heap h' (ad n0 i) jn (.int x8) := by rw [← q2, ← hx8]; exact W
  obtain ⟨s₂, o, hs, r⟩ := h T' _ X' (Fr.snoc X' N (ad_le _ _)) (by rw [List.length_set]; exact hAl) (by rw [e']; exact RP.wr W' ((RP.2 i _ hA).store hfit W'))
  exact ⟨s₂, o, stp _ hs, r⟩
theorem Gd.zast (G : Gd l Z a0 n0 b R cs ss own nm code ml ret Q K) {i : Nat} {vs : List Value} {j : Int32} {x : Int32} (jn : Nat) (hd : decode code pc = .ok (.bastore, 1)) (hA : A[i]? = some (.inr (.boolean, vs))) (hj : j.toInt = (jn : Int)) (hl : jn < vs.length) {x8 : Int32} (hx8 : nar .boolean x = x8) (hfit : fits .boolean (.int x8) = true) (h : K (pc + 1) Ls st (A.set i (.inr (.boolean, vs.set jn (.int x8)))) k n) : K pc Ls (.int x :: .int j :: .ref (ad n0 i) :: st) A k n := by
  obtain ⟨p, e, s, m, args, below, meth, c, hx, hby, -, hown, -, hZ, -, -, -, rfl⟩ := G
  intro T locs X N hAl RP
  obtain ⟨-, cl, Ar, es, -, -⟩ := RP.2 i _ hA
  obtain ⟨q1, q2⟩ := idxOk es hj hl
  obtain ⟨T', h', X', e', W, stp⟩ := stZ X hx hZ rfl Ar q1 (g := mkF m pc Ls.toArray (.int x :: .int j :: .ref (ad n0 i) :: st)) rfl rfl (hb hby hd)
  have W' : Wr T.heap h' (ad n0 i) jn (.int x8) := by rw [← q2, ← hx8]; exact W
  obtain ⟨s₂, o, hs, r⟩ := h T' _ X' (Fr.snoc X' N (ad_le _ _)) (by rw [List.length_set]; exact hAl) (by rw [e']; exact RP.wr W' ((RP.2 i _ hA).store hfit W'))
  exact ⟨s₂, o, stp _ hs, r⟩
def AI (N : Nat) (vs : List Value) : Prop := vs.length = N ∧ ∀ v ∈ vs, ∃ x : Int32, v = .int x
theorem AI.rep (N : Nat) : AI N (List.replicate N (.int 0)) := ⟨by simp, fun v hv => ⟨0, List.eq_of_mem_replicate hv⟩⟩
theorem AI.at {N j : Nat} {vs : List Value} (h : AI N vs) (hj : j < N) : ∃ x : Int32, vs[j]? = some (.int x) := by
  have hl : j < vs.length := by rw [h.1]; exact hj
  obtain ⟨x, e⟩ := h.2 _ (List.getElem_mem hl)
  exact ⟨x, by rw [List.getElem?_eq_getElem hl, e]⟩
theorem AI.set {N : Nat} {vs : List Value} (h : AI N vs) (j : Nat) (x : Int32) : AI N (vs.set j (.int x)) :=
  ⟨by rw [List.length_set]; exact h.1, fun v hv => by
    rcases List.mem_or_eq_of_mem_set hv with q | rfl
    · exact h.2 v q
    · exact ⟨x, rfl⟩⟩
/-- a store into the only cell, an int[] of which no more is kept in mind than that it holds ints -/
theorem Gd.iastA (G : Gd l Z a0 n0 b R cs ss own nm code ml ret Q K) {N : Nat} {vs : List Value} {j x : Int32} (jn : Nat) (hd : decode code pc = .ok (.iastore, 1)) (hv : AI N vs) (hj : j.toInt = (jn : Int)) (hl : jn < N) (h : ∀ vs', AI N vs' → K (pc + 1) Ls st [.inr (.int, vs')] k n) : K pc Ls (.int x :: .int j :: .ref (ad n0 0) :: st) [.inr (.int, vs)] k n :=
  G.iast jn hd rfl hj (by rw [hv.1]; exact hl) (h _ (hv.set jn x))
theorem Gd.ldcI (G : Gd l Z a0 n0 b R cs ss own nm code ml ret Q K) {idx : Nat} {v : Int32} (hd : decode code pc = .ok (.ldc idx, 2)) (w : (Jvm.Cond.constant own idx v).before a0 Z = true) (h : K (pc + 2) Ls (.int v :: st) A k n) : K pc Ls st A k n := by
  obtain ⟨p, e, s, m, args, below, meth, c, hx, hby, -, hown, -, hZ, -, -, -, rfl⟩ := G
  intro T locs X N hAl RP
  obtain ⟨s₂, o, hs, r⟩ := h T locs X N hAl RP
  exact ⟨s₂, o, X.ldcInt hx hown (mvT hZ w) (g := mkF m pc Ls.toArray st) rfl (hb hby hd) _ hs, r⟩
theorem Gd.ldcwI (G : Gd l Z a0 n0 b R cs ss own nm code ml ret Q K) {idx : Nat} {v : Int32} (hd : decode code pc = .ok (.ldc_w idx, 3)) (w : (Jvm.Cond.constant own idx v).before a0 Z = true) (h : K (pc + 3) Ls (.int v :: st) A k n) : K pc Ls st A k n := by
  obtain ⟨p, e, s, m, args, below, meth, c, hx, hby, -, hown, -, hZ, -, -, -, rfl⟩ := G
  intro T locs X N hAl RP
  obtain ⟨s₂, o, hs, r⟩ := h T locs X N hAl RP
  exact ⟨s₂, o, X.ldcwInt hx hown (mvT hZ w) (g := mkF m pc Ls.toArray st) rfl (hb hby hd) _ hs, r⟩
theorem Gd.ldcL (G : Gd l Z a0 n0 b R cs ss own nm code ml ret Q K) {idx : Nat} {v : Int64} (hd : decode code pc = .ok (.ldc2_w idx, 3)) (w : (Jvm.Cond.constantLong own idx v).before a0 Z = true) (h : K (pc + 3) Ls (.long v :: st) A k n) : K pc Ls st A k n := by
  obtain ⟨p, e, s, m, args, below, meth, c, hx, hby, -, hown, -, hZ, -, -, -, rfl⟩ := G
  intro T locs X N hAl RP
  obtain ⟨s₂, o, hs, r⟩ := h T locs X N hAl RP
  exact ⟨s₂, o, X.ldc2Long hx hown (mvT hZ w) (g := mkF m pc Ls.toArray st) rfl (hb hby hd) _ hs, r⟩
theorem Gd.retV (G : Gd l Z a0 n0 b R cs ss own nm code ml ret Q K) {t : FieldType} {i : Instr} {w : Value} (hret : ret = some t) (hd : decode code pc = .ok (i, 1)) (hn : narrow t w = w)
    (hi : (i = .ireturn ∧ (t = .int ∨ t = .boolean ∨ t = .byte ∨ t = .char ∨ t = .short) ∧ ∃ z, w = .int z) ∨ (i = .lreturn ∧ t = .long ∧ ∃ z, w = .long z) ∨ (i = .dreturn ∧ t = .double ∧ ∃ z, w = .double z) ∨ (i = .freturn ∧ t = .float ∧ ∃ z, w = .float z) ∨ (i = .areturn ∧ t.isReference = true ∧ w.isRef = true))
    (hk : k ≤ cs) (hs : n ≤ ss) (hQ : Q (some w) A) : K pc Ls (w :: st) A k n := by
  obtain ⟨p, e, s, m, args, below, meth, c, hx, hby, -, hown, -, hZ, hrt, hlk, -, rfl⟩ := G
  intro T locs X N hAl RP
  obtain ⟨fs, hr, hrun, hended, hW, hsame⟩ := X.leave (v := some w) (fun q => by rw [hrt, hret] at q; cases q) hlk
  exact ⟨_, _, retOut X hx (hrt.trans hret) hn hi (hb hby hd) hr, hrun, hended, _, locs, rfl, ⟨N, A, hQ, RP⟩, ⟨_, rfl⟩, hW, hsame.mono hk hs⟩
theorem Gd.ireturn (G : Gd l Z a0 n0 b R cs ss own nm code ml ret Q K) {z : Int32} (hret : ret = some .int) (hd : decode code pc = .ok (.ireturn, 1)) (hk : k ≤ cs) (hs : n ≤ ss) (hQ : Q (some (.int z)) A) : K pc Ls (.int z :: st) A k n :=
  G.retV hret hd rfl (Or.inl ⟨rfl, Or.inl rfl, _, rfl⟩) hk hs hQ
theorem Gd.zreturn (G : Gd l Z a0 n0 b R cs ss own nm code ml ret Q K) {z : Int32} (hret : ret = some .boolean) (hd : decode code pc = .ok (.ireturn, 1)) (hz : narrow .boolean (.int z) = .int z) (hk : k ≤ cs) (hs : n ≤ ss) (hQ : Q (some (.int z)) A) : K pc Ls (.int z :: st) A k n :=
  G.retV hret hd hz (Or.inl ⟨rfl, Or.inr (Or.inl rfl), _, rfl⟩) hk hs hQ
theorem Gd.lreturn (G : Gd l Z a0 n0 b R cs ss own nm code ml ret Q K) {z : Int64} (hret : ret = some .long) (hd : decode code pc = .ok (.lreturn, 1)) (hk : k ≤ cs) (hs : n ≤ ss) (hQ : Q (some (.long z)) A) : K pc Ls (.long z :: st) A k n :=
  G.retV hret hd rfl (Or.inr (Or.inl ⟨rfl, rfl, _, rfl⟩)) hk hs hQ
theorem Gd.areturn (G : Gd l Z a0 n0 b R cs ss own nm code ml ret Q K) {t : FieldType} {w : Value} (hret : ret = some t) (hd : decode code pc = .ok (.areturn, 1)) (ht : t.isReference = true) (hw : w.isRef = true) (hn : narrow t w = w) (hk : k ≤ cs) (hs : n ≤ ss) (hQ : Q (some w) A) : K pc Ls (w :: st) A k n :=
  G.retV hret hd hn (Or.inr (Or.inr (Or.inr (Or.inr ⟨rfl, ht, hw⟩)))) hk hs hQ
theorem Gd.vreturn (G : Gd l Z a0 n0 b R cs ss own nm code ml ret Q K) (hret : ret = none) (hd : decode code pc = .ok (.return_, 1)) (hk : k ≤ cs) (hs : n ≤ ss) (hQ : Q none A) : K pc Ls [] A k n := by
  obtain ⟨p, e, s, m, args, below, meth, c, hx, hby, -, hown, -, hZ, hrt, hlk, -, rfl⟩ := G
  intro T locs X N hAl RP
  obtain ⟨fs, hr, hrun, hended, hW, hsame⟩ := X.leave (v := none) (fun _ => rfl) hlk
  exact ⟨_, _, X.returnOut hx (hrt.trans hret) (hb hby hd) hr, hrun, hended, _, locs, rfl, ⟨N, A, hQ, RP⟩, ⟨_, rfl⟩, hW, hsame.mono hk hs⟩
/-- Object's own constructor -/
theorem Gd.initObj (G : Gd l Z a0 n0 b R cs ss own nm code ml ret Q K) {idx : Nat} {a : Addr} (hd : decode code pc = .ok (.invokespecial idx, 3)) (w1 : (Jvm.Cond.methodLink own idx Lib.objectInit).before a0 Z = true) (w2 : (Jvm.Cond.instanceMethod Lib.objectInit).before a0 Z = true) (w3 : (Jvm.Cond.code Lib.objectInit ⟨#[0xb1]⟩ 1 none).before a0 Z = true) (hL : Ls.length = ml) (hf : 1 ≤ R.frames) (hl : (st.map fun v => v.category).sum + 12 ≤ R.locals) (h : K (pc + 3) Ls st A k n) : K pc Ls (.ref a :: st) A k n := by
  obtain ⟨p, e, s, m, args, below, meth, c, hx, hby, hml, hown, -, hZ, -, -, -, rfl⟩ := G
  intro T locs X N hAl RP
  obtain ⟨T', X', e', stp⟩ := initO X hx hZ hown w1 w2 w3 rfl (g := mkF m pc Ls.toArray (.ref a :: st)) rfl (by rw [hml]; simpa using hL) rfl (hb hby hd) hf (W := (st.map fun v => v.category).sum) (by show 2 * 0 + _ ≤ _; omega) hl
  obtain ⟨s₂, o, hs, r⟩ := h T' locs X' N hAl (by rw [e']; exact RP)
  exact ⟨s₂, o, stp _ hs, r⟩
/-- a static method by its contract -/
theorem Gd.scall (G : Gd l Z a0 n0 b R cs ss own nm code ml ret Q K) {idx maxL : Nat} {y : MethodName} {bytes : ByteArray} {rt : Option FieldType} {rm : Room} {Q' : Option Value → AHeap → Prop} {ps : List FieldType} (argsL : List Value) (hst : st' = argsL.reverse ++ st) (hd : decode code pc = .ok (.invokestatic idx, 3)) (w1 : (Jvm.Cond.methodLink own idx y).before a0 Z = true) (w2 : (Jvm.Cond.static y).before a0 Z = true) (w3 : (Jvm.Cond.initialized y.cls).before a0 Z = true) (w4 : (Jvm.Cond.code y bytes maxL rt).before a0 Z = true) (hy : y.cls ≠ "java/lang/invoke/MethodHandle" ∧ y.cls ≠ "java/lang/invoke/VarHandle")
    (hM : Meth l Z a0 [] y bytes maxL rt rm rm.cells rm.slots n0 argsL.toArray A Q') (hpd : parseMethodDescriptor y.desc = some ⟨ps, rt⟩) (hal : argsL.length = ps.length) (hL : Ls.length = ml) (hf : rm.frames + 1 ≤ R.frames) (hl : (st.map fun v => v.category).sum + (maxL + 11) + rm.locals ≤ R.locals) (hc : k + rm.cells ≤ R.cells) (hsl : n + rm.slots ≤ R.slots) (hlen' : ∀ v A', Q' v A' → A'.length = A.length + rm.cells)
    (h : ∀ v A', Q' v A' → K (pc + 3) Ls (v.toList ++ st) A' (k + rm.cells) (n + rm.slots)) : K pc Ls st' A k n := by
  subst hst
  obtain ⟨p, e, s, m, args, below, meth, c, hx, hby, hml, hown, -, hZ, -, -, -, rfl⟩ := G
  intro T locs X N hAl RP
  obtain ⟨v, _, ⟨TB, LB, kB, nB⟩, -, XB, ⟨Lc, hQB, l1, y1, z1⟩, stp⟩ := Jvm.LawKit.callS X hx (y := y) hown (mvT hZ w1) (mvT hZ w2) (mvT hZ w3) (mvT hZ w4) hy (backOf (W := (st.map fun v => v.category).sum) (Q := fun v h L => Fr n0 L ∧ ∃ A', Q' v A' ∧ Rep Z a0 n0 h A') (hM T.heap RP) hZ w4 w3 hf hl) (g := mkF m pc Ls.toArray (argsL.reverse ++ st)) rfl (by rw [hml]; simpa using hL) (argsL := argsL) (rest := st) (lenOf hpd hal) rfl (by show 2 * 0 + _ ≤ _; omega) (hb hby hd) (fun _ _ => ⟨rfl, rfl, hc, hsl⟩)
  dsimp only [Pt.U, Pt.locs, Pt.cells, Pt.slots] at XB l1 y1 z1 stp hQB
  subst l1 y1 z1
  obtain ⟨NB, A', hq, RB⟩ := hQB
  obtain ⟨s₂, o, hs, r⟩ := h _ A' hq TB _ XB (Fr.app N NB) (by rw [hlen' _ _ hq, hAl]; omega) RB
  exact ⟨s₂, o, stp _ hs, r⟩
/-- a constructor by its contract -/
theorem Gd.ncall (G : Gd l Z a0 n0 b R cs ss own nm code ml ret Q K) {idx maxL : Nat} {y : MethodName} {bytes : ByteArray} {rm : Room} {Q' : Option Value → AHeap → Prop} {ps : List FieldType} {a : Addr} (argsL : List Value) (hst : st' = argsL.reverse ++ .ref a :: st) (hd : decode code pc = .ok (.invokespecial idx, 3)) (hy1 : y.name = "<init>") (w1 : (Jvm.Cond.methodLink own idx y).before a0 Z = true) (w2 : (Jvm.Cond.instanceMethod y).before a0 Z = true) (w3 : (Jvm.Cond.initialized y.cls).before a0 Z = true) (w4 : (Jvm.Cond.code y bytes maxL none).before a0 Z = true) (hy : y.cls ≠ "java/lang/invoke/MethodHandle" ∧ y.cls ≠ "java/lang/invoke/VarHandle")
    (hM : Meth l Z a0 [] y bytes maxL none rm rm.cells rm.slots n0 (.ref a :: argsL).toArray A Q') (hpd : parseMethodDescriptor y.desc = some ⟨ps, none⟩) (hal : argsL.length = ps.length) (hL : Ls.length = ml) (hf : rm.frames + 1 ≤ R.frames) (hl : (st.map fun v => v.category).sum + (maxL + 11) + rm.locals ≤ R.locals) (hc : k + rm.cells ≤ R.cells) (hsl : n + rm.slots ≤ R.slots) (hlen' : ∀ v A', Q' v A' → A'.length = A.length + rm.cells)
    (h : ∀ v A', Q' v A' → K (pc + 3) Ls (v.toList ++ st) A' (k + rm.cells) (n + rm.slots)) : K pc Ls st' A k n := by
  subst hst
  obtain ⟨p, e, s, m, args, below, meth, c, hx, hby, hml, hown, -, hZ, -, -, -, rfl⟩ := G
  intro T locs X N hAl RP
  obtain ⟨v, _, ⟨TB, LB, kB, nB⟩, -, XB, ⟨Lc, hQB, l1, y1, z1⟩, stp⟩ := X.specialBack hx (y := y) hy1 hown (mvT hZ w1) (mvT hZ w2) (mvT hZ w4) hy (backOf (W := (st.map fun v => v.category).sum) (Q := fun v h L => Fr n0 L ∧ ∃ A', Q' v A' ∧ Rep Z a0 n0 h A') (hM T.heap RP) hZ w4 w3 hf hl) (g := mkF m pc Ls.toArray (argsL.reverse ++ .ref a :: st)) rfl (by rw [hml]; simpa using hL) (Steps.refl _) (a := a) (argsL := argsL) (rest := st) (lenOf hpd hal) rfl (by show 2 * 0 + _ ≤ _; omega) (hb hby hd) (fun _ _ => ⟨rfl, rfl, hc, hsl⟩)
  dsimp only [Pt.U, Pt.locs, Pt.cells, Pt.slots] at XB l1 y1 z1 stp hQB
  subst l1 y1 z1
  obtain ⟨NB, A', hq, RB⟩ := hQB
  obtain ⟨s₂, o, hs, r⟩ := h _ A' hq TB _ XB (Fr.app N NB) (by rw [hlen' _ _ hq, hAl]; omega) RB
  exact ⟨s₂, o, stp.trans hs, r⟩
/-- an instance method by its contract -/
theorem Gd.vcall (G : Gd l Z a0 n0 b R cs ss own nm code ml ret Q K) {idx maxL i : Nat} {y : MethodName} {bytes : ByteArray} {rt : Option FieldType} {rm : Room} {Q' : Option Value → AHeap → Prop} {ps : List FieldType} {fs : List (String × String × Value)} (argsL : List Value) (hst : st' = argsL.reverse ++ .ref (ad n0 i) :: st) (hd : decode code pc = .ok (.invokevirtual idx, 3)) (w1 : (Jvm.Cond.methodLink own idx y).before a0 Z = true) (w2 : (Jvm.Cond.declares y).before a0 Z = true) (ws : (Jvm.Cond.selects y.cls y y).before a0 Z = true) (wm : (Jvm.Cond.instanceMethod y).before a0 Z = true) (w3 : (Jvm.Cond.initialized y.cls).before a0 Z = true) (w4 : (Jvm.Cond.code y bytes maxL rt).before a0 Z = true) (hy : y.cls ≠ "java/lang/invoke/MethodHandle" ∧ y.cls ≠ "java/lang/invoke/VarHandle") (hA : A[i]? = some (.inl (y.cls, fs)))
    (hM : Meth l Z a0 [] y bytes maxL rt rm rm.cells rm.slots n0 (.ref (ad n0 i) :: argsL).toArray A Q') (hpd : parseMethodDescriptor y.desc = some ⟨ps, rt⟩) (hal : argsL.length = ps.length) (hL : Ls.length = ml) (hf : rm.frames + 1 ≤ R.frames) (hl : (st.map fun v => v.category).sum + (maxL + 11) + rm.locals ≤ R.locals) (hc : k + rm.cells ≤ R.cells) (hsl : n + rm.slots ≤ R.slots) (hlen' : ∀ v A', Q' v A' → A'.length = A.length + rm.cells)
    (h : ∀ v A', Q' v A' → K (pc + 3) Ls (v.toList ++ st) A' (k + rm.cells) (n + rm.slots)) : K pc Ls st' A k n := by
  subst hst
  obtain ⟨p, e, s, m, args, below, meth, c, hx, hby, hml, hown, -, hZ, -, -, -, rfl⟩ := G
  intro T locs X N hAl RP
  obtain ⟨cq, kq, qa, qb, qc⟩ := isOf hZ rfl (RP.2 i _ hA).1
  obtain ⟨v, _, ⟨TB, LB, kB, nB⟩, -, XB, ⟨Lc, hQB, l1, y1, z1⟩, stp⟩ := X.virtualBack hx (y := y) (z := y) hown (mvT hZ w1) (mvT hZ w2) (notFace_of_selects (args := #[]) (mvT hZ ws)) (mvT hZ ws) (mvT hZ wm) hy (backOf (W := (st.map fun v => v.category).sum) (Q := fun v h L => Fr n0 L ∧ ∃ A', Q' v A' ∧ Rep Z a0 n0 h A') (hM T.heap RP) hZ w4 w3 hf hl) qa qc (g := mkF m pc Ls.toArray (argsL.reverse ++ .ref (ad n0 i) :: st)) rfl (by rw [hml]; simpa using hL) (Steps.refl _) (argsL := argsL) (rest := st) (lenOf hpd hal) rfl (by show 2 * 0 + _ ≤ _; omega) (hb hby hd) (fun _ _ => ⟨rfl, rfl, hc, hsl⟩)
  dsimp only [Pt.U, Pt.locs, Pt.cells, Pt.slots] at XB l1 y1 z1 stp hQB
  subst l1 y1 z1
  obtain ⟨NB, A', hq, RB⟩ := hQB
  obtain ⟨s₂, o, hs, r⟩ := h _ A' hq TB _ XB (Fr.app N NB) (by rw [hlen' _ _ hq, hAl]; omega) RB
  exact ⟨s₂, o, stp.trans hs, r⟩
/-- a private instance method by its contract -/
theorem Gd.pcall (G : Gd l Z a0 n0 b R cs ss own nm code ml ret Q K) {idx maxL i : Nat} {y : MethodName} {bytes : ByteArray} {rt : Option FieldType} {rm : Room} {Q' : Option Value → AHeap → Prop} {ps : List FieldType} {fs : List (String × String × Value)} {C : String} {y2 : MethodName} (argsL : List Value) (hst : st' = argsL.reverse ++ .ref (ad n0 i) :: st) (hd : decode code pc = .ok (.invokevirtual idx, 3)) (w1 : (Jvm.Cond.methodLink own idx y).before a0 Z = true) (wp : (Jvm.Cond.privateMethod y).before a0 Z = true) (ws : (Jvm.Cond.selects y2.cls y2 y2).before a0 Z = true) (hy2 : y2.cls = y.cls) (wm : (Jvm.Cond.instanceMethod y).before a0 Z = true) (w3 : (Jvm.Cond.initialized y.cls).before a0 Z = true) (w4 : (Jvm.Cond.code y bytes maxL rt).before a0 Z = true) (hy : y.cls ≠ "java/lang/invoke/MethodHandle" ∧ y.cls ≠ "java/lang/invoke/VarHandle") (hA : A[i]? = some (.inl (C, fs)))
    (hM : Meth l Z a0 [] y bytes maxL rt rm rm.cells rm.slots n0 (.ref (ad n0 i) :: argsL).toArray A Q') (hpd : parseMethodDescriptor y.desc = some ⟨ps, rt⟩) (hal : argsL.length = ps.length) (hL : Ls.length = ml) (hf : rm.frames + 1 ≤ R.frames) (hl : (st.map fun v => v.category).sum + (maxL + 11) + rm.locals ≤ R.locals) (hc : k + rm.cells ≤ R.cells) (hsl : n + rm.slots ≤ R.slots) (hlen' : ∀ v A', Q' v A' → A'.length = A.length + rm.cells)
    (h : ∀ v A', Q' v A' → K (pc + 3) Ls (v.toList ++ st) A' (k + rm.cells) (n + rm.slots)) : K pc Ls st' A k n := by
  subst hst
  obtain ⟨p, e, s, m, args, below, meth, c, hx, hby, hml, hown, -, hZ, -, -, -, rfl⟩ := G
  intro T locs X N hAl RP
  obtain ⟨cq, q1, q2⟩ := (RP.2 i _ hA).1.cell
  obtain ⟨c2, r2, m2, -, -, q3, -, kP, hkP, hkPi⟩ := Cond.selects_spec (mvT hZ ws : (Jvm.Cond.selects y2.cls y2 y2).before args s = true)
  have hsel : (Jvm.Cond.selects y.cls y y).before args s = true := selects_self_of_private (hy2 ▸ findClass_of_methodNamed q3) hkP hkPi (Cond.privateMethod_at (mvP hZ wp (args := #[]))) (mvT hZ wm) hy
  obtain ⟨v, _, ⟨TB, LB, kB, nB⟩, -, XB, ⟨Lc, hQB, l1, y1, z1⟩, stp⟩ := X.privateBack hx (y := y) hown (mvT hZ w1) (mvT hZ wm) hsel (Cond.privateMethod_at (mvP hZ wp (args := #[]))) (mvT hZ w4) hy (backOf (W := (st.map fun v => v.category).sum) (Q := fun v h L => Fr n0 L ∧ ∃ A', Q' v A' ∧ Rep Z a0 n0 h A') (hM T.heap RP) hZ w4 w3 hf hl) (g := mkF m pc Ls.toArray (argsL.reverse ++ .ref (ad n0 i) :: st)) rfl (by rw [hml]; simpa using hL) (Steps.refl _) (a := ad n0 i) q1 q2 (argsL := argsL) (rest := st) (lenOf hpd hal) rfl (by show 2 * 0 + _ ≤ _; omega) (hb hby hd) (fun _ _ => ⟨rfl, rfl, hc, hsl⟩)
  dsimp only [Pt.U, Pt.locs, Pt.cells, Pt.slots] at XB l1 y1 z1 stp hQB
  subst l1 y1 z1
  obtain ⟨NB, A', hq, RB⟩ := hQB
  obtain ⟨s₂, o, hs, r⟩ := h _ A' hq TB _ XB (Fr.app N NB) (by rw [hlen' _ _ hq, hAl]; omega) RB
  exact ⟨s₂, o, stp.trans hs, r⟩
/-- an int[] given by a function of the index -/
def arrF (N : Nat) (f : Int32 → Int32) : List Value := (List.range N).map fun i => .int (f (Int32.ofNat i))
def upd (f : Int32 → Int32) (x v : Int32) : Int32 → Int32 := fun i => if i = x then v else f i
theorem arrF_len (N : Nat) (f : Int32 → Int32) : (arrF N f).length = N := by simp [arrF]
theorem ofNat_of {x : Int32} {xn : Nat} (h : x.toInt = (xn : Int)) : Int32.ofNat xn = x := by
  apply Int32.toInt_inj.mp
  have := x.toInt_lt
  rw [Int32.toInt_ofNat_of_lt (by omega), h]
theorem arrF_at {N : Nat} {f : Int32 → Int32} {x : Int32} {xn : Nat} (h : x.toInt = (xn : Int)) (hl : xn < N) : (arrF N f)[xn]? = some (.int (f x)) := by
  simp [arrF, List.getElem?_map, List.getElem?_range hl, ofNat_of h]
theorem arrF_set {N : Nat} {f : Int32 → Int32} {x v : Int32} {xn : Nat} (h : x.toInt = (xn : Int)) (hN : N ≤ 1000) : (arrF N f).set xn (.int v) = arrF N (upd f x v) := by
  apply List.ext_getElem?
  intro i
  rw [List.getElem?_set]
  by_cases hi : i < N
  · have e1 : (arrF N (upd f x v))[i]? = some (.int (upd f x v (Int32.ofNat i))) := by simp [arrF, List.getElem?_map, List.getElem?_range hi]
    rw [e1]
    by_cases q : xn = i
    · subst q
      rw [if_pos rfl, if_pos (by rw [arrF_len]; exact hi)]
      simp [upd, ofNat_of h]
    · rw [if_neg q]
      have ne : ¬ Int32.ofNat i = x := fun e => q (by
        have : (Int32.ofNat i).toInt = (i : Int) := Int32.toInt_ofNat_of_lt (by omega)
        rw [e, h] at this
        omega)
      simp [arrF, List.getElem?_map, List.getElem?_range hi, upd, ne]
  · have e1 : (arrF N (upd f x v))[i]? = none := List.getElem?_eq_none (by rw [arrF_len]; omega)
    have e2 : (arrF N f)[i]? = none := List.getElem?_eq_none (by rw [arrF_len]; omega)
    rw [e1, e2]
    split
    · rename_i q
      subst q
      rw [if_neg (by rw [arrF_len]; omega)]
    · rfl
theorem arrF_zero (N : Nat) : List.replicate N (Value.int 0) = arrF N (fun _ => 0) := by
  apply List.ext_getElem?
  intro i
  by_cases hi : i < N
  · simp [arrF, List.getElem?_map, List.getElem?_range hi, List.getElem?_replicate, hi]
  · rw [List.getElem?_eq_none (by simp; omega), List.getElem?_eq_none (by rw [arrF_len]; omega)]
theorem upd_same {f : Int32 → Int32} {x v : Int32} (h : f x = v) : upd f x v = f := by
  funext i
  unfold upd
  split
  · rename_i e; subst e; exact h.symm
  · rfl
end Rules
end Jvm.Pilot.@@N@@
namespace Jvm.Pilot.@@N@@
open Jvm Jvm.ClassFile Sem Op Lib Jvm.Free Jvm.Stand Jvm.LawKit Jvm.RoadKit Bundle Jvm.Pilot.@@N@@.Jvm.D
theorem own_pd0 : parseMethodDescriptor "()V" = some ⟨[], none⟩ := by decide +kernel
theorem own_pd1 : parseMethodDescriptor "(I)V" = some ⟨[.int], none⟩ := by decide +kernel
theorem own_pd2 : parseMethodDescriptor "()I" = some ⟨[], some (.int)⟩ := by decide +kernel
theorem own_pd3 : parseMethodDescriptor "(I)I" = some ⟨[.int], some (.int)⟩ := by decide +kernel
theorem own_pd4 : parseMethodDescriptor "(I)Z" = some ⟨[.int], some (.boolean)⟩ := by decide +kernel
theorem own_fo (Z : State) (a0 : Array Value) (hw : ∀ d ∈ tables_1, d.before a0 Z = true) : FOk Z a0 "com/example/apt_clause/aptclause/body/ObjectSet" [("runStarts", "[I", .null), ("runEnds", "[I", .null), ("restName", "I", .int 0), ("rest", "[I", .null), ("repeats", "[I", .null), ("held", "[Z", .null), ("objects", "[I", .null), ("size", "I", .int 0), ("runPairs", "Lcom/example/apt_clause/aptclause/graph/Pairs;", .null), ("runCount", "I", .int 0), ("restListed", "Z", .int 0), ("restLength", "I", .int 0), ("repeatCount", "I", .int 0), ("marks", "[I", .null), ("listing", "I", .int 0)] :=
  ((((((((((((((((FOk.nil _).cons (n := "listing") (d := "I") (t := .int) (Or.inl (hw _ (List.mem_of_getElem? (i := 94) rfl))) (by decide) (by decide)).cons (n := "marks") (d := "[I") (t := .array (.int)) (Or.inl (hw _ (List.mem_of_getElem? (i := 92) rfl))) (by decide) (by decide)).cons (n := "repeatCount") (d := "I") (t := .int) (Or.inl (hw _ (List.mem_of_getElem? (i := 42) rfl))) (by decide) (by decide)).cons (n := "restLength") (d := "I") (t := .int) (Or.inl (hw _ (List.mem_of_getElem? (i := 40) rfl))) (by decide) (by decide)).cons (n := "restListed") (d := "Z") (t := .boolean) (Or.inl (hw _ (List.mem_of_getElem? (i := 38) rfl))) (by decide) (by decide)).cons (n := "runCount") (d := "I") (t := .int) (Or.inl (hw _ (List.mem_of_getElem? (i := 36) rfl))) (by decide) (by decide)).cons (n := "runPairs") (d := "Lcom/example/apt_clause/aptclause/graph/Pairs;") (t := .object "com/example/apt_clause/aptclause/graph/Pairs") (Or.inl (hw _ (List.mem_of_getElem? (i := 34) rfl))) (by decide) (by decide)).cons (n := "size") (d := "I") (t := .int) (Or.inl (hw _ (List.mem_of_getElem? (i := 32) rfl))) (by decide) (by decide)).cons (n := "objects") (d := "[I") (t := .array (.int)) (Or.inr (hw _ (List.mem_of_getElem? (i := 25) rfl))) (by decide) (by decide)).cons (n := "held") (d := "[Z") (t := .array (.boolean)) (Or.inr (hw _ (List.mem_of_getElem? (i := 23) rfl))) (by decide) (by decide)).cons (n := "repeats") (d := "[I") (t := .array (.int)) (Or.inl (hw _ (List.mem_of_getElem? (i := 20) rfl))) (by decide) (by decide)).cons (n := "rest") (d := "[I") (t := .array (.int)) (Or.inl (hw _ (List.mem_of_getElem? (i := 18) rfl))) (by decide) (by decide)).cons (n := "restName") (d := "I") (t := .int) (Or.inl (hw _ (List.mem_of_getElem? (i := 16) rfl))) (by decide) (by decide)).cons (n := "runEnds") (d := "[I") (t := .array (.int)) (Or.inl (hw _ (List.mem_of_getElem? (i := 14) rfl))) (by decide) (by decide)).cons (n := "runStarts") (d := "[I") (t := .array (.int)) (Or.inl (hw _ (List.mem_of_getElem? (i := 12) rfl))) (by decide) (by decide))
def OCells (n0 : Nat) (sz : Int32) (h g : Int32 → Int32) (N : Nat) (tl : AHeap) : AHeap := (.inl ("com/example/apt_clause/aptclause/body/ObjectSet", [("runStarts", "[I", .ref (ad n0 1)), ("runEnds", "[I", .ref (ad n0 2)), ("restName", "I", .int (-1 : Int32)), ("rest", "[I", .ref (ad n0 3)), ("repeats", "[I", .ref (ad n0 4)), ("held", "[Z", .ref (ad n0 5)), ("objects", "[I", .ref (ad n0 6)), ("size", "I", .int sz), ("runPairs", "Lcom/example/apt_clause/aptclause/graph/Pairs;", .null), ("runCount", "I", .int (0 : Int32)), ("restListed", "Z", .int (0 : Int32)), ("restLength", "I", .int (0 : Int32)), ("repeatCount", "I", .int (0 : Int32)), ("marks", "[I", .null), ("listing", "I", .int (0 : Int32))]) :: .inr (.int, [.int (0 : Int32)]) :: .inr (.int, [.int (0 : Int32)]) :: .inr (.int, []) :: .inr (.int, []) :: (.inr (.boolean, arrF N h)) :: (.inr (.int, arrF N g)) :: tl : AHeap)
theorem d1_0 : decode prog_2_method_1_code 0 = .ok (.aload_n 0, 1) := by decide +kernel
theorem d1_1 : decode prog_2_method_1_code 1 = .ok (.invokespecial 1, 3) := by decide +kernel
theorem d1_4 : decode prog_2_method_1_code 4 = .ok (.aload_n 0, 1) := by decide +kernel
theorem d1_5 : decode prog_2_method_1_code 5 = .ok (.iconst 1, 1) := by decide +kernel
theorem d1_6 : decode prog_2_method_1_code 6 = .ok (.newarray .int, 2) := by decide +kernel
theorem d1_8 : decode prog_2_method_1_code 8 = .ok (.putfield 7, 3) := by decide +kernel
theorem d1_11 : decode prog_2_method_1_code 11 = .ok (.aload_n 0, 1) := by decide +kernel
theorem d1_12 : decode prog_2_method_1_code 12 = .ok (.iconst 1, 1) := by decide +kernel
theorem d1_13 : decode prog_2_method_1_code 13 = .ok (.newarray .int, 2) := by decide +kernel
theorem d1_15 : decode prog_2_method_1_code 15 = .ok (.putfield 13, 3) := by decide +kernel
theorem d1_18 : decode prog_2_method_1_code 18 = .ok (.aload_n 0, 1) := by decide +kernel
theorem d1_19 : decode prog_2_method_1_code 19 = .ok (.iconst (-1), 1) := by decide +kernel
theorem d1_20 : decode prog_2_method_1_code 20 = .ok (.putfield 16, 3) := by decide +kernel
theorem d1_23 : decode prog_2_method_1_code 23 = .ok (.aload_n 0, 1) := by decide +kernel
theorem d1_24 : decode prog_2_method_1_code 24 = .ok (.iconst 0, 1) := by decide +kernel
theorem d1_25 : decode prog_2_method_1_code 25 = .ok (.newarray .int, 2) := by decide +kernel
theorem d1_27 : decode prog_2_method_1_code 27 = .ok (.putfield 20, 3) := by decide +kernel
theorem d1_30 : decode prog_2_method_1_code 30 = .ok (.aload_n 0, 1) := by decide +kernel
theorem d1_31 : decode prog_2_method_1_code 31 = .ok (.iconst 0, 1) := by decide +kernel
theorem d1_32 : decode prog_2_method_1_code 32 = .ok (.newarray .int, 2) := by decide +kernel
theorem d1_34 : decode prog_2_method_1_code 34 = .ok (.putfield 23, 3) := by decide +kernel
theorem d1_37 : decode prog_2_method_1_code 37 = .ok (.aload_n 0, 1) := by decide +kernel
theorem d1_38 : decode prog_2_method_1_code 38 = .ok (.iload_n 1, 1) := by decide +kernel
theorem d1_39 : decode prog_2_method_1_code 39 = .ok (.newarray .boolean, 2) := by decide +kernel
theorem d1_41 : decode prog_2_method_1_code 41 = .ok (.putfield 26, 3) := by decide +kernel
theorem d1_44 : decode prog_2_method_1_code 44 = .ok (.aload_n 0, 1) := by decide +kernel
theorem d1_45 : decode prog_2_method_1_code 45 = .ok (.iload_n 1, 1) := by decide +kernel
theorem d1_46 : decode prog_2_method_1_code 46 = .ok (.newarray .int, 2) := by decide +kernel
theorem d1_48 : decode prog_2_method_1_code 48 = .ok (.putfield 30, 3) := by decide +kernel
theorem d1_51 : decode prog_2_method_1_code 51 = .ok (.return_, 1) := by decide +kernel
def own_xm_1 (x : Int32) : Int32 := (0 : Int32)
theorem own_pn5 : plainName "com/example/apt_clause/aptclause/body/ObjectSet" = true := by first | (simp [plainName, overriddenIn]; done) | decide +kernel
set_option maxRecDepth 65536 in
set_option maxHeartbeats 40000000 in
theorem m_1 (l : Launch) (Z : State) (a0 : Array Value) (hw : ∀ d ∈ tables_1, d.before a0 Z = true) (n0 : Nat) (ws : List Jvm.Cond) (x : Int32) (N : Nat) (hn : x.toInt = (N : Int)) (hN : N ≤ 8) :
    Meth l Z a0 ws (⟨"com/example/apt_clause/aptclause/body/ObjectSet", "<init>", "(I)V"⟩ : MethodName) prog_2_method_1_code 2 none ({ frames := 1, cells := 6, slots := 18, locals := 16 } : Room) 6 18 n0 #[.ref (ad n0 0), .int x] ([.inl ("com/example/apt_clause/aptclause/body/ObjectSet", [("runStarts", "[I", .null), ("runEnds", "[I", .null), ("restName", "I", .int (0 : Int32)), ("rest", "[I", .null), ("repeats", "[I", .null), ("held", "[Z", .null), ("objects", "[I", .null), ("size", "I", .int (0 : Int32)), ("runPairs", "Lcom/example/apt_clause/aptclause/graph/Pairs;", .null), ("runCount", "I", .int (0 : Int32)), ("restListed", "Z", .int (0 : Int32)), ("restLength", "I", .int (0 : Int32)), ("repeatCount", "I", .int (0 : Int32)), ("marks", "[I", .null), ("listing", "I", .int (0 : Int32))])] : AHeap) (fun r A' => r = none ∧ A' = OCells n0 0 (fun _ => 0) (fun _ => 0) N []) := by
  refine Meth.of (plainFor_of_name own_pn5) (Ls := [.val (.ref (ad n0 0)), .val (.int x)]) (fun m => by first | (simp [entryFrame, mkF, argsToLocals, Value.category, maxLocals]; done) | rfl) ?_
  intro K G
  have he : own_xm_1 x = own_xm_1 x := rfl
  refine G.aloadN d1_0 rfl rfl ?_
  refine G.initObj d1_1 (hw _ (List.mem_of_getElem? (i := 7) rfl)) (hw _ (List.mem_of_getElem? (i := 8) rfl)) (hw _ (List.mem_of_getElem? (i := 9) rfl)) rfl (Nat.le_of_ble_eq_true rfl) (Nat.le_of_ble_eq_true rfl) ?_
  refine G.aloadN d1_4 rfl rfl ?_
  refine G.iconst (1) d1_5 rfl ?_
  refine G.newarr 1 1 d1_6 (hw _ (List.mem_of_getElem? (i := 10) rfl)) (by decide) (Nat.le_of_ble_eq_true rfl) (by decide) (Nat.le_of_ble_eq_true rfl) (Nat.le_of_ble_eq_true rfl) rfl ?_
  try simp only [List.set_cons_zero, List.set_cons_succ, List.length_cons, List.length_nil, List.nil_append, List.cons_append, Nat.zero_add, Nat.reduceAdd]
  refine G.putf (j := 0) (host := "") d1_8 (Or.inl (hw _ (List.mem_of_getElem? (i := 11) rfl))) (Or.inl (hw _ (List.mem_of_getElem? (i := 12) rfl))) (hw _ (List.mem_of_getElem? (i := 2) rfl)) (ty := .array (.int)) (by decide) rfl rfl rfl rfl ?_
  try simp only [List.set_cons_zero, List.set_cons_succ, List.length_cons, List.length_nil, List.nil_append, List.cons_append, Nat.zero_add, Nat.reduceAdd]
  refine G.aloadN d1_11 rfl rfl ?_
  refine G.iconst (1) d1_12 rfl ?_
  refine G.newarr 1 1 d1_13 (hw _ (List.mem_of_getElem? (i := 10) rfl)) (by decide) (Nat.le_of_ble_eq_true rfl) (by decide) (Nat.le_of_ble_eq_true rfl) (Nat.le_of_ble_eq_true rfl) rfl ?_
  try simp only [List.set_cons_zero, List.set_cons_succ, List.length_cons, List.length_nil, List.nil_append, List.cons_append, Nat.zero_add, Nat.reduceAdd]
  refine G.putf (j := 1) (host := "") d1_15 (Or.inl (hw _ (List.mem_of_getElem? (i := 13) rfl))) (Or.inl (hw _ (List.mem_of_getElem? (i := 14) rfl))) (hw _ (List.mem_of_getElem? (i := 2) rfl)) (ty := .array (.int)) (by decide) rfl rfl rfl rfl ?_
  try simp only [List.set_cons_zero, List.set_cons_succ, List.length_cons, List.length_nil, List.nil_append, List.cons_append, Nat.zero_add, Nat.reduceAdd]
  refine G.aloadN d1_18 rfl rfl ?_
  refine G.iconst (-1) d1_19 rfl ?_
  refine G.putf (j := 2) (host := "") d1_20 (Or.inl (hw _ (List.mem_of_getElem? (i := 15) rfl))) (Or.inl (hw _ (List.mem_of_getElem? (i := 16) rfl))) (hw _ (List.mem_of_getElem? (i := 2) rfl)) (ty := .int) (by decide) rfl rfl rfl rfl ?_
  try simp only [List.set_cons_zero, List.set_cons_succ, List.length_cons, List.length_nil, List.nil_append, List.cons_append, Nat.zero_add, Nat.reduceAdd]
  refine G.aloadN d1_23 rfl rfl ?_
  refine G.iconst (0) d1_24 rfl ?_
  refine G.newarr 0 0 d1_25 (hw _ (List.mem_of_getElem? (i := 10) rfl)) (by decide) (Nat.le_of_ble_eq_true rfl) (by decide) (Nat.le_of_ble_eq_true rfl) (Nat.le_of_ble_eq_true rfl) rfl ?_
  try simp only [List.set_cons_zero, List.set_cons_succ, List.length_cons, List.length_nil, List.nil_append, List.cons_append, Nat.zero_add, Nat.reduceAdd]
  refine G.putf (j := 3) (host := "") d1_27 (Or.inl (hw _ (List.mem_of_getElem? (i := 17) rfl))) (Or.inl (hw _ (List.mem_of_getElem? (i := 18) rfl))) (hw _ (List.mem_of_getElem? (i := 2) rfl)) (ty := .array (.int)) (by decide) rfl rfl rfl rfl ?_
  try simp only [List.set_cons_zero, List.set_cons_succ, List.length_cons, List.length_nil, List.nil_append, List.cons_append, Nat.zero_add, Nat.reduceAdd]
  refine G.aloadN d1_30 rfl rfl ?_
  refine G.iconst (0) d1_31 rfl ?_
  refine G.newarr 0 0 d1_32 (hw _ (List.mem_of_getElem? (i := 10) rfl)) (by decide) (Nat.le_of_ble_eq_true rfl) (by decide) (Nat.le_of_ble_eq_true rfl) (Nat.le_of_ble_eq_true rfl) rfl ?_
  try simp only [List.set_cons_zero, List.set_cons_succ, List.length_cons, List.length_nil, List.nil_append, List.cons_append, Nat.zero_add, Nat.reduceAdd]
  refine G.putf (j := 4) (host := "") d1_34 (Or.inl (hw _ (List.mem_of_getElem? (i := 19) rfl))) (Or.inl (hw _ (List.mem_of_getElem? (i := 20) rfl))) (hw _ (List.mem_of_getElem? (i := 2) rfl)) (ty := .array (.int)) (by decide) rfl rfl rfl rfl ?_
  try simp only [List.set_cons_zero, List.set_cons_succ, List.length_cons, List.length_nil, List.nil_append, List.cons_append, Nat.zero_add, Nat.reduceAdd]
  refine G.aloadN d1_37 rfl rfl ?_
  refine G.iloadN d1_38 rfl ?_
  refine G.newarr N 8 d1_39 (hw _ (List.mem_of_getElem? (i := 21) rfl)) hn hN (by decide) (Nat.le_of_ble_eq_true rfl) (Nat.le_of_ble_eq_true rfl) rfl ?_
  try simp only [List.set_cons_zero, List.set_cons_succ, List.length_cons, List.length_nil, List.nil_append, List.cons_append, Nat.zero_add, Nat.reduceAdd]
  rw [show List.replicate N (defaultValue (newarray.typeOf .boolean)) = arrF N (fun _ => 0) from arrF_zero N]
  refine G.putf (j := 5) (host := "") d1_41 (Or.inl (hw _ (List.mem_of_getElem? (i := 22) rfl))) (Or.inr ⟨(hw _ (List.mem_of_getElem? (i := 23) rfl)), rfl, rfl⟩) (hw _ (List.mem_of_getElem? (i := 2) rfl)) (ty := .array (.boolean)) (by decide) rfl rfl rfl rfl ?_
  try simp only [List.set_cons_zero, List.set_cons_succ, List.length_cons, List.length_nil, List.nil_append, List.cons_append, Nat.zero_add, Nat.reduceAdd]
  refine G.aloadN d1_44 rfl rfl ?_
  refine G.iloadN d1_45 rfl ?_
  refine G.newarr N 8 d1_46 (hw _ (List.mem_of_getElem? (i := 10) rfl)) hn hN (by decide) (Nat.le_of_ble_eq_true rfl) (Nat.le_of_ble_eq_true rfl) rfl ?_
  try simp only [List.set_cons_zero, List.set_cons_succ, List.length_cons, List.length_nil, List.nil_append, List.cons_append, Nat.zero_add, Nat.reduceAdd]
  rw [show List.replicate N (defaultValue (newarray.typeOf .int)) = arrF N (fun _ => 0) from arrF_zero N]
  refine G.putf (j := 6) (host := "") d1_48 (Or.inl (hw _ (List.mem_of_getElem? (i := 24) rfl))) (Or.inr ⟨(hw _ (List.mem_of_getElem? (i := 25) rfl)), rfl, rfl⟩) (hw _ (List.mem_of_getElem? (i := 2) rfl)) (ty := .array (.int)) (by decide) rfl rfl rfl rfl ?_
  try simp only [List.set_cons_zero, List.set_cons_succ, List.length_cons, List.length_nil, List.nil_append, List.cons_append, Nat.zero_add, Nat.reduceAdd]
  exact G.vreturn rfl d1_51 (Nat.le_of_ble_eq_true rfl) (Nat.le_of_ble_eq_true rfl) ⟨rfl, rfl⟩
theorem d9_0 : decode prog_2_method_7_code 0 = .ok (.aload_n 0, 1) := by decide +kernel
theorem d9_1 : decode prog_2_method_7_code 1 = .ok (.getfield 26, 3) := by decide +kernel
theorem d9_4 : decode prog_2_method_7_code 4 = .ok (.iload_n 1, 1) := by decide +kernel
theorem d9_5 : decode prog_2_method_7_code 5 = .ok (.baload, 1) := by decide +kernel
theorem d9_6 : decode prog_2_method_7_code 6 = .ok (.ifCond .ne 27, 3) := by decide +kernel
theorem d9_9 : decode prog_2_method_7_code 9 = .ok (.aload_n 0, 1) := by decide +kernel
theorem d9_10 : decode prog_2_method_7_code 10 = .ok (.getfield 26, 3) := by decide +kernel
theorem d9_13 : decode prog_2_method_7_code 13 = .ok (.iload_n 1, 1) := by decide +kernel
theorem d9_14 : decode prog_2_method_7_code 14 = .ok (.iconst 1, 1) := by decide +kernel
theorem d9_15 : decode prog_2_method_7_code 15 = .ok (.bastore, 1) := by decide +kernel
theorem d9_16 : decode prog_2_method_7_code 16 = .ok (.aload_n 0, 1) := by decide +kernel
theorem d9_17 : decode prog_2_method_7_code 17 = .ok (.getfield 30, 3) := by decide +kernel
theorem d9_20 : decode prog_2_method_7_code 20 = .ok (.aload_n 0, 1) := by decide +kernel
theorem d9_21 : decode prog_2_method_7_code 21 = .ok (.dup, 1) := by decide +kernel
theorem d9_22 : decode prog_2_method_7_code 22 = .ok (.getfield 33, 3) := by decide +kernel
theorem d9_25 : decode prog_2_method_7_code 25 = .ok (.dup_x1, 1) := by decide +kernel
theorem d9_26 : decode prog_2_method_7_code 26 = .ok (.iconst 1, 1) := by decide +kernel
theorem d9_27 : decode prog_2_method_7_code 27 = .ok (.iadd, 1) := by decide +kernel
theorem d9_28 : decode prog_2_method_7_code 28 = .ok (.putfield 33, 3) := by decide +kernel
theorem d9_31 : decode prog_2_method_7_code 31 = .ok (.iload_n 1, 1) := by decide +kernel
theorem d9_32 : decode prog_2_method_7_code 32 = .ok (.iastore, 1) := by decide +kernel
theorem d9_33 : decode prog_2_method_7_code 33 = .ok (.return_, 1) := by decide +kernel
def own_xm_9n (sz : Int32) (h : Int32 → Int32) (g : Int32 → Int32) (x : Int32) : Int32 := (0 : Int32)
set_option maxRecDepth 65536 in
set_option maxHeartbeats 40000000 in
theorem m_9n (l : Launch) (Z : State) (a0 : Array Value) (hw : ∀ d ∈ tables_1, d.before a0 Z = true) (n0 : Nat) (ws : List Jvm.Cond) (sz : Int32) (h g : Int32 → Int32) (N : Nat) (tl : AHeap) (x : Int32) (xn : Nat) (hx : x.toInt = (xn : Int)) (hl : xn < N) (hN : N ≤ 8) (h0 : h x = 0) (sn : Nat) (hs : sz.toInt = (sn : Int)) (hsl : sn < N) (sz' : Int32) (hs' : sz + 1 = sz') :
    Meth l Z a0 ws (⟨"com/example/apt_clause/aptclause/body/ObjectSet", "add", "(I)V"⟩ : MethodName) prog_2_method_7_code 2 none ({ frames := 0, cells := 0, slots := 0, locals := 0 } : Room) 0 0 n0 #[.ref (ad n0 0), .int x] (.inl ("com/example/apt_clause/aptclause/body/ObjectSet", [("runStarts", "[I", .ref (ad n0 1)), ("runEnds", "[I", .ref (ad n0 2)), ("restName", "I", .int (-1 : Int32)), ("rest", "[I", .ref (ad n0 3)), ("repeats", "[I", .ref (ad n0 4)), ("held", "[Z", .ref (ad n0 5)), ("objects", "[I", .ref (ad n0 6)), ("size", "I", .int sz), ("runPairs", "Lcom/example/apt_clause/aptclause/graph/Pairs;", .null), ("runCount", "I", .int (0 : Int32)), ("restListed", "Z", .int (0 : Int32)), ("restLength", "I", .int (0 : Int32)), ("repeatCount", "I", .int (0 : Int32)), ("marks", "[I", .null), ("listing", "I", .int (0 : Int32))]) :: .inr (.int, [.int (0 : Int32)]) :: .inr (.int, [.int (0 : Int32)]) :: .inr (.int, []) :: .inr (.int, []) :: (.inr (.boolean, arrF N h)) :: (.inr (.int, arrF N g)) :: tl : AHeap) (fun r A' => r = none ∧ A' = OCells n0 sz' (upd h x 1) (upd g sz x) N tl) := by
  refine Meth.of (plainFor_of_name own_pn5) (Ls := [.val (.ref (ad n0 0)), .val (.int x)]) (fun m => by first | (simp [entryFrame, mkF, argsToLocals, Value.category, maxLocals]; done) | rfl) ?_
  intro K G
  have he : own_xm_9n sz h g x = own_xm_9n sz h g x := rfl
  refine G.aloadN d9_0 rfl rfl ?_
  refine G.getf (j := 5) (host := "") d9_1 (Or.inl (hw _ (List.mem_of_getElem? (i := 22) rfl))) rfl rfl ?_
  refine G.iloadN d9_4 rfl ?_
  refine G.zald xn d9_5 rfl hx (arrF_at hx hl) ?_
  refine G.if_ne 33 d9_6 (by decide) rfl (fun h6 => absurd h6 (fun q => q h0)) (fun _ => ?_)
  refine G.aloadN d9_9 rfl rfl ?_
  refine G.getf (j := 5) (host := "") d9_10 (Or.inl (hw _ (List.mem_of_getElem? (i := 22) rfl))) rfl rfl ?_
  refine G.iloadN d9_13 rfl ?_
  refine G.iconst (1) d9_14 rfl ?_
  refine G.zast xn d9_15 rfl hx (by rw [arrF_len]; exact hl) (x8 := 1) rfl rfl ?_
  try simp only [List.set_cons_zero, List.set_cons_succ, List.length_cons, List.length_nil, List.nil_append, List.cons_append, Nat.zero_add, Nat.reduceAdd]
  rw [arrF_set hx (by omega)]
  refine G.aloadN d9_16 rfl rfl ?_
  refine G.getf (j := 6) (host := "") d9_17 (Or.inl (hw _ (List.mem_of_getElem? (i := 24) rfl))) rfl rfl ?_
  refine G.aloadN d9_20 rfl rfl ?_
  refine G.dup d9_21 rfl ?_
  refine G.getf (j := 7) (host := "") d9_22 (Or.inl (hw _ (List.mem_of_getElem? (i := 31) rfl))) rfl rfl ?_
  refine G.dupX1 d9_25 rfl rfl ?_
  refine G.iconst (1) d9_26 rfl ?_
  refine G.iadd d9_27 ?_
  refine G.putf (j := 7) (host := "") d9_28 (Or.inl (hw _ (List.mem_of_getElem? (i := 31) rfl))) (Or.inl (hw _ (List.mem_of_getElem? (i := 32) rfl))) (hw _ (List.mem_of_getElem? (i := 2) rfl)) (ty := .int) (by decide) rfl rfl rfl rfl ?_
  try simp only [List.set_cons_zero, List.set_cons_succ, List.length_cons, List.length_nil, List.nil_append, List.cons_append, Nat.zero_add, Nat.reduceAdd]
  refine G.iloadN d9_31 rfl ?_
  refine G.iast sn d9_32 rfl hs (by rw [arrF_len]; exact hsl) ?_
  try simp only [List.set_cons_zero, List.set_cons_succ, List.length_cons, List.length_nil, List.nil_append, List.cons_append, Nat.zero_add, Nat.reduceAdd]
  rw [arrF_set hs (by omega)]
  exact G.vreturn rfl d9_33 (Nat.le_of_ble_eq_true rfl) (Nat.le_of_ble_eq_true rfl) ⟨rfl, by rw [← hs']; rfl⟩
def own_xm_9o (sz : Int32) (h : Int32 → Int32) (g : Int32 → Int32) (x : Int32) : Int32 := (0 : Int32)
set_option maxRecDepth 65536 in
set_option maxHeartbeats 40000000 in
theorem m_9o (l : Launch) (Z : State) (a0 : Array Value) (hw : ∀ d ∈ tables_1, d.before a0 Z = true) (n0 : Nat) (ws : List Jvm.Cond) (sz : Int32) (h g : Int32 → Int32) (N : Nat) (tl : AHeap) (x : Int32) (xn : Nat) (hx : x.toInt = (xn : Int)) (hl : xn < N) (h0 : ¬ h x = 0) :
    Meth l Z a0 ws (⟨"com/example/apt_clause/aptclause/body/ObjectSet", "add", "(I)V"⟩ : MethodName) prog_2_method_7_code 2 none ({ frames := 0, cells := 0, slots := 0, locals := 0 } : Room) 0 0 n0 #[.ref (ad n0 0), .int x] (.inl ("com/example/apt_clause/aptclause/body/ObjectSet", [("runStarts", "[I", .ref (ad n0 1)), ("runEnds", "[I", .ref (ad n0 2)), ("restName", "I", .int (-1 : Int32)), ("rest", "[I", .ref (ad n0 3)), ("repeats", "[I", .ref (ad n0 4)), ("held", "[Z", .ref (ad n0 5)), ("objects", "[I", .ref (ad n0 6)), ("size", "I", .int sz), ("runPairs", "Lcom/example/apt_clause/aptclause/graph/Pairs;", .null), ("runCount", "I", .int (0 : Int32)), ("restListed", "Z", .int (0 : Int32)), ("restLength", "I", .int (0 : Int32)), ("repeatCount", "I", .int (0 : Int32)), ("marks", "[I", .null), ("listing", "I", .int (0 : Int32))]) :: .inr (.int, [.int (0 : Int32)]) :: .inr (.int, [.int (0 : Int32)]) :: .inr (.int, []) :: .inr (.int, []) :: (.inr (.boolean, arrF N h)) :: (.inr (.int, arrF N g)) :: tl : AHeap) (fun r A' => r = none ∧ A' = OCells n0 sz h g N tl) := by
  refine Meth.of (plainFor_of_name own_pn5) (Ls := [.val (.ref (ad n0 0)), .val (.int x)]) (fun m => by first | (simp [entryFrame, mkF, argsToLocals, Value.category, maxLocals]; done) | rfl) ?_
  intro K G
  have he : own_xm_9o sz h g x = own_xm_9o sz h g x := rfl
  refine G.aloadN d9_0 rfl rfl ?_
  refine G.getf (j := 5) (host := "") d9_1 (Or.inl (hw _ (List.mem_of_getElem? (i := 22) rfl))) rfl rfl ?_
  refine G.iloadN d9_4 rfl ?_
  refine G.zald xn d9_5 rfl hx (arrF_at hx hl) ?_
  refine G.if_ne 33 d9_6 (by decide) rfl (fun _ => ?_) (fun h6 => absurd h6 (h0))
  exact G.vreturn rfl d9_33 (Nat.le_of_ble_eq_true rfl) (Nat.le_of_ble_eq_true rfl) ⟨rfl, rfl⟩
theorem d5_0 : decode prog_2_method_13_code 0 = .ok (.aload_n 0, 1) := by decide +kernel
theorem d5_1 : decode prog_2_method_13_code 1 = .ok (.getfield 13, 3) := by decide +kernel
theorem d5_4 : decode prog_2_method_13_code 4 = .ok (.iload_n 1, 1) := by decide +kernel
theorem d5_5 : decode prog_2_method_13_code 5 = .ok (.iaload, 1) := by decide +kernel
theorem d5_6 : decode prog_2_method_13_code 6 = .ok (.aload_n 0, 1) := by decide +kernel
theorem d5_7 : decode prog_2_method_13_code 7 = .ok (.getfield 7, 3) := by decide +kernel
theorem d5_10 : decode prog_2_method_13_code 10 = .ok (.iload_n 1, 1) := by decide +kernel
theorem d5_11 : decode prog_2_method_13_code 11 = .ok (.iaload, 1) := by decide +kernel
theorem d5_12 : decode prog_2_method_13_code 12 = .ok (.isub, 1) := by decide +kernel
theorem d5_13 : decode prog_2_method_13_code 13 = .ok (.ireturn, 1) := by decide +kernel
def own_xm_5 (sz : Int32) (h : Int32 → Int32) (g : Int32 → Int32) : Int32 := ((0 : Int32) - (0 : Int32))
set_option maxRecDepth 65536 in
set_option maxHeartbeats 40000000 in
theorem m_5 (l : Launch) (Z : State) (a0 : Array Value) (hw : ∀ d ∈ tables_1, d.before a0 Z = true) (n0 : Nat) (ws : List Jvm.Cond) (sz : Int32) (h g : Int32 → Int32) (N : Nat) (tl : AHeap) :
    Meth l Z a0 ws (⟨"com/example/apt_clause/aptclause/body/ObjectSet", "runLength", "(I)I"⟩ : MethodName) prog_2_method_13_code 2 (some (.int)) ({ frames := 0, cells := 0, slots := 0, locals := 0 } : Room) 0 0 n0 #[.ref (ad n0 0), .int (0 : Int32)] (.inl ("com/example/apt_clause/aptclause/body/ObjectSet", [("runStarts", "[I", .ref (ad n0 1)), ("runEnds", "[I", .ref (ad n0 2)), ("restName", "I", .int (-1 : Int32)), ("rest", "[I", .ref (ad n0 3)), ("repeats", "[I", .ref (ad n0 4)), ("held", "[Z", .ref (ad n0 5)), ("objects", "[I", .ref (ad n0 6)), ("size", "I", .int sz), ("runPairs", "Lcom/example/apt_clause/aptclause/graph/Pairs;", .null), ("runCount", "I", .int (0 : Int32)), ("restListed", "Z", .int (0 : Int32)), ("restLength", "I", .int (0 : Int32)), ("repeatCount", "I", .int (0 : Int32)), ("marks", "[I", .null), ("listing", "I", .int (0 : Int32))]) :: .inr (.int, [.int (0 : Int32)]) :: .inr (.int, [.int (0 : Int32)]) :: .inr (.int, []) :: .inr (.int, []) :: (.inr (.boolean, arrF N h)) :: (.inr (.int, arrF N g)) :: tl : AHeap) (fun r A' => r = some (.int ((0 : Int32) - (0 : Int32))) ∧ A' = OCells n0 sz h g N tl) := by
  refine Meth.of (plainFor_of_name own_pn5) (Ls := [.val (.ref (ad n0 0)), .val (.int (0 : Int32))]) (fun m => by first | (simp [entryFrame, mkF, argsToLocals, Value.category, maxLocals]; done) | rfl) ?_
  intro K G
  have he : own_xm_5 sz h g = own_xm_5 sz h g := rfl
  refine G.aloadN d5_0 rfl rfl ?_
  refine G.getf (j := 1) (host := "") d5_1 (Or.inl (hw _ (List.mem_of_getElem? (i := 13) rfl))) rfl rfl ?_
  refine G.iloadN d5_4 rfl ?_
  refine G.iald (0) d5_5 rfl (by decide) rfl ?_
  refine G.aloadN d5_6 rfl rfl ?_
  refine G.getf (j := 0) (host := "") d5_7 (Or.inl (hw _ (List.mem_of_getElem? (i := 11) rfl))) rfl rfl ?_
  refine G.iloadN d5_10 rfl ?_
  refine G.iald (0) d5_11 rfl (by decide) rfl ?_
  refine G.isub d5_12 ?_
  exact G.ireturn rfl d5_13 (Nat.le_of_ble_eq_true rfl) (Nat.le_of_ble_eq_true rfl) ⟨rfl, rfl⟩
theorem d4_0 : decode prog_2_method_9_code 0 = .ok (.aload_n 0, 1) := by decide +kernel
theorem d4_1 : decode prog_2_method_9_code 1 = .ok (.iconst 0, 1) := by decide +kernel
theorem d4_2 : decode prog_2_method_9_code 2 = .ok (.invokevirtual 60, 3) := by decide +kernel
theorem d4_5 : decode prog_2_method_9_code 5 = .ok (.aload_n 0, 1) := by decide +kernel
theorem d4_6 : decode prog_2_method_9_code 6 = .ok (.getfield 47, 3) := by decide +kernel
theorem d4_9 : decode prog_2_method_9_code 9 = .ok (.iadd, 1) := by decide +kernel
theorem d4_10 : decode prog_2_method_9_code 10 = .ok (.aload_n 0, 1) := by decide +kernel
theorem d4_11 : decode prog_2_method_9_code 11 = .ok (.getfield 33, 3) := by decide +kernel
theorem d4_14 : decode prog_2_method_9_code 14 = .ok (.iadd, 1) := by decide +kernel
theorem d4_15 : decode prog_2_method_9_code 15 = .ok (.ireturn, 1) := by decide +kernel
def own_xm_4 (sz : Int32) (h : Int32 → Int32) (g : Int32 → Int32) : Int32 := ((((0 : Int32) - (0 : Int32)) + (0 : Int32)) + sz)
set_option maxRecDepth 65536 in
set_option maxHeartbeats 40000000 in
theorem m_4 (l : Launch) (Z : State) (a0 : Array Value) (hw : ∀ d ∈ tables_1, d.before a0 Z = true) (n0 : Nat) (ws : List Jvm.Cond) (sz : Int32) (h g : Int32 → Int32) (N : Nat) (tl : AHeap) :
    Meth l Z a0 ws (⟨"com/example/apt_clause/aptclause/body/ObjectSet", "size", "()I"⟩ : MethodName) prog_2_method_9_code 1 (some (.int)) ({ frames := 1, cells := 0, slots := 0, locals := 20 } : Room) 0 0 n0 #[.ref (ad n0 0)] (.inl ("com/example/apt_clause/aptclause/body/ObjectSet", [("runStarts", "[I", .ref (ad n0 1)), ("runEnds", "[I", .ref (ad n0 2)), ("restName", "I", .int (-1 : Int32)), ("rest", "[I", .ref (ad n0 3)), ("repeats", "[I", .ref (ad n0 4)), ("held", "[Z", .ref (ad n0 5)), ("objects", "[I", .ref (ad n0 6)), ("size", "I", .int sz), ("runPairs", "Lcom/example/apt_clause/aptclause/graph/Pairs;", .null), ("runCount", "I", .int (0 : Int32)), ("restListed", "Z", .int (0 : Int32)), ("restLength", "I", .int (0 : Int32)), ("repeatCount", "I", .int (0 : Int32)), ("marks", "[I", .null), ("listing", "I", .int (0 : Int32))]) :: .inr (.int, [.int (0 : Int32)]) :: .inr (.int, [.int (0 : Int32)]) :: .inr (.int, []) :: .inr (.int, []) :: (.inr (.boolean, arrF N h)) :: (.inr (.int, arrF N g)) :: tl : AHeap) (fun r A' => r = some (.int ((((0 : Int32) - (0 : Int32)) + (0 : Int32)) + sz)) ∧ A' = OCells n0 sz h g N tl) := by
  refine Meth.of (plainFor_of_name own_pn5) (Ls := [.val (.ref (ad n0 0))]) (fun m => by first | (simp [entryFrame, mkF, argsToLocals, Value.category, maxLocals]; done) | rfl) ?_
  intro K G
  have he : own_xm_4 sz h g = own_xm_4 sz h g := rfl
  refine G.aloadN d4_0 rfl rfl ?_
  refine G.iconst (0) d4_1 rfl ?_
  refine G.vcall [_] rfl d4_2 (hw _ (List.mem_of_getElem? (i := 48) rfl)) (hw _ (List.mem_of_getElem? (i := 49) rfl)) (hw _ (List.mem_of_getElem? (i := 51) rfl)) (hw _ (List.mem_of_getElem? (i := 50) rfl)) (hw _ (List.mem_of_getElem? (i := 3) rfl)) (hw _ (List.mem_of_getElem? (i := 52) rfl)) (by decide) rfl (m_5 l Z a0 hw n0 [] _ _ _ _ _) own_pd3 rfl rfl (Nat.le_of_ble_eq_true rfl) (Nat.le_of_ble_eq_true rfl) (Nat.le_of_ble_eq_true rfl) (Nat.le_of_ble_eq_true rfl) (by rintro _ _ ⟨rfl, rfl⟩; rfl) ?_
  rintro _ _ ⟨rfl, rfl⟩
  refine G.aloadN d4_5 rfl rfl ?_
  refine G.getf (j := 11) (host := "") d4_6 (Or.inl (hw _ (List.mem_of_getElem? (i := 39) rfl))) rfl rfl ?_
  refine G.iadd d4_9 ?_
  refine G.aloadN d4_10 rfl rfl ?_
  refine G.getf (j := 7) (host := "") d4_11 (Or.inl (hw _ (List.mem_of_getElem? (i := 31) rfl))) rfl rfl ?_
  refine G.iadd d4_14 ?_
  exact G.ireturn rfl d4_15 (Nat.le_of_ble_eq_true rfl) (Nat.le_of_ble_eq_true rfl) ⟨rfl, rfl⟩
theorem d10_0 : decode prog_2_method_10_code 0 = .ok (.aload_n 0, 1) := by decide +kernel
theorem d10_1 : decode prog_2_method_10_code 1 = .ok (.iconst 0, 1) := by decide +kernel
theorem d10_2 : decode prog_2_method_10_code 2 = .ok (.invokevirtual 60, 3) := by decide +kernel
theorem d10_5 : decode prog_2_method_10_code 5 = .ok (.istore_n 2, 1) := by decide +kernel
theorem d10_6 : decode prog_2_method_10_code 6 = .ok (.iload_n 1, 1) := by decide +kernel
theorem d10_7 : decode prog_2_method_10_code 7 = .ok (.iload_n 2, 1) := by decide +kernel
theorem d10_8 : decode prog_2_method_10_code 8 = .ok (.if_icmp .ge 22, 3) := by decide +kernel
theorem d10_11 : decode prog_2_method_10_code 11 = .ok (.aload_n 0, 1) := by decide +kernel
theorem d10_12 : decode prog_2_method_10_code 12 = .ok (.getfield 36, 3) := by decide +kernel
theorem d10_15 : decode prog_2_method_10_code 15 = .ok (.aload_n 0, 1) := by decide +kernel
theorem d10_16 : decode prog_2_method_10_code 16 = .ok (.getfield 7, 3) := by decide +kernel
theorem d10_19 : decode prog_2_method_10_code 19 = .ok (.iconst 0, 1) := by decide +kernel
theorem d10_20 : decode prog_2_method_10_code 20 = .ok (.iaload, 1) := by decide +kernel
theorem d10_21 : decode prog_2_method_10_code 21 = .ok (.iload_n 1, 1) := by decide +kernel
theorem d10_22 : decode prog_2_method_10_code 22 = .ok (.iadd, 1) := by decide +kernel
theorem d10_23 : decode prog_2_method_10_code 23 = .ok (.invokevirtual 70, 3) := by decide +kernel
theorem d10_26 : decode prog_2_method_10_code 26 = .ok (.istore_n 3, 1) := by decide +kernel
theorem d10_27 : decode prog_2_method_10_code 27 = .ok (.goto 50, 3) := by decide +kernel
theorem d10_30 : decode prog_2_method_10_code 30 = .ok (.iload_n 1, 1) := by decide +kernel
theorem d10_31 : decode prog_2_method_10_code 31 = .ok (.iload_n 2, 1) := by decide +kernel
theorem d10_32 : decode prog_2_method_10_code 32 = .ok (.aload_n 0, 1) := by decide +kernel
theorem d10_33 : decode prog_2_method_10_code 33 = .ok (.getfield 47, 3) := by decide +kernel
theorem d10_36 : decode prog_2_method_10_code 36 = .ok (.iadd, 1) := by decide +kernel
theorem d10_37 : decode prog_2_method_10_code 37 = .ok (.if_icmp .ge 26, 3) := by decide +kernel
theorem d10_40 : decode prog_2_method_10_code 40 = .ok (.aload_n 0, 1) := by decide +kernel
theorem d10_41 : decode prog_2_method_10_code 41 = .ok (.getfield 43, 3) := by decide +kernel
theorem d10_44 : decode prog_2_method_10_code 44 = .ok (.ifCond .ne 7, 3) := by decide +kernel
theorem d10_47 : decode prog_2_method_10_code 47 = .ok (.aload_n 0, 1) := by decide +kernel
theorem d10_48 : decode prog_2_method_10_code 48 = .ok (.invokevirtual 57, 3) := by decide +kernel
theorem d10_51 : decode prog_2_method_10_code 51 = .ok (.aload_n 0, 1) := by decide +kernel
theorem d10_52 : decode prog_2_method_10_code 52 = .ok (.getfield 20, 3) := by decide +kernel
theorem d10_55 : decode prog_2_method_10_code 55 = .ok (.iload_n 1, 1) := by decide +kernel
theorem d10_56 : decode prog_2_method_10_code 56 = .ok (.iload_n 2, 1) := by decide +kernel
theorem d10_57 : decode prog_2_method_10_code 57 = .ok (.isub, 1) := by decide +kernel
theorem d10_58 : decode prog_2_method_10_code 58 = .ok (.iaload, 1) := by decide +kernel
theorem d10_59 : decode prog_2_method_10_code 59 = .ok (.istore_n 3, 1) := by decide +kernel
theorem d10_60 : decode prog_2_method_10_code 60 = .ok (.goto 17, 3) := by decide +kernel
theorem d10_63 : decode prog_2_method_10_code 63 = .ok (.aload_n 0, 1) := by decide +kernel
theorem d10_64 : decode prog_2_method_10_code 64 = .ok (.getfield 30, 3) := by decide +kernel
theorem d10_67 : decode prog_2_method_10_code 67 = .ok (.iload_n 1, 1) := by decide +kernel
theorem d10_68 : decode prog_2_method_10_code 68 = .ok (.iload_n 2, 1) := by decide +kernel
theorem d10_69 : decode prog_2_method_10_code 69 = .ok (.isub, 1) := by decide +kernel
theorem d10_70 : decode prog_2_method_10_code 70 = .ok (.aload_n 0, 1) := by decide +kernel
theorem d10_71 : decode prog_2_method_10_code 71 = .ok (.getfield 47, 3) := by decide +kernel
theorem d10_74 : decode prog_2_method_10_code 74 = .ok (.isub, 1) := by decide +kernel
theorem d10_75 : decode prog_2_method_10_code 75 = .ok (.iaload, 1) := by decide +kernel
theorem d10_76 : decode prog_2_method_10_code 76 = .ok (.istore_n 3, 1) := by decide +kernel
theorem d10_77 : decode prog_2_method_10_code 77 = .ok (.iload_n 3, 1) := by decide +kernel
theorem d10_78 : decode prog_2_method_10_code 78 = .ok (.ireturn, 1) := by decide +kernel
def own_xm_10_0 (sz : Int32) (h : Int32 → Int32) (g : Int32 → Int32) : Int32 := (g 0)
set_option maxRecDepth 65536 in
set_option maxHeartbeats 40000000 in
theorem m_10_0 (l : Launch) (Z : State) (a0 : Array Value) (hw : ∀ d ∈ tables_1, d.before a0 Z = true) (n0 : Nat) (ws : List Jvm.Cond) (sz : Int32) (h g : Int32 → Int32) (N : Nat) (tl : AHeap) (hi : 0 < N) :
    Meth l Z a0 ws (⟨"com/example/apt_clause/aptclause/body/ObjectSet", "get", "(I)I"⟩ : MethodName) prog_2_method_10_code 4 (some (.int)) ({ frames := 1, cells := 0, slots := 0, locals := 20 } : Room) 0 0 n0 #[.ref (ad n0 0), .int (0 : Int32)] (.inl ("com/example/apt_clause/aptclause/body/ObjectSet", [("runStarts", "[I", .ref (ad n0 1)), ("runEnds", "[I", .ref (ad n0 2)), ("restName", "I", .int (-1 : Int32)), ("rest", "[I", .ref (ad n0 3)), ("repeats", "[I", .ref (ad n0 4)), ("held", "[Z", .ref (ad n0 5)), ("objects", "[I", .ref (ad n0 6)), ("size", "I", .int sz), ("runPairs", "Lcom/example/apt_clause/aptclause/graph/Pairs;", .null), ("runCount", "I", .int (0 : Int32)), ("restListed", "Z", .int (0 : Int32)), ("restLength", "I", .int (0 : Int32)), ("repeatCount", "I", .int (0 : Int32)), ("marks", "[I", .null), ("listing", "I", .int (0 : Int32))]) :: .inr (.int, [.int (0 : Int32)]) :: .inr (.int, [.int (0 : Int32)]) :: .inr (.int, []) :: .inr (.int, []) :: (.inr (.boolean, arrF N h)) :: (.inr (.int, arrF N g)) :: tl : AHeap) (fun r A' => r = some (.int (g 0)) ∧ A' = OCells n0 sz h g N tl) := by
  refine Meth.of (plainFor_of_name own_pn5) (Ls := [.val (.ref (ad n0 0)), .val (.int (0 : Int32)), .unset, .unset]) (fun m => by first | (simp [entryFrame, mkF, argsToLocals, Value.category, maxLocals]; done) | rfl) ?_
  intro K G
  have he : own_xm_10_0 sz h g = own_xm_10_0 sz h g := rfl
  refine G.aloadN d10_0 rfl rfl ?_
  refine G.iconst (0) d10_1 rfl ?_
  refine G.vcall [_] rfl d10_2 (hw _ (List.mem_of_getElem? (i := 48) rfl)) (hw _ (List.mem_of_getElem? (i := 49) rfl)) (hw _ (List.mem_of_getElem? (i := 51) rfl)) (hw _ (List.mem_of_getElem? (i := 50) rfl)) (hw _ (List.mem_of_getElem? (i := 3) rfl)) (hw _ (List.mem_of_getElem? (i := 52) rfl)) (by decide) rfl (m_5 l Z a0 hw n0 [] _ _ _ _ _) own_pd3 rfl rfl (Nat.le_of_ble_eq_true rfl) (Nat.le_of_ble_eq_true rfl) (Nat.le_of_ble_eq_true rfl) (Nat.le_of_ble_eq_true rfl) (by rintro _ _ ⟨rfl, rfl⟩; rfl) ?_
  rintro _ _ ⟨rfl, rfl⟩
  refine G.istoreN2 d10_5 rfl ?_
  refine G.iloadN d10_6 rfl ?_
  refine G.iloadN d10_7 rfl ?_
  refine G.icmp_ge 30 d10_8 (by decide) rfl (fun _ => ?_) (fun h8 => absurd h8 (by decide))
  refine G.iloadN d10_30 rfl ?_
  refine G.iloadN d10_31 rfl ?_
  refine G.aloadN d10_32 rfl rfl ?_
  refine G.getf (j := 11) (host := "") d10_33 (Or.inl (hw _ (List.mem_of_getElem? (i := 39) rfl))) rfl rfl ?_
  refine G.iadd d10_36 ?_
  refine G.icmp_ge 63 d10_37 (by decide) rfl (fun _ => ?_) (fun h37 => absurd h37 (by decide))
  refine G.aloadN d10_63 rfl rfl ?_
  refine G.getf (j := 6) (host := "") d10_64 (Or.inl (hw _ (List.mem_of_getElem? (i := 24) rfl))) rfl rfl ?_
  refine G.iloadN d10_67 rfl ?_
  refine G.iloadN d10_68 rfl ?_
  refine G.isub d10_69 ?_
  refine G.aloadN d10_70 rfl rfl ?_
  refine G.getf (j := 11) (host := "") d10_71 (Or.inl (hw _ (List.mem_of_getElem? (i := 39) rfl))) rfl rfl ?_
  refine G.isub d10_74 ?_
  refine G.iald 0 d10_75 rfl (by decide) (arrF_at (x := 0) (by decide) hi) ?_
  refine G.istoreN3 d10_76 rfl ?_
  refine G.iloadN d10_77 rfl ?_
  exact G.ireturn rfl d10_78 (Nat.le_of_ble_eq_true rfl) (Nat.le_of_ble_eq_true rfl) ⟨rfl, rfl⟩
def own_has (v : Int32) : Int32 := if v = 0 then 0 else 1
theorem d12_0 : decode prog_2_method_19_code 0 = .ok (.aload_n 0, 1) := by decide +kernel
theorem d12_1 : decode prog_2_method_19_code 1 = .ok (.getfield 40, 3) := by decide +kernel
theorem d12_4 : decode prog_2_method_19_code 4 = .ok (.ifCond .le 30, 3) := by decide +kernel
theorem d12_7 : decode prog_2_method_19_code 7 = .ok (.aload_n 0, 1) := by decide +kernel
theorem d12_8 : decode prog_2_method_19_code 8 = .ok (.getfield 36, 3) := by decide +kernel
theorem d12_11 : decode prog_2_method_19_code 11 = .ok (.aload_n 0, 1) := by decide +kernel
theorem d12_12 : decode prog_2_method_19_code 12 = .ok (.getfield 7, 3) := by decide +kernel
theorem d12_15 : decode prog_2_method_19_code 15 = .ok (.iconst 0, 1) := by decide +kernel
theorem d12_16 : decode prog_2_method_19_code 16 = .ok (.iaload, 1) := by decide +kernel
theorem d12_17 : decode prog_2_method_19_code 17 = .ok (.aload_n 0, 1) := by decide +kernel
theorem d12_18 : decode prog_2_method_19_code 18 = .ok (.getfield 13, 3) := by decide +kernel
theorem d12_21 : decode prog_2_method_19_code 21 = .ok (.iconst 0, 1) := by decide +kernel
theorem d12_22 : decode prog_2_method_19_code 22 = .ok (.iaload, 1) := by decide +kernel
theorem d12_23 : decode prog_2_method_19_code 23 = .ok (.iload_n 1, 1) := by decide +kernel
theorem d12_24 : decode prog_2_method_19_code 24 = .ok (.invokevirtual 122, 3) := by decide +kernel
theorem d12_27 : decode prog_2_method_19_code 27 = .ok (.ifCond .eq 7, 3) := by decide +kernel
theorem d12_30 : decode prog_2_method_19_code 30 = .ok (.iconst 1, 1) := by decide +kernel
theorem d12_31 : decode prog_2_method_19_code 31 = .ok (.goto 4, 3) := by decide +kernel
theorem d12_34 : decode prog_2_method_19_code 34 = .ok (.iconst 0, 1) := by decide +kernel
theorem d12_35 : decode prog_2_method_19_code 35 = .ok (.ireturn, 1) := by decide +kernel
def own_xm_12 (sz : Int32) (h : Int32 → Int32) (g : Int32 → Int32) (x : Int32) : Int32 := (0 : Int32)
set_option maxRecDepth 65536 in
set_option maxHeartbeats 40000000 in
theorem m_12 (l : Launch) (Z : State) (a0 : Array Value) (hw : ∀ d ∈ tables_1, d.before a0 Z = true) (n0 : Nat) (ws : List Jvm.Cond) (sz : Int32) (h g : Int32 → Int32) (N : Nat) (tl : AHeap) (x : Int32) :
    Meth l Z a0 ws (⟨"com/example/apt_clause/aptclause/body/ObjectSet", "inRun", "(I)Z"⟩ : MethodName) prog_2_method_19_code 2 (some (.boolean)) ({ frames := 0, cells := 0, slots := 0, locals := 0 } : Room) 0 0 n0 #[.ref (ad n0 0), .int x] (.inl ("com/example/apt_clause/aptclause/body/ObjectSet", [("runStarts", "[I", .ref (ad n0 1)), ("runEnds", "[I", .ref (ad n0 2)), ("restName", "I", .int (-1 : Int32)), ("rest", "[I", .ref (ad n0 3)), ("repeats", "[I", .ref (ad n0 4)), ("held", "[Z", .ref (ad n0 5)), ("objects", "[I", .ref (ad n0 6)), ("size", "I", .int sz), ("runPairs", "Lcom/example/apt_clause/aptclause/graph/Pairs;", .null), ("runCount", "I", .int (0 : Int32)), ("restListed", "Z", .int (0 : Int32)), ("restLength", "I", .int (0 : Int32)), ("repeatCount", "I", .int (0 : Int32)), ("marks", "[I", .null), ("listing", "I", .int (0 : Int32))]) :: .inr (.int, [.int (0 : Int32)]) :: .inr (.int, [.int (0 : Int32)]) :: .inr (.int, []) :: .inr (.int, []) :: (.inr (.boolean, arrF N h)) :: (.inr (.int, arrF N g)) :: tl : AHeap) (fun r A' => r = some (.int 0) ∧ A' = OCells n0 sz h g N tl) := by
  refine Meth.of (plainFor_of_name own_pn5) (Ls := [.val (.ref (ad n0 0)), .val (.int x)]) (fun m => by first | (simp [entryFrame, mkF, argsToLocals, Value.category, maxLocals]; done) | rfl) ?_
  intro K G
  have he : own_xm_12 sz h g x = own_xm_12 sz h g x := rfl
  refine G.aloadN d12_0 rfl rfl ?_
  refine G.getf (j := 9) (host := "") d12_1 (Or.inl (hw _ (List.mem_of_getElem? (i := 35) rfl))) rfl rfl ?_
  refine G.if_le 34 d12_4 (by decide) rfl (fun _ => ?_) (fun h4 => absurd h4 (by decide))
  refine G.iconst (0) d12_34 rfl ?_
  exact G.zreturn rfl d12_35 rfl (Nat.le_of_ble_eq_true rfl) (Nat.le_of_ble_eq_true rfl) ⟨rfl, rfl⟩
theorem d13_0 : decode prog_2_method_20_code 0 = .ok (.aload_n 0, 1) := by decide +kernel
theorem d13_1 : decode prog_2_method_20_code 1 = .ok (.getfield 43, 3) := by decide +kernel
theorem d13_4 : decode prog_2_method_20_code 4 = .ok (.ifCond .eq 20, 3) := by decide +kernel
theorem d13_7 : decode prog_2_method_20_code 7 = .ok (.aload_n 0, 1) := by decide +kernel
theorem d13_8 : decode prog_2_method_20_code 8 = .ok (.getfield 82, 3) := by decide +kernel
theorem d13_11 : decode prog_2_method_20_code 11 = .ok (.iload_n 1, 1) := by decide +kernel
theorem d13_12 : decode prog_2_method_20_code 12 = .ok (.iaload, 1) := by decide +kernel
theorem d13_13 : decode prog_2_method_20_code 13 = .ok (.aload_n 0, 1) := by decide +kernel
theorem d13_14 : decode prog_2_method_20_code 14 = .ok (.getfield 85, 3) := by decide +kernel
theorem d13_17 : decode prog_2_method_20_code 17 = .ok (.if_icmp .ne 7, 3) := by decide +kernel
theorem d13_20 : decode prog_2_method_20_code 20 = .ok (.iconst 1, 1) := by decide +kernel
theorem d13_21 : decode prog_2_method_20_code 21 = .ok (.goto 4, 3) := by decide +kernel
theorem d13_24 : decode prog_2_method_20_code 24 = .ok (.iconst 0, 1) := by decide +kernel
theorem d13_25 : decode prog_2_method_20_code 25 = .ok (.istore_n 2, 1) := by decide +kernel
theorem d13_26 : decode prog_2_method_20_code 26 = .ok (.iconst 1, 1) := by decide +kernel
theorem d13_27 : decode prog_2_method_20_code 27 = .ok (.istore_n 3, 1) := by decide +kernel
theorem d13_28 : decode prog_2_method_20_code 28 = .ok (.iload_n 3, 1) := by decide +kernel
theorem d13_29 : decode prog_2_method_20_code 29 = .ok (.aload_n 0, 1) := by decide +kernel
theorem d13_30 : decode prog_2_method_20_code 30 = .ok (.getfield 40, 3) := by decide +kernel
theorem d13_33 : decode prog_2_method_20_code 33 = .ok (.if_icmp .ge 41, 3) := by decide +kernel
theorem d13_36 : decode prog_2_method_20_code 36 = .ok (.aload_n 0, 1) := by decide +kernel
theorem d13_37 : decode prog_2_method_20_code 37 = .ok (.getfield 43, 3) := by decide +kernel
theorem d13_40 : decode prog_2_method_20_code 40 = .ok (.ifCond .ne 34, 3) := by decide +kernel
theorem d13_43 : decode prog_2_method_20_code 43 = .ok (.iload_n 2, 1) := by decide +kernel
theorem d13_44 : decode prog_2_method_20_code 44 = .ok (.ifCond .ne 30, 3) := by decide +kernel
theorem d13_47 : decode prog_2_method_20_code 47 = .ok (.aload_n 0, 1) := by decide +kernel
theorem d13_48 : decode prog_2_method_20_code 48 = .ok (.getfield 36, 3) := by decide +kernel
theorem d13_51 : decode prog_2_method_20_code 51 = .ok (.aload_n 0, 1) := by decide +kernel
theorem d13_52 : decode prog_2_method_20_code 52 = .ok (.getfield 7, 3) := by decide +kernel
theorem d13_55 : decode prog_2_method_20_code 55 = .ok (.iload_n 3, 1) := by decide +kernel
theorem d13_56 : decode prog_2_method_20_code 56 = .ok (.iaload, 1) := by decide +kernel
theorem d13_57 : decode prog_2_method_20_code 57 = .ok (.aload_n 0, 1) := by decide +kernel
theorem d13_58 : decode prog_2_method_20_code 58 = .ok (.getfield 13, 3) := by decide +kernel
theorem d13_61 : decode prog_2_method_20_code 61 = .ok (.iload_n 3, 1) := by decide +kernel
theorem d13_62 : decode prog_2_method_20_code 62 = .ok (.iaload, 1) := by decide +kernel
theorem d13_63 : decode prog_2_method_20_code 63 = .ok (.iload_n 1, 1) := by decide +kernel
theorem d13_64 : decode prog_2_method_20_code 64 = .ok (.invokevirtual 122, 3) := by decide +kernel
theorem d13_67 : decode prog_2_method_20_code 67 = .ok (.istore_n 2, 1) := by decide +kernel
theorem d13_68 : decode prog_2_method_20_code 68 = .ok (.iinc 3 1, 3) := by decide +kernel
theorem d13_71 : decode prog_2_method_20_code 71 = .ok (.goto (-43), 3) := by decide +kernel
theorem d13_74 : decode prog_2_method_20_code 74 = .ok (.iload_n 2, 1) := by decide +kernel
theorem d13_75 : decode prog_2_method_20_code 75 = .ok (.ireturn, 1) := by decide +kernel
def own_xm_13 (sz : Int32) (h : Int32 → Int32) (g : Int32 → Int32) (x : Int32) : Int32 := (0 : Int32)
set_option maxRecDepth 65536 in
set_option maxHeartbeats 40000000 in
theorem m_13 (l : Launch) (Z : State) (a0 : Array Value) (hw : ∀ d ∈ tables_1, d.before a0 Z = true) (n0 : Nat) (ws : List Jvm.Cond) (sz : Int32) (h g : Int32 → Int32) (N : Nat) (tl : AHeap) (x : Int32) :
    Meth l Z a0 ws (⟨"com/example/apt_clause/aptclause/body/ObjectSet", "inRest", "(I)Z"⟩ : MethodName) prog_2_method_20_code 4 (some (.boolean)) ({ frames := 0, cells := 0, slots := 0, locals := 0 } : Room) 0 0 n0 #[.ref (ad n0 0), .int x] (.inl ("com/example/apt_clause/aptclause/body/ObjectSet", [("runStarts", "[I", .ref (ad n0 1)), ("runEnds", "[I", .ref (ad n0 2)), ("restName", "I", .int (-1 : Int32)), ("rest", "[I", .ref (ad n0 3)), ("repeats", "[I", .ref (ad n0 4)), ("held", "[Z", .ref (ad n0 5)), ("objects", "[I", .ref (ad n0 6)), ("size", "I", .int sz), ("runPairs", "Lcom/example/apt_clause/aptclause/graph/Pairs;", .null), ("runCount", "I", .int (0 : Int32)), ("restListed", "Z", .int (0 : Int32)), ("restLength", "I", .int (0 : Int32)), ("repeatCount", "I", .int (0 : Int32)), ("marks", "[I", .null), ("listing", "I", .int (0 : Int32))]) :: .inr (.int, [.int (0 : Int32)]) :: .inr (.int, [.int (0 : Int32)]) :: .inr (.int, []) :: .inr (.int, []) :: (.inr (.boolean, arrF N h)) :: (.inr (.int, arrF N g)) :: tl : AHeap) (fun r A' => r = some (.int 0) ∧ A' = OCells n0 sz h g N tl) := by
  refine Meth.of (plainFor_of_name own_pn5) (Ls := [.val (.ref (ad n0 0)), .val (.int x), .unset, .unset]) (fun m => by first | (simp [entryFrame, mkF, argsToLocals, Value.category, maxLocals]; done) | rfl) ?_
  intro K G
  have he : own_xm_13 sz h g x = own_xm_13 sz h g x := rfl
  refine G.aloadN d13_0 rfl rfl ?_
  refine G.getf (j := 10) (host := "") d13_1 (Or.inl (hw _ (List.mem_of_getElem? (i := 37) rfl))) rfl rfl ?_
  refine G.if_eq 24 d13_4 (by decide) rfl (fun _ => ?_) (fun h4 => absurd h4 (by decide))
  refine G.iconst (0) d13_24 rfl ?_
  refine G.istoreN2 d13_25 rfl ?_
  refine G.iconst (1) d13_26 rfl ?_
  refine G.istoreN3 d13_27 rfl ?_
  refine G.iloadN d13_28 rfl ?_
  refine G.aloadN d13_29 rfl rfl ?_
  refine G.getf (j := 9) (host := "") d13_30 (Or.inl (hw _ (List.mem_of_getElem? (i := 35) rfl))) rfl rfl ?_
  refine G.icmp_ge 74 d13_33 (by decide) rfl (fun _ => ?_) (fun h33 => absurd h33 (by decide))
  refine G.iloadN d13_74 rfl ?_
  exact G.zreturn rfl d13_75 rfl (Nat.le_of_ble_eq_true rfl) (Nat.le_of_ble_eq_true rfl) ⟨rfl, rfl⟩
theorem d11_0 : decode prog_2_method_8_code 0 = .ok (.aload_n 0, 1) := by decide +kernel
theorem d11_1 : decode prog_2_method_8_code 1 = .ok (.getfield 26, 3) := by decide +kernel
theorem d11_4 : decode prog_2_method_8_code 4 = .ok (.iload_n 1, 1) := by decide +kernel
theorem d11_5 : decode prog_2_method_8_code 5 = .ok (.baload, 1) := by decide +kernel
theorem d11_6 : decode prog_2_method_8_code 6 = .ok (.ifCond .ne 19, 3) := by decide +kernel
theorem d11_9 : decode prog_2_method_8_code 9 = .ok (.aload_n 0, 1) := by decide +kernel
theorem d11_10 : decode prog_2_method_8_code 10 = .ok (.iload_n 1, 1) := by decide +kernel
theorem d11_11 : decode prog_2_method_8_code 11 = .ok (.invokevirtual 75, 3) := by decide +kernel
theorem d11_14 : decode prog_2_method_8_code 14 = .ok (.ifCond .ne 11, 3) := by decide +kernel
theorem d11_17 : decode prog_2_method_8_code 17 = .ok (.aload_n 0, 1) := by decide +kernel
theorem d11_18 : decode prog_2_method_8_code 18 = .ok (.iload_n 1, 1) := by decide +kernel
theorem d11_19 : decode prog_2_method_8_code 19 = .ok (.invokevirtual 79, 3) := by decide +kernel
theorem d11_22 : decode prog_2_method_8_code 22 = .ok (.ifCond .eq 7, 3) := by decide +kernel
theorem d11_25 : decode prog_2_method_8_code 25 = .ok (.iconst 1, 1) := by decide +kernel
theorem d11_26 : decode prog_2_method_8_code 26 = .ok (.goto 4, 3) := by decide +kernel
theorem d11_29 : decode prog_2_method_8_code 29 = .ok (.iconst 0, 1) := by decide +kernel
theorem d11_30 : decode prog_2_method_8_code 30 = .ok (.ireturn, 1) := by decide +kernel
def own_xm_11 (sz : Int32) (h : Int32 → Int32) (g : Int32 → Int32) (x : Int32) : Int32 := (if (h x) = (0 : Int32) then (0 : Int32) else (1 : Int32))
set_option maxRecDepth 65536 in
set_option maxHeartbeats 40000000 in
theorem m_11 (l : Launch) (Z : State) (a0 : Array Value) (hw : ∀ d ∈ tables_1, d.before a0 Z = true) (n0 : Nat) (ws : List Jvm.Cond) (sz : Int32) (h g : Int32 → Int32) (N : Nat) (tl : AHeap) (x : Int32) (xn : Nat) (hx : x.toInt = (xn : Int)) (hl : xn < N) :
    Meth l Z a0 ws (⟨"com/example/apt_clause/aptclause/body/ObjectSet", "contains", "(I)Z"⟩ : MethodName) prog_2_method_8_code 2 (some (.boolean)) ({ frames := 1, cells := 0, slots := 0, locals := 20 } : Room) 0 0 n0 #[.ref (ad n0 0), .int x] (.inl ("com/example/apt_clause/aptclause/body/ObjectSet", [("runStarts", "[I", .ref (ad n0 1)), ("runEnds", "[I", .ref (ad n0 2)), ("restName", "I", .int (-1 : Int32)), ("rest", "[I", .ref (ad n0 3)), ("repeats", "[I", .ref (ad n0 4)), ("held", "[Z", .ref (ad n0 5)), ("objects", "[I", .ref (ad n0 6)), ("size", "I", .int sz), ("runPairs", "Lcom/example/apt_clause/aptclause/graph/Pairs;", .null), ("runCount", "I", .int (0 : Int32)), ("restListed", "Z", .int (0 : Int32)), ("restLength", "I", .int (0 : Int32)), ("repeatCount", "I", .int (0 : Int32)), ("marks", "[I", .null), ("listing", "I", .int (0 : Int32))]) :: .inr (.int, [.int (0 : Int32)]) :: .inr (.int, [.int (0 : Int32)]) :: .inr (.int, []) :: .inr (.int, []) :: (.inr (.boolean, arrF N h)) :: (.inr (.int, arrF N g)) :: tl : AHeap) (fun r A' => r = some (.int (own_has (h x))) ∧ A' = OCells n0 sz h g N tl) := by
  refine Meth.of (plainFor_of_name own_pn5) (Ls := [.val (.ref (ad n0 0)), .val (.int x)]) (fun m => by first | (simp [entryFrame, mkF, argsToLocals, Value.category, maxLocals]; done) | rfl) ?_
  intro K G
  have he : own_xm_11 sz h g x = own_xm_11 sz h g x := rfl
  refine G.aloadN d11_0 rfl rfl ?_
  refine G.getf (j := 5) (host := "") d11_1 (Or.inl (hw _ (List.mem_of_getElem? (i := 22) rfl))) rfl rfl ?_
  refine G.iloadN d11_4 rfl ?_
  refine G.zald xn d11_5 rfl hx (arrF_at hx hl) ?_
  refine G.if_ne 25 d11_6 (by decide) rfl (fun h6 => ?_) (fun h6 => ?_)
  · replace he := he.trans (if_neg h6)
    refine G.iconst (1) d11_25 rfl ?_
    refine G.goto 30 d11_26 (by decide) rfl ?_
    exact G.zreturn rfl d11_30 rfl (Nat.le_of_ble_eq_true rfl) (Nat.le_of_ble_eq_true rfl) ⟨congrArg (fun z => some (Value.int z)) (by simp [own_has, h6]), rfl⟩
  · replace he := he.trans (if_pos h6)
    refine G.aloadN d11_9 rfl rfl ?_
    refine G.iloadN d11_10 rfl ?_
    refine G.pcall (y2 := ⟨"com/example/apt_clause/aptclause/body/ObjectSet", "clear", "()V"⟩) [_] rfl d11_11 (hw _ (List.mem_of_getElem? (i := 83) rfl)) (hw _ (List.mem_of_getElem? (i := 85) rfl)) (hw _ (List.mem_of_getElem? (i := 29) rfl)) rfl (hw _ (List.mem_of_getElem? (i := 84) rfl)) (hw _ (List.mem_of_getElem? (i := 3) rfl)) (hw _ (List.mem_of_getElem? (i := 86) rfl)) (by decide) rfl (m_12 l Z a0 hw n0 [] _ _ _ _ _ _) own_pd4 rfl rfl (Nat.le_of_ble_eq_true rfl) (Nat.le_of_ble_eq_true rfl) (Nat.le_of_ble_eq_true rfl) (Nat.le_of_ble_eq_true rfl) (by rintro _ _ ⟨rfl, rfl⟩; rfl) ?_
    rintro _ _ ⟨rfl, rfl⟩
    refine G.if_ne 25 d11_14 (by decide) rfl (fun h14 => absurd h14 (by decide)) (fun _ => ?_)
    refine G.aloadN d11_17 rfl rfl ?_
    refine G.iloadN d11_18 rfl ?_
    refine G.pcall (y2 := ⟨"com/example/apt_clause/aptclause/body/ObjectSet", "clear", "()V"⟩) [_] rfl d11_19 (hw _ (List.mem_of_getElem? (i := 87) rfl)) (hw _ (List.mem_of_getElem? (i := 89) rfl)) (hw _ (List.mem_of_getElem? (i := 29) rfl)) rfl (hw _ (List.mem_of_getElem? (i := 88) rfl)) (hw _ (List.mem_of_getElem? (i := 3) rfl)) (hw _ (List.mem_of_getElem? (i := 90) rfl)) (by decide) rfl (m_13 l Z a0 hw n0 [] _ _ _ _ _ _) own_pd4 rfl rfl (Nat.le_of_ble_eq_true rfl) (Nat.le_of_ble_eq_true rfl) (Nat.le_of_ble_eq_true rfl) (Nat.le_of_ble_eq_true rfl) (by rintro _ _ ⟨rfl, rfl⟩; rfl) ?_
    rintro _ _ ⟨rfl, rfl⟩
    refine G.if_eq 29 d11_22 (by decide) rfl (fun _ => ?_) (fun h22 => absurd h22 (by decide))
    refine G.iconst (0) d11_29 rfl ?_
    exact G.zreturn rfl d11_30 rfl (Nat.le_of_ble_eq_true rfl) (Nat.le_of_ble_eq_true rfl) ⟨congrArg (fun z => some (Value.int z)) (by simp [own_has, h6]), rfl⟩
theorem d3_0 : decode prog_2_method_3_code 0 = .ok (.iconst 0, 1) := by decide +kernel
theorem d3_1 : decode prog_2_method_3_code 1 = .ok (.istore_n 1, 1) := by decide +kernel
theorem d3_2 : decode prog_2_method_3_code 2 = .ok (.iload_n 1, 1) := by decide +kernel
theorem d3_3 : decode prog_2_method_3_code 3 = .ok (.aload_n 0, 1) := by decide +kernel
theorem d3_4 : decode prog_2_method_3_code 4 = .ok (.getfield 33, 3) := by decide +kernel
theorem d3_7 : decode prog_2_method_3_code 7 = .ok (.if_icmp .ge 21, 3) := by decide +kernel
theorem d3_10 : decode prog_2_method_3_code 10 = .ok (.aload_n 0, 1) := by decide +kernel
theorem d3_11 : decode prog_2_method_3_code 11 = .ok (.getfield 26, 3) := by decide +kernel
theorem d3_14 : decode prog_2_method_3_code 14 = .ok (.aload_n 0, 1) := by decide +kernel
theorem d3_15 : decode prog_2_method_3_code 15 = .ok (.getfield 30, 3) := by decide +kernel
theorem d3_18 : decode prog_2_method_3_code 18 = .ok (.iload_n 1, 1) := by decide +kernel
theorem d3_19 : decode prog_2_method_3_code 19 = .ok (.iaload, 1) := by decide +kernel
theorem d3_20 : decode prog_2_method_3_code 20 = .ok (.iconst 0, 1) := by decide +kernel
theorem d3_21 : decode prog_2_method_3_code 21 = .ok (.bastore, 1) := by decide +kernel
theorem d3_22 : decode prog_2_method_3_code 22 = .ok (.iinc 1 1, 3) := by decide +kernel
theorem d3_25 : decode prog_2_method_3_code 25 = .ok (.goto (-23), 3) := by decide +kernel
theorem d3_28 : decode prog_2_method_3_code 28 = .ok (.aload_n 0, 1) := by decide +kernel
theorem d3_29 : decode prog_2_method_3_code 29 = .ok (.iconst 0, 1) := by decide +kernel
theorem d3_30 : decode prog_2_method_3_code 30 = .ok (.putfield 33, 3) := by decide +kernel
theorem d3_33 : decode prog_2_method_3_code 33 = .ok (.aload_n 0, 1) := by decide +kernel
theorem d3_34 : decode prog_2_method_3_code 34 = .ok (.aconst_null, 1) := by decide +kernel
theorem d3_35 : decode prog_2_method_3_code 35 = .ok (.putfield 36, 3) := by decide +kernel
theorem d3_38 : decode prog_2_method_3_code 38 = .ok (.aload_n 0, 1) := by decide +kernel
theorem d3_39 : decode prog_2_method_3_code 39 = .ok (.getfield 7, 3) := by decide +kernel
theorem d3_42 : decode prog_2_method_3_code 42 = .ok (.iconst 0, 1) := by decide +kernel
theorem d3_43 : decode prog_2_method_3_code 43 = .ok (.iconst 0, 1) := by decide +kernel
theorem d3_44 : decode prog_2_method_3_code 44 = .ok (.iastore, 1) := by decide +kernel
theorem d3_45 : decode prog_2_method_3_code 45 = .ok (.aload_n 0, 1) := by decide +kernel
theorem d3_46 : decode prog_2_method_3_code 46 = .ok (.getfield 13, 3) := by decide +kernel
theorem d3_49 : decode prog_2_method_3_code 49 = .ok (.iconst 0, 1) := by decide +kernel
theorem d3_50 : decode prog_2_method_3_code 50 = .ok (.iconst 0, 1) := by decide +kernel
theorem d3_51 : decode prog_2_method_3_code 51 = .ok (.iastore, 1) := by decide +kernel
theorem d3_52 : decode prog_2_method_3_code 52 = .ok (.aload_n 0, 1) := by decide +kernel
theorem d3_53 : decode prog_2_method_3_code 53 = .ok (.iconst 0, 1) := by decide +kernel
theorem d3_54 : decode prog_2_method_3_code 54 = .ok (.putfield 40, 3) := by decide +kernel
theorem d3_57 : decode prog_2_method_3_code 57 = .ok (.aload_n 0, 1) := by decide +kernel
theorem d3_58 : decode prog_2_method_3_code 58 = .ok (.iconst 0, 1) := by decide +kernel
theorem d3_59 : decode prog_2_method_3_code 59 = .ok (.putfield 43, 3) := by decide +kernel
theorem d3_62 : decode prog_2_method_3_code 62 = .ok (.aload_n 0, 1) := by decide +kernel
theorem d3_63 : decode prog_2_method_3_code 63 = .ok (.iconst 0, 1) := by decide +kernel
theorem d3_64 : decode prog_2_method_3_code 64 = .ok (.putfield 47, 3) := by decide +kernel
theorem d3_67 : decode prog_2_method_3_code 67 = .ok (.aload_n 0, 1) := by decide +kernel
theorem d3_68 : decode prog_2_method_3_code 68 = .ok (.iconst (-1), 1) := by decide +kernel
theorem d3_69 : decode prog_2_method_3_code 69 = .ok (.putfield 16, 3) := by decide +kernel
theorem d3_72 : decode prog_2_method_3_code 72 = .ok (.aload_n 0, 1) := by decide +kernel
theorem d3_73 : decode prog_2_method_3_code 73 = .ok (.iconst 0, 1) := by decide +kernel
theorem d3_74 : decode prog_2_method_3_code 74 = .ok (.putfield 50, 3) := by decide +kernel
theorem d3_77 : decode prog_2_method_3_code 77 = .ok (.return_, 1) := by decide +kernel
def own_xm_3_0 (h : Int32 → Int32) (g : Int32 → Int32) : Int32 := (0 : Int32)
set_option maxRecDepth 65536 in
set_option maxHeartbeats 40000000 in
theorem m_3_0 (l : Launch) (Z : State) (a0 : Array Value) (hw : ∀ d ∈ tables_1, d.before a0 Z = true) (n0 : Nat) (ws : List Jvm.Cond) (h g : Int32 → Int32) (N : Nat) (tl : AHeap) (hN : N ≤ 8) :
    Meth l Z a0 ws (⟨"com/example/apt_clause/aptclause/body/ObjectSet", "clear", "()V"⟩ : MethodName) prog_2_method_3_code 2 none ({ frames := 0, cells := 0, slots := 0, locals := 0 } : Room) 0 0 n0 #[.ref (ad n0 0)] (.inl ("com/example/apt_clause/aptclause/body/ObjectSet", [("runStarts", "[I", .ref (ad n0 1)), ("runEnds", "[I", .ref (ad n0 2)), ("restName", "I", .int (-1 : Int32)), ("rest", "[I", .ref (ad n0 3)), ("repeats", "[I", .ref (ad n0 4)), ("held", "[Z", .ref (ad n0 5)), ("objects", "[I", .ref (ad n0 6)), ("size", "I", .int (0 : Int32)), ("runPairs", "Lcom/example/apt_clause/aptclause/graph/Pairs;", .null), ("runCount", "I", .int (0 : Int32)), ("restListed", "Z", .int (0 : Int32)), ("restLength", "I", .int (0 : Int32)), ("repeatCount", "I", .int (0 : Int32)), ("marks", "[I", .null), ("listing", "I", .int (0 : Int32))]) :: .inr (.int, [.int (0 : Int32)]) :: .inr (.int, [.int (0 : Int32)]) :: .inr (.int, []) :: .inr (.int, []) :: (.inr (.boolean, arrF N h)) :: (.inr (.int, arrF N g)) :: tl : AHeap) (fun r A' => r = none ∧ A' = OCells n0 0 h g N tl) := by
  refine Meth.of (plainFor_of_name own_pn5) (Ls := [.val (.ref (ad n0 0)), .unset]) (fun m => by first | (simp [entryFrame, mkF, argsToLocals, Value.category, maxLocals]; done) | rfl) ?_
  intro K G
  have he : own_xm_3_0 h g = own_xm_3_0 h g := rfl
  refine G.iconst (0) d3_0 rfl ?_
  refine G.istoreN1 d3_1 rfl ?_
  refine G.iloadN d3_2 rfl ?_
  refine G.aloadN d3_3 rfl rfl ?_
  refine G.getf (j := 7) (host := "") d3_4 (Or.inl (hw _ (List.mem_of_getElem? (i := 31) rfl))) rfl rfl ?_
  refine G.icmp_ge 28 d3_7 (by decide) rfl (fun _ => ?_) (fun h7 => absurd h7 (by decide))
  refine G.aloadN d3_28 rfl rfl ?_
  refine G.iconst (0) d3_29 rfl ?_
  refine G.putf (j := 7) (host := "") d3_30 (Or.inl (hw _ (List.mem_of_getElem? (i := 31) rfl))) (Or.inl (hw _ (List.mem_of_getElem? (i := 32) rfl))) (hw _ (List.mem_of_getElem? (i := 2) rfl)) (ty := .int) (by decide) rfl rfl rfl rfl ?_
  try simp only [List.set_cons_zero, List.set_cons_succ, List.length_cons, List.length_nil, List.nil_append, List.cons_append, Nat.zero_add, Nat.reduceAdd]
  refine G.aloadN d3_33 rfl rfl ?_
  refine G.aconstNull d3_34 ?_
  refine G.putf (j := 8) (host := "") d3_35 (Or.inl (hw _ (List.mem_of_getElem? (i := 33) rfl))) (Or.inl (hw _ (List.mem_of_getElem? (i := 34) rfl))) (hw _ (List.mem_of_getElem? (i := 2) rfl)) (ty := .object "com/example/apt_clause/aptclause/graph/Pairs") (by decide) rfl rfl rfl rfl ?_
  try simp only [List.set_cons_zero, List.set_cons_succ, List.length_cons, List.length_nil, List.nil_append, List.cons_append, Nat.zero_add, Nat.reduceAdd]
  refine G.aloadN d3_38 rfl rfl ?_
  refine G.getf (j := 0) (host := "") d3_39 (Or.inl (hw _ (List.mem_of_getElem? (i := 11) rfl))) rfl rfl ?_
  refine G.iconst (0) d3_42 rfl ?_
  refine G.iconst (0) d3_43 rfl ?_
  refine G.iast (0) d3_44 rfl (by decide) (Nat.le_of_ble_eq_true rfl) ?_
  try simp only [List.set_cons_zero, List.set_cons_succ, List.length_cons, List.length_nil, List.nil_append, List.cons_append, Nat.zero_add, Nat.reduceAdd]
  refine G.aloadN d3_45 rfl rfl ?_
  refine G.getf (j := 1) (host := "") d3_46 (Or.inl (hw _ (List.mem_of_getElem? (i := 13) rfl))) rfl rfl ?_
  refine G.iconst (0) d3_49 rfl ?_
  refine G.iconst (0) d3_50 rfl ?_
  refine G.iast (0) d3_51 rfl (by decide) (Nat.le_of_ble_eq_true rfl) ?_
  try simp only [List.set_cons_zero, List.set_cons_succ, List.length_cons, List.length_nil, List.nil_append, List.cons_append, Nat.zero_add, Nat.reduceAdd]
  refine G.aloadN d3_52 rfl rfl ?_
  refine G.iconst (0) d3_53 rfl ?_
  refine G.putf (j := 9) (host := "") d3_54 (Or.inl (hw _ (List.mem_of_getElem? (i := 35) rfl))) (Or.inl (hw _ (List.mem_of_getElem? (i := 36) rfl))) (hw _ (List.mem_of_getElem? (i := 2) rfl)) (ty := .int) (by decide) rfl rfl rfl rfl ?_
  try simp only [List.set_cons_zero, List.set_cons_succ, List.length_cons, List.length_nil, List.nil_append, List.cons_append, Nat.zero_add, Nat.reduceAdd]
  refine G.aloadN d3_57 rfl rfl ?_
  refine G.iconst (0) d3_58 rfl ?_
  refine G.putf (j := 10) (host := "") d3_59 (Or.inl (hw _ (List.mem_of_getElem? (i := 37) rfl))) (Or.inl (hw _ (List.mem_of_getElem? (i := 38) rfl))) (hw _ (List.mem_of_getElem? (i := 2) rfl)) (ty := .boolean) (by decide) rfl rfl rfl rfl ?_
  try simp only [List.set_cons_zero, List.set_cons_succ, List.length_cons, List.length_nil, List.nil_append, List.cons_append, Nat.zero_add, Nat.reduceAdd]
  refine G.aloadN d3_62 rfl rfl ?_
  refine G.iconst (0) d3_63 rfl ?_
  refine G.putf (j := 11) (host := "") d3_64 (Or.inl (hw _ (List.mem_of_getElem? (i := 39) rfl))) (Or.inl (hw _ (List.mem_of_getElem? (i := 40) rfl))) (hw _ (List.mem_of_getElem? (i := 2) rfl)) (ty := .int) (by decide) rfl rfl rfl rfl ?_
  try simp only [List.set_cons_zero, List.set_cons_succ, List.length_cons, List.length_nil, List.nil_append, List.cons_append, Nat.zero_add, Nat.reduceAdd]
  refine G.aloadN d3_67 rfl rfl ?_
  refine G.iconst (-1) d3_68 rfl ?_
  refine G.putf (j := 2) (host := "") d3_69 (Or.inl (hw _ (List.mem_of_getElem? (i := 15) rfl))) (Or.inl (hw _ (List.mem_of_getElem? (i := 16) rfl))) (hw _ (List.mem_of_getElem? (i := 2) rfl)) (ty := .int) (by decide) rfl rfl rfl rfl ?_
  try simp only [List.set_cons_zero, List.set_cons_succ, List.length_cons, List.length_nil, List.nil_append, List.cons_append, Nat.zero_add, Nat.reduceAdd]
  refine G.aloadN d3_72 rfl rfl ?_
  refine G.iconst (0) d3_73 rfl ?_
  refine G.putf (j := 12) (host := "") d3_74 (Or.inl (hw _ (List.mem_of_getElem? (i := 41) rfl))) (Or.inl (hw _ (List.mem_of_getElem? (i := 42) rfl))) (hw _ (List.mem_of_getElem? (i := 2) rfl)) (ty := .int) (by decide) rfl rfl rfl rfl ?_
  try simp only [List.set_cons_zero, List.set_cons_succ, List.length_cons, List.length_nil, List.nil_append, List.cons_append, Nat.zero_add, Nat.reduceAdd]
  exact G.vreturn rfl d3_77 (Nat.le_of_ble_eq_true rfl) (Nat.le_of_ble_eq_true rfl) ⟨rfl, rfl⟩
def own_xm_3_1 (h : Int32 → Int32) (g : Int32 → Int32) : Int32 := (0 : Int32)
set_option maxRecDepth 65536 in
set_option maxHeartbeats 40000000 in
theorem m_3_1 (l : Launch) (Z : State) (a0 : Array Value) (hw : ∀ d ∈ tables_1, d.before a0 Z = true) (n0 : Nat) (ws : List Jvm.Cond) (h g : Int32 → Int32) (N : Nat) (tl : AHeap) (hN : N ≤ 8) (gn0 : Nat) (hg0 : (g 0).toInt = (gn0 : Int)) (hl0 : gn0 < N) (hi0 : 0 < N) :
    Meth l Z a0 ws (⟨"com/example/apt_clause/aptclause/body/ObjectSet", "clear", "()V"⟩ : MethodName) prog_2_method_3_code 2 none ({ frames := 0, cells := 0, slots := 0, locals := 0 } : Room) 0 0 n0 #[.ref (ad n0 0)] (.inl ("com/example/apt_clause/aptclause/body/ObjectSet", [("runStarts", "[I", .ref (ad n0 1)), ("runEnds", "[I", .ref (ad n0 2)), ("restName", "I", .int (-1 : Int32)), ("rest", "[I", .ref (ad n0 3)), ("repeats", "[I", .ref (ad n0 4)), ("held", "[Z", .ref (ad n0 5)), ("objects", "[I", .ref (ad n0 6)), ("size", "I", .int (1 : Int32)), ("runPairs", "Lcom/example/apt_clause/aptclause/graph/Pairs;", .null), ("runCount", "I", .int (0 : Int32)), ("restListed", "Z", .int (0 : Int32)), ("restLength", "I", .int (0 : Int32)), ("repeatCount", "I", .int (0 : Int32)), ("marks", "[I", .null), ("listing", "I", .int (0 : Int32))]) :: .inr (.int, [.int (0 : Int32)]) :: .inr (.int, [.int (0 : Int32)]) :: .inr (.int, []) :: .inr (.int, []) :: (.inr (.boolean, arrF N h)) :: (.inr (.int, arrF N g)) :: tl : AHeap) (fun r A' => r = none ∧ A' = OCells n0 0 (upd h (g 0) 0) g N tl) := by
  refine Meth.of (plainFor_of_name own_pn5) (Ls := [.val (.ref (ad n0 0)), .unset]) (fun m => by first | (simp [entryFrame, mkF, argsToLocals, Value.category, maxLocals]; done) | rfl) ?_
  intro K G
  have he : own_xm_3_1 h g = own_xm_3_1 h g := rfl
  refine G.iconst (0) d3_0 rfl ?_
  refine G.istoreN1 d3_1 rfl ?_
  refine G.iloadN d3_2 rfl ?_
  refine G.aloadN d3_3 rfl rfl ?_
  refine G.getf (j := 7) (host := "") d3_4 (Or.inl (hw _ (List.mem_of_getElem? (i := 31) rfl))) rfl rfl ?_
  refine G.icmp_ge 28 d3_7 (by decide) rfl (fun h7 => absurd h7 (by decide)) (fun _ => ?_)
  refine G.aloadN d3_10 rfl rfl ?_
  refine G.getf (j := 5) (host := "") d3_11 (Or.inl (hw _ (List.mem_of_getElem? (i := 22) rfl))) rfl rfl ?_
  refine G.aloadN d3_14 rfl rfl ?_
  refine G.getf (j := 6) (host := "") d3_15 (Or.inl (hw _ (List.mem_of_getElem? (i := 24) rfl))) rfl rfl ?_
  refine G.iloadN d3_18 rfl ?_
  refine G.iald 0 d3_19 rfl (by decide) (arrF_at (x := 0) (by decide) hi0) ?_
  refine G.iconst (0) d3_20 rfl ?_
  refine G.zast gn0 d3_21 rfl hg0 (by rw [arrF_len]; exact hl0) (x8 := 0) rfl rfl ?_
  try simp only [List.set_cons_zero, List.set_cons_succ, List.length_cons, List.length_nil, List.nil_append, List.cons_append, Nat.zero_add, Nat.reduceAdd]
  rw [arrF_set hg0 (by omega)]
  refine G.iinc1 (1) d3_22 rfl rfl ?_
  refine G.goto 2 d3_25 (by decide) rfl ?_
  refine G.iloadN d3_2 rfl ?_
  refine G.aloadN d3_3 rfl rfl ?_
  refine G.getf (j := 7) (host := "") d3_4 (Or.inl (hw _ (List.mem_of_getElem? (i := 31) rfl))) rfl rfl ?_
  refine G.icmp_ge 28 d3_7 (by decide) rfl (fun _ => ?_) (fun h7 => absurd h7 (by decide))
  refine G.aloadN d3_28 rfl rfl ?_
  refine G.iconst (0) d3_29 rfl ?_
  refine G.putf (j := 7) (host := "") d3_30 (Or.inl (hw _ (List.mem_of_getElem? (i := 31) rfl))) (Or.inl (hw _ (List.mem_of_getElem? (i := 32) rfl))) (hw _ (List.mem_of_getElem? (i := 2) rfl)) (ty := .int) (by decide) rfl rfl rfl rfl ?_
  try simp only [List.set_cons_zero, List.set_cons_succ, List.length_cons, List.length_nil, List.nil_append, List.cons_append, Nat.zero_add, Nat.reduceAdd]
  refine G.aloadN d3_33 rfl rfl ?_
  refine G.aconstNull d3_34 ?_
  refine G.putf (j := 8) (host := "") d3_35 (Or.inl (hw _ (List.mem_of_getElem? (i := 33) rfl))) (Or.inl (hw _ (List.mem_of_getElem? (i := 34) rfl))) (hw _ (List.mem_of_getElem? (i := 2) rfl)) (ty := .object "com/example/apt_clause/aptclause/graph/Pairs") (by decide) rfl rfl rfl rfl ?_
  try simp only [List.set_cons_zero, List.set_cons_succ, List.length_cons, List.length_nil, List.nil_append, List.cons_append, Nat.zero_add, Nat.reduceAdd]
  refine G.aloadN d3_38 rfl rfl ?_
  refine G.getf (j := 0) (host := "") d3_39 (Or.inl (hw _ (List.mem_of_getElem? (i := 11) rfl))) rfl rfl ?_
  refine G.iconst (0) d3_42 rfl ?_
  refine G.iconst (0) d3_43 rfl ?_
  refine G.iast (0) d3_44 rfl (by decide) (Nat.le_of_ble_eq_true rfl) ?_
  try simp only [List.set_cons_zero, List.set_cons_succ, List.length_cons, List.length_nil, List.nil_append, List.cons_append, Nat.zero_add, Nat.reduceAdd]
  refine G.aloadN d3_45 rfl rfl ?_
  refine G.getf (j := 1) (host := "") d3_46 (Or.inl (hw _ (List.mem_of_getElem? (i := 13) rfl))) rfl rfl ?_
  refine G.iconst (0) d3_49 rfl ?_
  refine G.iconst (0) d3_50 rfl ?_
  refine G.iast (0) d3_51 rfl (by decide) (Nat.le_of_ble_eq_true rfl) ?_
  try simp only [List.set_cons_zero, List.set_cons_succ, List.length_cons, List.length_nil, List.nil_append, List.cons_append, Nat.zero_add, Nat.reduceAdd]
  refine G.aloadN d3_52 rfl rfl ?_
  refine G.iconst (0) d3_53 rfl ?_
  refine G.putf (j := 9) (host := "") d3_54 (Or.inl (hw _ (List.mem_of_getElem? (i := 35) rfl))) (Or.inl (hw _ (List.mem_of_getElem? (i := 36) rfl))) (hw _ (List.mem_of_getElem? (i := 2) rfl)) (ty := .int) (by decide) rfl rfl rfl rfl ?_
  try simp only [List.set_cons_zero, List.set_cons_succ, List.length_cons, List.length_nil, List.nil_append, List.cons_append, Nat.zero_add, Nat.reduceAdd]
  refine G.aloadN d3_57 rfl rfl ?_
  refine G.iconst (0) d3_58 rfl ?_
  refine G.putf (j := 10) (host := "") d3_59 (Or.inl (hw _ (List.mem_of_getElem? (i := 37) rfl))) (Or.inl (hw _ (List.mem_of_getElem? (i := 38) rfl))) (hw _ (List.mem_of_getElem? (i := 2) rfl)) (ty := .boolean) (by decide) rfl rfl rfl rfl ?_
  try simp only [List.set_cons_zero, List.set_cons_succ, List.length_cons, List.length_nil, List.nil_append, List.cons_append, Nat.zero_add, Nat.reduceAdd]
  refine G.aloadN d3_62 rfl rfl ?_
  refine G.iconst (0) d3_63 rfl ?_
  refine G.putf (j := 11) (host := "") d3_64 (Or.inl (hw _ (List.mem_of_getElem? (i := 39) rfl))) (Or.inl (hw _ (List.mem_of_getElem? (i := 40) rfl))) (hw _ (List.mem_of_getElem? (i := 2) rfl)) (ty := .int) (by decide) rfl rfl rfl rfl ?_
  try simp only [List.set_cons_zero, List.set_cons_succ, List.length_cons, List.length_nil, List.nil_append, List.cons_append, Nat.zero_add, Nat.reduceAdd]
  refine G.aloadN d3_67 rfl rfl ?_
  refine G.iconst (-1) d3_68 rfl ?_
  refine G.putf (j := 2) (host := "") d3_69 (Or.inl (hw _ (List.mem_of_getElem? (i := 15) rfl))) (Or.inl (hw _ (List.mem_of_getElem? (i := 16) rfl))) (hw _ (List.mem_of_getElem? (i := 2) rfl)) (ty := .int) (by decide) rfl rfl rfl rfl ?_
  try simp only [List.set_cons_zero, List.set_cons_succ, List.length_cons, List.length_nil, List.nil_append, List.cons_append, Nat.zero_add, Nat.reduceAdd]
  refine G.aloadN d3_72 rfl rfl ?_
  refine G.iconst (0) d3_73 rfl ?_
  refine G.putf (j := 12) (host := "") d3_74 (Or.inl (hw _ (List.mem_of_getElem? (i := 41) rfl))) (Or.inl (hw _ (List.mem_of_getElem? (i := 42) rfl))) (hw _ (List.mem_of_getElem? (i := 2) rfl)) (ty := .int) (by decide) rfl rfl rfl rfl ?_
  try simp only [List.set_cons_zero, List.set_cons_succ, List.length_cons, List.length_nil, List.nil_append, List.cons_append, Nat.zero_add, Nat.reduceAdd]
  exact G.vreturn rfl d3_77 (Nat.le_of_ble_eq_true rfl) (Nat.le_of_ble_eq_true rfl) ⟨rfl, rfl⟩
def own_xm_3_2 (h : Int32 → Int32) (g : Int32 → Int32) : Int32 := (0 : Int32)
set_option maxRecDepth 65536 in
set_option maxHeartbeats 40000000 in
theorem m_3_2 (l : Launch) (Z : State) (a0 : Array Value) (hw : ∀ d ∈ tables_1, d.before a0 Z = true) (n0 : Nat) (ws : List Jvm.Cond) (h g : Int32 → Int32) (N : Nat) (tl : AHeap) (hN : N ≤ 8) (gn0 : Nat) (hg0 : (g 0).toInt = (gn0 : Int)) (hl0 : gn0 < N) (hi0 : 0 < N) (gn1 : Nat) (hg1 : (g 1).toInt = (gn1 : Int)) (hl1 : gn1 < N) (hi1 : 1 < N) :
    Meth l Z a0 ws (⟨"com/example/apt_clause/aptclause/body/ObjectSet", "clear", "()V"⟩ : MethodName) prog_2_method_3_code 2 none ({ frames := 0, cells := 0, slots := 0, locals := 0 } : Room) 0 0 n0 #[.ref (ad n0 0)] (.inl ("com/example/apt_clause/aptclause/body/ObjectSet", [("runStarts", "[I", .ref (ad n0 1)), ("runEnds", "[I", .ref (ad n0 2)), ("restName", "I", .int (-1 : Int32)), ("rest", "[I", .ref (ad n0 3)), ("repeats", "[I", .ref (ad n0 4)), ("held", "[Z", .ref (ad n0 5)), ("objects", "[I", .ref (ad n0 6)), ("size", "I", .int (2 : Int32)), ("runPairs", "Lcom/example/apt_clause/aptclause/graph/Pairs;", .null), ("runCount", "I", .int (0 : Int32)), ("restListed", "Z", .int (0 : Int32)), ("restLength", "I", .int (0 : Int32)), ("repeatCount", "I", .int (0 : Int32)), ("marks", "[I", .null), ("listing", "I", .int (0 : Int32))]) :: .inr (.int, [.int (0 : Int32)]) :: .inr (.int, [.int (0 : Int32)]) :: .inr (.int, []) :: .inr (.int, []) :: (.inr (.boolean, arrF N h)) :: (.inr (.int, arrF N g)) :: tl : AHeap) (fun r A' => r = none ∧ A' = OCells n0 0 (upd (upd h (g 0) 0) (g 1) 0) g N tl) := by
  refine Meth.of (plainFor_of_name own_pn5) (Ls := [.val (.ref (ad n0 0)), .unset]) (fun m => by first | (simp [entryFrame, mkF, argsToLocals, Value.category, maxLocals]; done) | rfl) ?_
  intro K G
  have he : own_xm_3_2 h g = own_xm_3_2 h g := rfl
  refine G.iconst (0) d3_0 rfl ?_
  refine G.istoreN1 d3_1 rfl ?_
  refine G.iloadN d3_2 rfl ?_
  refine G.aloadN d3_3 rfl rfl ?_
  refine G.getf (j := 7) (host := "") d3_4 (Or.inl (hw _ (List.mem_of_getElem? (i := 31) rfl))) rfl rfl ?_
  refine G.icmp_ge 28 d3_7 (by decide) rfl (fun h7 => absurd h7 (by decide)) (fun _ => ?_)
  refine G.aloadN d3_10 rfl rfl ?_
  refine G.getf (j := 5) (host := "") d3_11 (Or.inl (hw _ (List.mem_of_getElem? (i := 22) rfl))) rfl rfl ?_
  refine G.aloadN d3_14 rfl rfl ?_
  refine G.getf (j := 6) (host := "") d3_15 (Or.inl (hw _ (List.mem_of_getElem? (i := 24) rfl))) rfl rfl ?_
  refine G.iloadN d3_18 rfl ?_
  refine G.iald 0 d3_19 rfl (by decide) (arrF_at (x := 0) (by decide) hi0) ?_
  refine G.iconst (0) d3_20 rfl ?_
  refine G.zast gn0 d3_21 rfl hg0 (by rw [arrF_len]; exact hl0) (x8 := 0) rfl rfl ?_
  try simp only [List.set_cons_zero, List.set_cons_succ, List.length_cons, List.length_nil, List.nil_append, List.cons_append, Nat.zero_add, Nat.reduceAdd]
  rw [arrF_set hg0 (by omega)]
  refine G.iinc1 (1) d3_22 rfl rfl ?_
  refine G.goto 2 d3_25 (by decide) rfl ?_
  refine G.iloadN d3_2 rfl ?_
  refine G.aloadN d3_3 rfl rfl ?_
  refine G.getf (j := 7) (host := "") d3_4 (Or.inl (hw _ (List.mem_of_getElem? (i := 31) rfl))) rfl rfl ?_
  refine G.icmp_ge 28 d3_7 (by decide) rfl (fun h7 => absurd h7 (by decide)) (fun _ => ?_)
  refine G.aloadN d3_10 rfl rfl ?_
  refine G.getf (j := 5) (host := "") d3_11 (Or.inl (hw _ (List.mem_of_getElem? (i := 22) rfl))) rfl rfl ?_
  refine G.aloadN d3_14 rfl rfl ?_
  refine G.getf (j := 6) (host := "") d3_15 (Or.inl (hw _ (List.mem_of_getElem? (i := 24) rfl))) rfl rfl ?_
  refine G.iloadN d3_18 rfl ?_
  refine G.iald 1 d3_19 rfl (by decide) (arrF_at (x := 1) (by decide) hi1) ?_
  refine G.iconst (0) d3_20 rfl ?_
  refine G.zast gn1 d3_21 rfl hg1 (by rw [arrF_len]; exact hl1) (x8 := 0) rfl rfl ?_
  try simp only [List.set_cons_zero, List.set_cons_succ, List.length_cons, List.length_nil, List.nil_append, List.cons_append, Nat.zero_add, Nat.reduceAdd]
  rw [arrF_set hg1 (by omega)]
  refine G.iinc1 (1) d3_22 rfl rfl ?_
  refine G.goto 2 d3_25 (by decide) rfl ?_
  refine G.iloadN d3_2 rfl ?_
  refine G.aloadN d3_3 rfl rfl ?_
  refine G.getf (j := 7) (host := "") d3_4 (Or.inl (hw _ (List.mem_of_getElem? (i := 31) rfl))) rfl rfl ?_
  refine G.icmp_ge 28 d3_7 (by decide) rfl (fun _ => ?_) (fun h7 => absurd h7 (by decide))
  refine G.aloadN d3_28 rfl rfl ?_
  refine G.iconst (0) d3_29 rfl ?_
  refine G.putf (j := 7) (host := "") d3_30 (Or.inl (hw _ (List.mem_of_getElem? (i := 31) rfl))) (Or.inl (hw _ (List.mem_of_getElem? (i := 32) rfl))) (hw _ (List.mem_of_getElem? (i := 2) rfl)) (ty := .int) (by decide) rfl rfl rfl rfl ?_
  try simp only [List.set_cons_zero, List.set_cons_succ, List.length_cons, List.length_nil, List.nil_append, List.cons_append, Nat.zero_add, Nat.reduceAdd]
  refine G.aloadN d3_33 rfl rfl ?_
  refine G.aconstNull d3_34 ?_
  refine G.putf (j := 8) (host := "") d3_35 (Or.inl (hw _ (List.mem_of_getElem? (i := 33) rfl))) (Or.inl (hw _ (List.mem_of_getElem? (i := 34) rfl))) (hw _ (List.mem_of_getElem? (i := 2) rfl)) (ty := .object "com/example/apt_clause/aptclause/graph/Pairs") (by decide) rfl rfl rfl rfl ?_
  try simp only [List.set_cons_zero, List.set_cons_succ, List.length_cons, List.length_nil, List.nil_append, List.cons_append, Nat.zero_add, Nat.reduceAdd]
  refine G.aloadN d3_38 rfl rfl ?_
  refine G.getf (j := 0) (host := "") d3_39 (Or.inl (hw _ (List.mem_of_getElem? (i := 11) rfl))) rfl rfl ?_
  refine G.iconst (0) d3_42 rfl ?_
  refine G.iconst (0) d3_43 rfl ?_
  refine G.iast (0) d3_44 rfl (by decide) (Nat.le_of_ble_eq_true rfl) ?_
  try simp only [List.set_cons_zero, List.set_cons_succ, List.length_cons, List.length_nil, List.nil_append, List.cons_append, Nat.zero_add, Nat.reduceAdd]
  refine G.aloadN d3_45 rfl rfl ?_
  refine G.getf (j := 1) (host := "") d3_46 (Or.inl (hw _ (List.mem_of_getElem? (i := 13) rfl))) rfl rfl ?_
  refine G.iconst (0) d3_49 rfl ?_
  refine G.iconst (0) d3_50 rfl ?_
  refine G.iast (0) d3_51 rfl (by decide) (Nat.le_of_ble_eq_true rfl) ?_
  try simp only [List.set_cons_zero, List.set_cons_succ, List.length_cons, List.length_nil, List.nil_append, List.cons_append, Nat.zero_add, Nat.reduceAdd]
  refine G.aloadN d3_52 rfl rfl ?_
  refine G.iconst (0) d3_53 rfl ?_
  refine G.putf (j := 9) (host := "") d3_54 (Or.inl (hw _ (List.mem_of_getElem? (i := 35) rfl))) (Or.inl (hw _ (List.mem_of_getElem? (i := 36) rfl))) (hw _ (List.mem_of_getElem? (i := 2) rfl)) (ty := .int) (by decide) rfl rfl rfl rfl ?_
  try simp only [List.set_cons_zero, List.set_cons_succ, List.length_cons, List.length_nil, List.nil_append, List.cons_append, Nat.zero_add, Nat.reduceAdd]
  refine G.aloadN d3_57 rfl rfl ?_
  refine G.iconst (0) d3_58 rfl ?_
  refine G.putf (j := 10) (host := "") d3_59 (Or.inl (hw _ (List.mem_of_getElem? (i := 37) rfl))) (Or.inl (hw _ (List.mem_of_getElem? (i := 38) rfl))) (hw _ (List.mem_of_getElem? (i := 2) rfl)) (ty := .boolean) (by decide) rfl rfl rfl rfl ?_
  try simp only [List.set_cons_zero, List.set_cons_succ, List.length_cons, List.length_nil, List.nil_append, List.cons_append, Nat.zero_add, Nat.reduceAdd]
  refine G.aloadN d3_62 rfl rfl ?_
  refine G.iconst (0) d3_63 rfl ?_
  refine G.putf (j := 11) (host := "") d3_64 (Or.inl (hw _ (List.mem_of_getElem? (i := 39) rfl))) (Or.inl (hw _ (List.mem_of_getElem? (i := 40) rfl))) (hw _ (List.mem_of_getElem? (i := 2) rfl)) (ty := .int) (by decide) rfl rfl rfl rfl ?_
  try simp only [List.set_cons_zero, List.set_cons_succ, List.length_cons, List.length_nil, List.nil_append, List.cons_append, Nat.zero_add, Nat.reduceAdd]
  refine G.aloadN d3_67 rfl rfl ?_
  refine G.iconst (-1) d3_68 rfl ?_
  refine G.putf (j := 2) (host := "") d3_69 (Or.inl (hw _ (List.mem_of_getElem? (i := 15) rfl))) (Or.inl (hw _ (List.mem_of_getElem? (i := 16) rfl))) (hw _ (List.mem_of_getElem? (i := 2) rfl)) (ty := .int) (by decide) rfl rfl rfl rfl ?_
  try simp only [List.set_cons_zero, List.set_cons_succ, List.length_cons, List.length_nil, List.nil_append, List.cons_append, Nat.zero_add, Nat.reduceAdd]
  refine G.aloadN d3_72 rfl rfl ?_
  refine G.iconst (0) d3_73 rfl ?_
  refine G.putf (j := 12) (host := "") d3_74 (Or.inl (hw _ (List.mem_of_getElem? (i := 41) rfl))) (Or.inl (hw _ (List.mem_of_getElem? (i := 42) rfl))) (hw _ (List.mem_of_getElem? (i := 2) rfl)) (ty := .int) (by decide) rfl rfl rfl rfl ?_
  try simp only [List.set_cons_zero, List.set_cons_succ, List.length_cons, List.length_nil, List.nil_append, List.cons_append, Nat.zero_add, Nat.reduceAdd]
  exact G.vreturn rfl d3_77 (Nat.le_of_ble_eq_true rfl) (Nat.le_of_ble_eq_true rfl) ⟨rfl, rfl⟩
def own_xm_3_3 (h : Int32 → Int32) (g : Int32 → Int32) : Int32 := (0 : Int32)
set_option maxRecDepth 65536 in
set_option maxHeartbeats 40000000 in
theorem m_3_3 (l : Launch) (Z : State) (a0 : Array Value) (hw : ∀ d ∈ tables_1, d.before a0 Z = true) (n0 : Nat) (ws : List Jvm.Cond) (h g : Int32 → Int32) (N : Nat) (tl : AHeap) (hN : N ≤ 8) (gn0 : Nat) (hg0 : (g 0).toInt = (gn0 : Int)) (hl0 : gn0 < N) (hi0 : 0 < N) (gn1 : Nat) (hg1 : (g 1).toInt = (gn1 : Int)) (hl1 : gn1 < N) (hi1 : 1 < N) (gn2 : Nat) (hg2 : (g 2).toInt = (gn2 : Int)) (hl2 : gn2 < N) (hi2 : 2 < N) :
    Meth l Z a0 ws (⟨"com/example/apt_clause/aptclause/body/ObjectSet", "clear", "()V"⟩ : MethodName) prog_2_method_3_code 2 none ({ frames := 0, cells := 0, slots := 0, locals := 0 } : Room) 0 0 n0 #[.ref (ad n0 0)] (.inl ("com/example/apt_clause/aptclause/body/ObjectSet", [("runStarts", "[I", .ref (ad n0 1)), ("runEnds", "[I", .ref (ad n0 2)), ("restName", "I", .int (-1 : Int32)), ("rest", "[I", .ref (ad n0 3)), ("repeats", "[I", .ref (ad n0 4)), ("held", "[Z", .ref (ad n0 5)), ("objects", "[I", .ref (ad n0 6)), ("size", "I", .int (3 : Int32)), ("runPairs", "Lcom/example/apt_clause/aptclause/graph/Pairs;", .null), ("runCount", "I", .int (0 : Int32)), ("restListed", "Z", .int (0 : Int32)), ("restLength", "I", .int (0 : Int32)), ("repeatCount", "I", .int (0 : Int32)), ("marks", "[I", .null), ("listing", "I", .int (0 : Int32))]) :: .inr (.int, [.int (0 : Int32)]) :: .inr (.int, [.int (0 : Int32)]) :: .inr (.int, []) :: .inr (.int, []) :: (.inr (.boolean, arrF N h)) :: (.inr (.int, arrF N g)) :: tl : AHeap) (fun r A' => r = none ∧ A' = OCells n0 0 (upd (upd (upd h (g 0) 0) (g 1) 0) (g 2) 0) g N tl) := by
  refine Meth.of (plainFor_of_name own_pn5) (Ls := [.val (.ref (ad n0 0)), .unset]) (fun m => by first | (simp [entryFrame, mkF, argsToLocals, Value.category, maxLocals]; done) | rfl) ?_
  intro K G
  have he : own_xm_3_3 h g = own_xm_3_3 h g := rfl
  refine G.iconst (0) d3_0 rfl ?_
  refine G.istoreN1 d3_1 rfl ?_
  refine G.iloadN d3_2 rfl ?_
  refine G.aloadN d3_3 rfl rfl ?_
  refine G.getf (j := 7) (host := "") d3_4 (Or.inl (hw _ (List.mem_of_getElem? (i := 31) rfl))) rfl rfl ?_
  refine G.icmp_ge 28 d3_7 (by decide) rfl (fun h7 => absurd h7 (by decide)) (fun _ => ?_)
  refine G.aloadN d3_10 rfl rfl ?_
  refine G.getf (j := 5) (host := "") d3_11 (Or.inl (hw _ (List.mem_of_getElem? (i := 22) rfl))) rfl rfl ?_
  refine G.aloadN d3_14 rfl rfl ?_
  refine G.getf (j := 6) (host := "") d3_15 (Or.inl (hw _ (List.mem_of_getElem? (i := 24) rfl))) rfl rfl ?_
  refine G.iloadN d3_18 rfl ?_
  refine G.iald 0 d3_19 rfl (by decide) (arrF_at (x := 0) (by decide) hi0) ?_
  refine G.iconst (0) d3_20 rfl ?_
  refine G.zast gn0 d3_21 rfl hg0 (by rw [arrF_len]; exact hl0) (x8 := 0) rfl rfl ?_
  try simp only [List.set_cons_zero, List.set_cons_succ, List.length_cons, List.length_nil, List.nil_append, List.cons_append, Nat.zero_add, Nat.reduceAdd]
  rw [arrF_set hg0 (by omega)]
  refine G.iinc1 (1) d3_22 rfl rfl ?_
  refine G.goto 2 d3_25 (by decide) rfl ?_
  refine G.iloadN d3_2 rfl ?_
  refine G.aloadN d3_3 rfl rfl ?_
  refine G.getf (j := 7) (host := "") d3_4 (Or.inl (hw _ (List.mem_of_getElem? (i := 31) rfl))) rfl rfl ?_
  refine G.icmp_ge 28 d3_7 (by decide) rfl (fun h7 => absurd h7 (by decide)) (fun _ => ?_)
  refine G.aloadN d3_10 rfl rfl ?_
  refine G.getf (j := 5) (host := "") d3_11 (Or.inl (hw _ (List.mem_of_getElem? (i := 22) rfl))) rfl rfl ?_
  refine G.aloadN d3_14 rfl rfl ?_
  refine G.getf (j := 6) (host := "") d3_15 (Or.inl (hw _ (List.mem_of_getElem? (i := 24) rfl))) rfl rfl ?_
  refine G.iloadN d3_18 rfl ?_
  refine G.iald 1 d3_19 rfl (by decide) (arrF_at (x := 1) (by decide) hi1) ?_
  refine G.iconst (0) d3_20 rfl ?_
  refine G.zast gn1 d3_21 rfl hg1 (by rw [arrF_len]; exact hl1) (x8 := 0) rfl rfl ?_
  try simp only [List.set_cons_zero, List.set_cons_succ, List.length_cons, List.length_nil, List.nil_append, List.cons_append, Nat.zero_add, Nat.reduceAdd]
  rw [arrF_set hg1 (by omega)]
  refine G.iinc1 (1) d3_22 rfl rfl ?_
  refine G.goto 2 d3_25 (by decide) rfl ?_
  refine G.iloadN d3_2 rfl ?_
  refine G.aloadN d3_3 rfl rfl ?_
  refine G.getf (j := 7) (host := "") d3_4 (Or.inl (hw _ (List.mem_of_getElem? (i := 31) rfl))) rfl rfl ?_
  refine G.icmp_ge 28 d3_7 (by decide) rfl (fun h7 => absurd h7 (by decide)) (fun _ => ?_)
  refine G.aloadN d3_10 rfl rfl ?_
  refine G.getf (j := 5) (host := "") d3_11 (Or.inl (hw _ (List.mem_of_getElem? (i := 22) rfl))) rfl rfl ?_
  refine G.aloadN d3_14 rfl rfl ?_
  refine G.getf (j := 6) (host := "") d3_15 (Or.inl (hw _ (List.mem_of_getElem? (i := 24) rfl))) rfl rfl ?_
  refine G.iloadN d3_18 rfl ?_
  refine G.iald 2 d3_19 rfl (by decide) (arrF_at (x := 2) (by decide) hi2) ?_
  refine G.iconst (0) d3_20 rfl ?_
  refine G.zast gn2 d3_21 rfl hg2 (by rw [arrF_len]; exact hl2) (x8 := 0) rfl rfl ?_
  try simp only [List.set_cons_zero, List.set_cons_succ, List.length_cons, List.length_nil, List.nil_append, List.cons_append, Nat.zero_add, Nat.reduceAdd]
  rw [arrF_set hg2 (by omega)]
  refine G.iinc1 (1) d3_22 rfl rfl ?_
  refine G.goto 2 d3_25 (by decide) rfl ?_
  refine G.iloadN d3_2 rfl ?_
  refine G.aloadN d3_3 rfl rfl ?_
  refine G.getf (j := 7) (host := "") d3_4 (Or.inl (hw _ (List.mem_of_getElem? (i := 31) rfl))) rfl rfl ?_
  refine G.icmp_ge 28 d3_7 (by decide) rfl (fun _ => ?_) (fun h7 => absurd h7 (by decide))
  refine G.aloadN d3_28 rfl rfl ?_
  refine G.iconst (0) d3_29 rfl ?_
  refine G.putf (j := 7) (host := "") d3_30 (Or.inl (hw _ (List.mem_of_getElem? (i := 31) rfl))) (Or.inl (hw _ (List.mem_of_getElem? (i := 32) rfl))) (hw _ (List.mem_of_getElem? (i := 2) rfl)) (ty := .int) (by decide) rfl rfl rfl rfl ?_
  try simp only [List.set_cons_zero, List.set_cons_succ, List.length_cons, List.length_nil, List.nil_append, List.cons_append, Nat.zero_add, Nat.reduceAdd]
  refine G.aloadN d3_33 rfl rfl ?_
  refine G.aconstNull d3_34 ?_
  refine G.putf (j := 8) (host := "") d3_35 (Or.inl (hw _ (List.mem_of_getElem? (i := 33) rfl))) (Or.inl (hw _ (List.mem_of_getElem? (i := 34) rfl))) (hw _ (List.mem_of_getElem? (i := 2) rfl)) (ty := .object "com/example/apt_clause/aptclause/graph/Pairs") (by decide) rfl rfl rfl rfl ?_
  try simp only [List.set_cons_zero, List.set_cons_succ, List.length_cons, List.length_nil, List.nil_append, List.cons_append, Nat.zero_add, Nat.reduceAdd]
  refine G.aloadN d3_38 rfl rfl ?_
  refine G.getf (j := 0) (host := "") d3_39 (Or.inl (hw _ (List.mem_of_getElem? (i := 11) rfl))) rfl rfl ?_
  refine G.iconst (0) d3_42 rfl ?_
  refine G.iconst (0) d3_43 rfl ?_
  refine G.iast (0) d3_44 rfl (by decide) (Nat.le_of_ble_eq_true rfl) ?_
  try simp only [List.set_cons_zero, List.set_cons_succ, List.length_cons, List.length_nil, List.nil_append, List.cons_append, Nat.zero_add, Nat.reduceAdd]
  refine G.aloadN d3_45 rfl rfl ?_
  refine G.getf (j := 1) (host := "") d3_46 (Or.inl (hw _ (List.mem_of_getElem? (i := 13) rfl))) rfl rfl ?_
  refine G.iconst (0) d3_49 rfl ?_
  refine G.iconst (0) d3_50 rfl ?_
  refine G.iast (0) d3_51 rfl (by decide) (Nat.le_of_ble_eq_true rfl) ?_
  try simp only [List.set_cons_zero, List.set_cons_succ, List.length_cons, List.length_nil, List.nil_append, List.cons_append, Nat.zero_add, Nat.reduceAdd]
  refine G.aloadN d3_52 rfl rfl ?_
  refine G.iconst (0) d3_53 rfl ?_
  refine G.putf (j := 9) (host := "") d3_54 (Or.inl (hw _ (List.mem_of_getElem? (i := 35) rfl))) (Or.inl (hw _ (List.mem_of_getElem? (i := 36) rfl))) (hw _ (List.mem_of_getElem? (i := 2) rfl)) (ty := .int) (by decide) rfl rfl rfl rfl ?_
  try simp only [List.set_cons_zero, List.set_cons_succ, List.length_cons, List.length_nil, List.nil_append, List.cons_append, Nat.zero_add, Nat.reduceAdd]
  refine G.aloadN d3_57 rfl rfl ?_
  refine G.iconst (0) d3_58 rfl ?_
  refine G.putf (j := 10) (host := "") d3_59 (Or.inl (hw _ (List.mem_of_getElem? (i := 37) rfl))) (Or.inl (hw _ (List.mem_of_getElem? (i := 38) rfl))) (hw _ (List.mem_of_getElem? (i := 2) rfl)) (ty := .boolean) (by decide) rfl rfl rfl rfl ?_
  try simp only [List.set_cons_zero, List.set_cons_succ, List.length_cons, List.length_nil, List.nil_append, List.cons_append, Nat.zero_add, Nat.reduceAdd]
  refine G.aloadN d3_62 rfl rfl ?_
  refine G.iconst (0) d3_63 rfl ?_
  refine G.putf (j := 11) (host := "") d3_64 (Or.inl (hw _ (List.mem_of_getElem? (i := 39) rfl))) (Or.inl (hw _ (List.mem_of_getElem? (i := 40) rfl))) (hw _ (List.mem_of_getElem? (i := 2) rfl)) (ty := .int) (by decide) rfl rfl rfl rfl ?_
  try simp only [List.set_cons_zero, List.set_cons_succ, List.length_cons, List.length_nil, List.nil_append, List.cons_append, Nat.zero_add, Nat.reduceAdd]
  refine G.aloadN d3_67 rfl rfl ?_
  refine G.iconst (-1) d3_68 rfl ?_
  refine G.putf (j := 2) (host := "") d3_69 (Or.inl (hw _ (List.mem_of_getElem? (i := 15) rfl))) (Or.inl (hw _ (List.mem_of_getElem? (i := 16) rfl))) (hw _ (List.mem_of_getElem? (i := 2) rfl)) (ty := .int) (by decide) rfl rfl rfl rfl ?_
  try simp only [List.set_cons_zero, List.set_cons_succ, List.length_cons, List.length_nil, List.nil_append, List.cons_append, Nat.zero_add, Nat.reduceAdd]
  refine G.aloadN d3_72 rfl rfl ?_
  refine G.iconst (0) d3_73 rfl ?_
  refine G.putf (j := 12) (host := "") d3_74 (Or.inl (hw _ (List.mem_of_getElem? (i := 41) rfl))) (Or.inl (hw _ (List.mem_of_getElem? (i := 42) rfl))) (hw _ (List.mem_of_getElem? (i := 2) rfl)) (ty := .int) (by decide) rfl rfl rfl rfl ?_
  try simp only [List.set_cons_zero, List.set_cons_succ, List.length_cons, List.length_nil, List.nil_append, List.cons_append, Nat.zero_add, Nat.reduceAdd]
  exact G.vreturn rfl d3_77 (Nat.le_of_ble_eq_true rfl) (Nat.le_of_ble_eq_true rfl) ⟨rfl, rfl⟩
theorem d6_0 : decode prog_2_method_11_code 0 = .ok (.aload_n 0, 1) := by decide +kernel
theorem d6_1 : decode prog_2_method_11_code 1 = .ok (.getfield 40, 3) := by decide +kernel
theorem d6_4 : decode prog_2_method_11_code 4 = .ok (.ireturn, 1) := by decide +kernel
set_option maxRecDepth 65536 in
set_option maxHeartbeats 40000000 in
theorem m_6 (l : Launch) (Z : State) (a0 : Array Value) (hw : ∀ d ∈ tables_1, d.before a0 Z = true) (n0 : Nat) (ws : List Jvm.Cond) (i : Nat) (z : Int32) (u0 u1 u2 u3 u4 u5 u6 u7 u8 u10 u11 u12 u13 u14 : Value) (A : AHeap) (hA : A[i]? = some (.inl ("com/example/apt_clause/aptclause/body/ObjectSet", [("runStarts", "[I", u0), ("runEnds", "[I", u1), ("restName", "I", u2), ("rest", "[I", u3), ("repeats", "[I", u4), ("held", "[Z", u5), ("objects", "[I", u6), ("size", "I", u7), ("runPairs", "Lcom/example/apt_clause/aptclause/graph/Pairs;", u8), ("runCount", "I", .int z), ("restListed", "Z", u10), ("restLength", "I", u11), ("repeatCount", "I", u12), ("marks", "[I", u13), ("listing", "I", u14)]))) :
    Meth l Z a0 ws (⟨"com/example/apt_clause/aptclause/body/ObjectSet", "runCount", "()I"⟩ : MethodName) prog_2_method_11_code 1 (some (.int)) ({ frames := 0, cells := 0, slots := 0, locals := 0 } : Room) 0 0 n0 #[.ref (ad n0 i)] A (fun r A' => r = some (.int z) ∧ A' = A) := by
  refine Meth.of (plainFor_of_name own_pn5) (Ls := [.val (.ref (ad n0 i))]) (fun m => by first | (simp [entryFrame, mkF, argsToLocals, Value.category, maxLocals]; done) | rfl) ?_
  intro K G
  refine G.aloadN d6_0 rfl rfl ?_
  refine G.getf (j := 9) (host := "") d6_1 (Or.inl (hw _ (List.mem_of_getElem? (i := 35) rfl))) hA rfl ?_
  exact G.ireturn rfl d6_4 (Nat.le_of_ble_eq_true rfl) (Nat.le_of_ble_eq_true rfl) (⟨rfl, rfl⟩)
theorem d7_0 : decode prog_2_method_15_code 0 = .ok (.aload_n 0, 1) := by decide +kernel
theorem d7_1 : decode prog_2_method_15_code 1 = .ok (.getfield 47, 3) := by decide +kernel
theorem d7_4 : decode prog_2_method_15_code 4 = .ok (.ireturn, 1) := by decide +kernel
set_option maxRecDepth 65536 in
set_option maxHeartbeats 40000000 in
theorem m_7 (l : Launch) (Z : State) (a0 : Array Value) (hw : ∀ d ∈ tables_1, d.before a0 Z = true) (n0 : Nat) (ws : List Jvm.Cond) (i : Nat) (z : Int32) (u0 u1 u2 u3 u4 u5 u6 u7 u8 u9 u10 u12 u13 u14 : Value) (A : AHeap) (hA : A[i]? = some (.inl ("com/example/apt_clause/aptclause/body/ObjectSet", [("runStarts", "[I", u0), ("runEnds", "[I", u1), ("restName", "I", u2), ("rest", "[I", u3), ("repeats", "[I", u4), ("held", "[Z", u5), ("objects", "[I", u6), ("size", "I", u7), ("runPairs", "Lcom/example/apt_clause/aptclause/graph/Pairs;", u8), ("runCount", "I", u9), ("restListed", "Z", u10), ("restLength", "I", .int z), ("repeatCount", "I", u12), ("marks", "[I", u13), ("listing", "I", u14)]))) :
    Meth l Z a0 ws (⟨"com/example/apt_clause/aptclause/body/ObjectSet", "restLength", "()I"⟩ : MethodName) prog_2_method_15_code 1 (some (.int)) ({ frames := 0, cells := 0, slots := 0, locals := 0 } : Room) 0 0 n0 #[.ref (ad n0 i)] A (fun r A' => r = some (.int z) ∧ A' = A) := by
  refine Meth.of (plainFor_of_name own_pn5) (Ls := [.val (.ref (ad n0 i))]) (fun m => by first | (simp [entryFrame, mkF, argsToLocals, Value.category, maxLocals]; done) | rfl) ?_
  intro K G
  refine G.aloadN d7_0 rfl rfl ?_
  refine G.getf (j := 11) (host := "") d7_1 (Or.inl (hw _ (List.mem_of_getElem? (i := 39) rfl))) hA rfl ?_
  exact G.ireturn rfl d7_4 (Nat.le_of_ble_eq_true rfl) (Nat.le_of_ble_eq_true rfl) (⟨rfl, rfl⟩)
theorem d8_0 : decode prog_2_method_16_code 0 = .ok (.aload_n 0, 1) := by decide +kernel
theorem d8_1 : decode prog_2_method_16_code 1 = .ok (.getfield 16, 3) := by decide +kernel
theorem d8_4 : decode prog_2_method_16_code 4 = .ok (.ireturn, 1) := by decide +kernel
set_option maxRecDepth 65536 in
set_option maxHeartbeats 40000000 in
theorem m_8 (l : Launch) (Z : State) (a0 : Array Value) (hw : ∀ d ∈ tables_1, d.before a0 Z = true) (n0 : Nat) (ws : List Jvm.Cond) (i : Nat) (z : Int32) (u0 u1 u3 u4 u5 u6 u7 u8 u9 u10 u11 u12 u13 u14 : Value) (A : AHeap) (hA : A[i]? = some (.inl ("com/example/apt_clause/aptclause/body/ObjectSet", [("runStarts", "[I", u0), ("runEnds", "[I", u1), ("restName", "I", .int z), ("rest", "[I", u3), ("repeats", "[I", u4), ("held", "[Z", u5), ("objects", "[I", u6), ("size", "I", u7), ("runPairs", "Lcom/example/apt_clause/aptclause/graph/Pairs;", u8), ("runCount", "I", u9), ("restListed", "Z", u10), ("restLength", "I", u11), ("repeatCount", "I", u12), ("marks", "[I", u13), ("listing", "I", u14)]))) :
    Meth l Z a0 ws (⟨"com/example/apt_clause/aptclause/body/ObjectSet", "restName", "()I"⟩ : MethodName) prog_2_method_16_code 1 (some (.int)) ({ frames := 0, cells := 0, slots := 0, locals := 0 } : Room) 0 0 n0 #[.ref (ad n0 i)] A (fun r A' => r = some (.int z) ∧ A' = A) := by
  refine Meth.of (plainFor_of_name own_pn5) (Ls := [.val (.ref (ad n0 i))]) (fun m => by first | (simp [entryFrame, mkF, argsToLocals, Value.category, maxLocals]; done) | rfl) ?_
  intro K G
  refine G.aloadN d8_0 rfl rfl ?_
  refine G.getf (j := 2) (host := "") d8_1 (Or.inl (hw _ (List.mem_of_getElem? (i := 15) rfl))) hA rfl ?_
  exact G.ireturn rfl d8_4 (Nat.le_of_ble_eq_true rfl) (Nat.le_of_ble_eq_true rfl) (⟨rfl, rfl⟩)
def own_l3 (x : Int32) : Prop := ∃ xn : Nat, x.toInt = (xn : Int) ∧ xn < 3
theorem own_l3S (y : Int32) : own_l3 ((y &&& 2147483647) % 3) := by
  have m : (y &&& 2147483647).toInt = y.toInt % 2 ^ 31 := Jvm.Kit.i32_mask y 2147483647 (k := 31) (by decide) (by decide)
  have r : ((y &&& 2147483647) % 3).toInt = (y &&& 2147483647).toInt % (3 : Int32).toInt := Jvm.Kit.i32_rem_nonneg (by omega)
  have f : (3 : Int32).toInt = 3 := by decide
  rw [f] at r
  exact ⟨((y &&& 2147483647) % 3).toInt.toNat, by omega, by omega⟩
theorem own_four (x : Int32) : (x &&& 3) = 0 ∨ (x &&& 3) = 1 ∨ (x &&& 3) = 2 ∨ (x &&& 3) = 3 := by
  have m : (x &&& 3).toInt = x.toInt % 2 ^ 2 := Jvm.Kit.i32_mask x 3 (k := 2) (by decide) (by decide)
  have e0 : (0 : Int32).toInt = 0 := by decide
  have e1 : (1 : Int32).toInt = 1 := by decide
  have e2 : (2 : Int32).toInt = 2 := by decide
  have e3 : (3 : Int32).toInt = 3 := by decide
  rw [← Int32.toInt_inj, ← Int32.toInt_inj, ← Int32.toInt_inj, ← Int32.toInt_inj]
  omega
theorem own_nn {x y : Int32} {xn yn : Nat} (hx : x.toInt = (xn : Int)) (hy : y.toInt = (yn : Int)) (h : ¬ y = x) : yn ≠ xn := fun e => h (Int32.toInt_inj.mp (by rw [hx, hy, e]))
theorem own_clr1 (a : Int32) : upd (upd (fun _ => 0) a 1) a 0 = fun _ => 0 := by
  funext i
  by_cases h1 : i = a <;> simp [upd, h1]
theorem own_clr2 (a b : Int32) : upd (upd (upd (upd (fun _ => 0) a 1) b 1) a 0) b 0 = fun _ => 0 := by
  funext i
  by_cases h1 : i = a <;> by_cases h2 : i = b <;> simp [upd, h1, h2]
theorem own_clr3 (a b c : Int32) : upd (upd (upd (upd (upd (upd (fun _ => 0) a 1) b 1) c 1) a 0) b 0) c 0 = fun _ => 0 := by
  funext i
  by_cases h1 : i = a <;> by_cases h2 : i = b <;> by_cases h3 : i = c <;> simp [upd, h1, h2, h3]
def own_law_116 (l0 : Int32) (l1 : Int32) (l2 : Int32) (l3 : Int32) (l4 : Int32) (l5 : Int32) (l6 : Int32) (l7 : Int32) (l8 : Int32) (l9 : Int32) (l10 : Int32) (l11 : Int32 → Int32) : Int32 := (if l10 = (0 : Int32) then (if (own_has ((upd (fun _ => 0) l10 1) (0 : Int32))) = (1 : Int32) then (if l10 = (1 : Int32) then (if (own_has ((upd (fun _ => 0) l10 1) (1 : Int32))) = (1 : Int32) then (if l10 = (2 : Int32) then (if (own_has ((upd (fun _ => 0) l10 1) (2 : Int32))) = (1 : Int32) then (1 : Int32) else (0 : Int32)) else (if (own_has ((upd (fun _ => 0) l10 1) (2 : Int32))) = (0 : Int32) then (1 : Int32) else (0 : Int32))) else (0 : Int32)) else (if (own_has ((upd (fun _ => 0) l10 1) (1 : Int32))) = (0 : Int32) then (if l10 = (2 : Int32) then (if (own_has ((upd (fun _ => 0) l10 1) (2 : Int32))) = (1 : Int32) then (1 : Int32) else (0 : Int32)) else (if (own_has ((upd (fun _ => 0) l10 1) (2 : Int32))) = (0 : Int32) then (1 : Int32) else (0 : Int32))) else (0 : Int32))) else (0 : Int32)) else (if (own_has ((upd (fun _ => 0) l10 1) (0 : Int32))) = (0 : Int32) then (if l10 = (1 : Int32) then (if (own_has ((upd (fun _ => 0) l10 1) (1 : Int32))) = (1 : Int32) then (if l10 = (2 : Int32) then (if (own_has ((upd (fun _ => 0) l10 1) (2 : Int32))) = (1 : Int32) then (1 : Int32) else (0 : Int32)) else (if (own_has ((upd (fun _ => 0) l10 1) (2 : Int32))) = (0 : Int32) then (1 : Int32) else (0 : Int32))) else (0 : Int32)) else (if (own_has ((upd (fun _ => 0) l10 1) (1 : Int32))) = (0 : Int32) then (if l10 = (2 : Int32) then (if (own_has ((upd (fun _ => 0) l10 1) (2 : Int32))) = (1 : Int32) then (1 : Int32) else (0 : Int32)) else (if (own_has ((upd (fun _ => 0) l10 1) (2 : Int32))) = (0 : Int32) then (1 : Int32) else (0 : Int32))) else (0 : Int32))) else (0 : Int32)))
def own_law_53 (l0 : Int32) (l1 : Int32) (l2 : Int32) (l3 : Int32) (l4 : Int32) (l5 : Int32) (l6 : Int32) (l7 : Int32) (l8 : Int32) (l9 : Int32) (l10 : Int32) : Int32 := (if l5 = (0 : Int32) then (if l6 = (0 : Int32) then own_law_116 l0 l1 l2 l3 l4 (0 : Int32) l6 l7 l8 l9 l10 (fun _ => 0) else own_law_116 l0 l1 l2 l3 l4 (0 : Int32) l6 l7 l8 l9 l10 (fun _ => 0)) else (if l5 = (1 : Int32) then (if l6 = (0 : Int32) then own_law_116 l0 l1 l2 l3 l4 (1 : Int32) l6 l7 l8 l9 l10 (upd (fun _ => 0) (0 : Int32) l7) else own_law_116 l0 l1 l2 l3 l4 (1 : Int32) l6 l7 l8 l9 l10 (upd (fun _ => 0) (0 : Int32) l7)) else (if l5 = (2 : Int32) then (if l8 = l7 then (if l6 = (0 : Int32) then own_law_116 l0 l1 l2 l3 l4 (2 : Int32) l6 l7 l8 l9 l10 (upd (fun _ => 0) (0 : Int32) l7) else own_law_116 l0 l1 l2 l3 l4 (2 : Int32) l6 l7 l8 l9 l10 (upd (fun _ => 0) (0 : Int32) l7)) else (if l6 = (0 : Int32) then own_law_116 l0 l1 l2 l3 l4 (2 : Int32) l6 l7 l8 l9 l10 (upd (upd (fun _ => 0) (0 : Int32) l7) (1 : Int32) l8) else own_law_116 l0 l1 l2 l3 l4 (2 : Int32) l6 l7 l8 l9 l10 (upd (upd (fun _ => 0) (0 : Int32) l7) (1 : Int32) l8))) else (if l8 = l7 then (if l9 = l7 then (if l6 = (0 : Int32) then own_law_116 l0 l1 l2 l3 l4 (3 : Int32) l6 l7 l8 l9 l10 (upd (fun _ => 0) (0 : Int32) l7) else own_law_116 l0 l1 l2 l3 l4 (3 : Int32) l6 l7 l8 l9 l10 (upd (fun _ => 0) (0 : Int32) l7)) else (if l9 = l8 then (if l6 = (0 : Int32) then own_law_116 l0 l1 l2 l3 l4 (3 : Int32) l6 l7 l8 l9 l10 (upd (fun _ => 0) (0 : Int32) l7) else own_law_116 l0 l1 l2 l3 l4 (3 : Int32) l6 l7 l8 l9 l10 (upd (fun _ => 0) (0 : Int32) l7)) else (if l6 = (0 : Int32) then own_law_116 l0 l1 l2 l3 l4 (3 : Int32) l6 l7 l8 l9 l10 (upd (upd (fun _ => 0) (0 : Int32) l7) (1 : Int32) l9) else own_law_116 l0 l1 l2 l3 l4 (3 : Int32) l6 l7 l8 l9 l10 (upd (upd (fun _ => 0) (0 : Int32) l7) (1 : Int32) l9)))) else (if l9 = l7 then (if l6 = (0 : Int32) then own_law_116 l0 l1 l2 l3 l4 (3 : Int32) l6 l7 l8 l9 l10 (upd (upd (fun _ => 0) (0 : Int32) l7) (1 : Int32) l8) else own_law_116 l0 l1 l2 l3 l4 (3 : Int32) l6 l7 l8 l9 l10 (upd (upd (fun _ => 0) (0 : Int32) l7) (1 : Int32) l8)) else (if l9 = l8 then (if l6 = (0 : Int32) then own_law_116 l0 l1 l2 l3 l4 (3 : Int32) l6 l7 l8 l9 l10 (upd (upd (fun _ => 0) (0 : Int32) l7) (1 : Int32) l8) else own_law_116 l0 l1 l2 l3 l4 (3 : Int32) l6 l7 l8 l9 l10 (upd (upd (fun _ => 0) (0 : Int32) l7) (1 : Int32) l8)) else (if l6 = (0 : Int32) then own_law_116 l0 l1 l2 l3 l4 (3 : Int32) l6 l7 l8 l9 l10 (upd (upd (upd (fun _ => 0) (0 : Int32) l7) (1 : Int32) l8) (2 : Int32) l9) else own_law_116 l0 l1 l2 l3 l4 (3 : Int32) l6 l7 l8 l9 l10 (upd (upd (upd (fun _ => 0) (0 : Int32) l7) (1 : Int32) l8) (2 : Int32) l9))))))))
def own_law (x0 : Int32) (x1 : Int32) (x2 : Int32) (x3 : Int32) (x4 : Int32) : Int32 := (if ((ushr x0 (2 : Int32)) &&& (1 : Int32)) = (0 : Int32) then own_law_53 x0 x1 x2 x3 x4 (x0 &&& (3 : Int32)) (0 : Int32) ((x1 &&& (2147483647 : Int32)) % (3 : Int32)) ((x2 &&& (2147483647 : Int32)) % (3 : Int32)) ((x3 &&& (2147483647 : Int32)) % (3 : Int32)) ((x4 &&& (2147483647 : Int32)) % (3 : Int32)) else own_law_53 x0 x1 x2 x3 x4 (x0 &&& (3 : Int32)) (1 : Int32) ((x1 &&& (2147483647 : Int32)) % (3 : Int32)) ((x2 &&& (2147483647 : Int32)) % (3 : Int32)) ((x3 &&& (2147483647 : Int32)) % (3 : Int32)) ((x4 &&& (2147483647 : Int32)) % (3 : Int32)))
theorem own_pn6 : plainName "com/example/apt_clause/aptclause/body/ObjectSetClearPinLaw" = true := by first | (simp [plainName, overriddenIn]; done) | decide +kernel
set_option maxRecDepth 65536 in
set_option maxHeartbeats 40000000 in
theorem m_0 (l : Launch) (Z : State) (a0 : Array Value) (hw : ∀ d ∈ tables_1, d.before a0 Z = true) (n0 : Nat) (ws : List Jvm.Cond) (x0 : Int32) (x1 : Int32) (x2 : Int32) (x3 : Int32) (x4 : Int32)  :
    Meth l Z a0 ws x code maxLocals ret room_1 24 128 n0 #[.int x0, .int x1, .int x2, .int x3, .int x4] ([] : AHeap) (fun r A' => r = some (.int (own_law x0 x1 x2 x3 x4)) ∧ True) := by
  refine Meth.of (plainFor_of_name own_pn6) (Ls := [.val (.int x0), .val (.int x1), .val (.int x2), .val (.int x3), .val (.int x4), .unset, .unset, .unset, .unset, .unset, .unset, .unset, .unset]) (fun m => by first | (simp [entryFrame, mkF, argsToLocals, Value.category, maxLocals]; done) | rfl) ?_
  intro K G
  have J116 : ∀ (l0 : Int32) (l1 : Int32) (l2 : Int32) (l3 : Int32) (l4 : Int32) (l5 : Int32) (l6 : Int32) (l7 : Int32) (l8 : Int32) (l9 : Int32) (l10 : Int32) (l11 : Int32 → Int32), own_l3 l10 → own_law x0 x1 x2 x3 x4 = own_law_116 l0 l1 l2 l3 l4 l5 l6 l7 l8 l9 l10 l11 → K 116 [.val (.int l0), .val (.int l1), .val (.int l2), .val (.int l3), .val (.int l4), .val (.int l5), .val (.int l6), .val (.int l7), .val (.int l8), .val (.int l9), .val (.int l10), .val (.ref (ad n0 0)), .unset] [] ([.inl ("com/example/apt_clause/aptclause/body/ObjectSet", [("runStarts", "[I", .ref (ad n0 1)), ("runEnds", "[I", .ref (ad n0 2)), ("restName", "I", .int (-1 : Int32)), ("rest", "[I", .ref (ad n0 3)), ("repeats", "[I", .ref (ad n0 4)), ("held", "[Z", .ref (ad n0 5)), ("objects", "[I", .ref (ad n0 6)), ("size", "I", .int (0 : Int32)), ("runPairs", "Lcom/example/apt_clause/aptclause/graph/Pairs;", .null), ("runCount", "I", .int (0 : Int32)), ("restListed", "Z", .int (0 : Int32)), ("restLength", "I", .int (0 : Int32)), ("repeatCount", "I", .int (0 : Int32)), ("marks", "[I", .null), ("listing", "I", .int (0 : Int32))]), .inr (.int, [.int (0 : Int32)]), .inr (.int, [.int (0 : Int32)]), .inr (.int, []), .inr (.int, []), (.inr (.boolean, arrF 3 (fun _ => 0))), (.inr (.int, arrF 3 l11))] : AHeap) 7 34 := by
    intro l0 l1 l2 l3 l4 l5 l6 l7 l8 l9 l10 l11 hv he
    obtain ⟨wn, hq, hql⟩ := hv
    have hN : 3 ≤ 8 := by decide
    show K _ _ _ (OCells n0 0 (fun _ => 0) l11 3 []) _ _
    refine G.aload at_116 rfl rfl ?_
    refine G.vcall [] rfl at_118 (hw _ (List.mem_of_getElem? (i := 43) rfl)) (hw _ (List.mem_of_getElem? (i := 44) rfl)) (hw _ (List.mem_of_getElem? (i := 46) rfl)) (hw _ (List.mem_of_getElem? (i := 45) rfl)) (hw _ (List.mem_of_getElem? (i := 3) rfl)) (hw _ (List.mem_of_getElem? (i := 47) rfl)) (by decide) rfl (m_4 l Z a0 hw n0 [] _ _ _ _ _) own_pd2 rfl rfl (Nat.le_of_ble_eq_true rfl) (Nat.le_of_ble_eq_true rfl) (Nat.le_of_ble_eq_true rfl) (Nat.le_of_ble_eq_true rfl) (by rintro _ _ ⟨rfl, rfl⟩; rfl) ?_
    rintro _ _ ⟨rfl, rfl⟩
    refine G.if_ne 153 at_121 (by decide) rfl (fun h121 => absurd h121 (by decide)) (fun _ => ?_)
    refine G.aload at_124 rfl rfl ?_
    refine G.vcall [] rfl at_126 (hw _ (List.mem_of_getElem? (i := 53) rfl)) (hw _ (List.mem_of_getElem? (i := 54) rfl)) (hw _ (List.mem_of_getElem? (i := 56) rfl)) (hw _ (List.mem_of_getElem? (i := 55) rfl)) (hw _ (List.mem_of_getElem? (i := 3) rfl)) (hw _ (List.mem_of_getElem? (i := 57) rfl)) (by decide) rfl (m_6 l Z a0 hw n0 [] _ _ _ _ _ _ _ _ _ _ _ _ _ _ _ _ _ rfl) own_pd2 rfl rfl (Nat.le_of_ble_eq_true rfl) (Nat.le_of_ble_eq_true rfl) (Nat.le_of_ble_eq_true rfl) (Nat.le_of_ble_eq_true rfl) (by rintro _ _ ⟨rfl, rfl⟩; rfl) ?_
    rintro _ _ ⟨rfl, rfl⟩
    refine G.if_ne 153 at_129 (by decide) rfl (fun h129 => absurd h129 (by decide)) (fun _ => ?_)
    refine G.aload at_132 rfl rfl ?_
    refine G.vcall [] rfl at_134 (hw _ (List.mem_of_getElem? (i := 58) rfl)) (hw _ (List.mem_of_getElem? (i := 59) rfl)) (hw _ (List.mem_of_getElem? (i := 61) rfl)) (hw _ (List.mem_of_getElem? (i := 60) rfl)) (hw _ (List.mem_of_getElem? (i := 3) rfl)) (hw _ (List.mem_of_getElem? (i := 62) rfl)) (by decide) rfl (m_7 l Z a0 hw n0 [] _ _ _ _ _ _ _ _ _ _ _ _ _ _ _ _ _ rfl) own_pd2 rfl rfl (Nat.le_of_ble_eq_true rfl) (Nat.le_of_ble_eq_true rfl) (Nat.le_of_ble_eq_true rfl) (Nat.le_of_ble_eq_true rfl) (by rintro _ _ ⟨rfl, rfl⟩; rfl) ?_
    rintro _ _ ⟨rfl, rfl⟩
    refine G.if_ne 153 at_137 (by decide) rfl (fun h137 => absurd h137 (by decide)) (fun _ => ?_)
    refine G.aload at_140 rfl rfl ?_
    refine G.vcall [] rfl at_142 (hw _ (List.mem_of_getElem? (i := 63) rfl)) (hw _ (List.mem_of_getElem? (i := 64) rfl)) (hw _ (List.mem_of_getElem? (i := 66) rfl)) (hw _ (List.mem_of_getElem? (i := 65) rfl)) (hw _ (List.mem_of_getElem? (i := 3) rfl)) (hw _ (List.mem_of_getElem? (i := 67) rfl)) (by decide) rfl (m_8 l Z a0 hw n0 [] _ _ _ _ _ _ _ _ _ _ _ _ _ _ _ _ _ rfl) own_pd2 rfl rfl (Nat.le_of_ble_eq_true rfl) (Nat.le_of_ble_eq_true rfl) (Nat.le_of_ble_eq_true rfl) (Nat.le_of_ble_eq_true rfl) (by rintro _ _ ⟨rfl, rfl⟩; rfl) ?_
    rintro _ _ ⟨rfl, rfl⟩
    refine G.iconst (-1) at_145 rfl ?_
    refine G.icmp_ne 153 at_146 (by decide) rfl (fun h146 => absurd h146 (by decide)) (fun _ => ?_)
    refine G.iconst (1) at_149 rfl ?_
    refine G.goto 154 at_150 (by decide) rfl ?_
    refine G.istore12 at_154 rfl ?_
    refine G.aload at_156 rfl rfl ?_
    refine G.iload at_158 rfl ?_
    refine G.vcall [_] rfl at_160 (hw _ (List.mem_of_getElem? (i := 68) rfl)) (hw _ (List.mem_of_getElem? (i := 69) rfl)) (hw _ (List.mem_of_getElem? (i := 71) rfl)) (hw _ (List.mem_of_getElem? (i := 70) rfl)) (hw _ (List.mem_of_getElem? (i := 3) rfl)) (hw _ (List.mem_of_getElem? (i := 72) rfl)) (by decide) rfl (m_9n l Z a0 hw n0 [] _ _ _ _ _ _ _ hq hql hN (rfl) 0 (by decide) (by decide) (1) (by decide)) own_pd1 rfl rfl (Nat.le_of_ble_eq_true rfl) (Nat.le_of_ble_eq_true rfl) (Nat.le_of_ble_eq_true rfl) (Nat.le_of_ble_eq_true rfl) (by rintro _ _ ⟨rfl, rfl⟩; rfl) ?_
    rintro _ _ ⟨rfl, rfl⟩
    refine G.iload at_163 rfl ?_
    refine G.if_eq 251 at_165 (by decide) rfl (fun h165 => absurd h165 (by decide)) (fun _ => ?_)
    refine G.aload at_168 rfl rfl ?_
    refine G.vcall [] rfl at_170 (hw _ (List.mem_of_getElem? (i := 43) rfl)) (hw _ (List.mem_of_getElem? (i := 44) rfl)) (hw _ (List.mem_of_getElem? (i := 46) rfl)) (hw _ (List.mem_of_getElem? (i := 45) rfl)) (hw _ (List.mem_of_getElem? (i := 3) rfl)) (hw _ (List.mem_of_getElem? (i := 47) rfl)) (by decide) rfl (m_4 l Z a0 hw n0 [] _ _ _ _ _) own_pd2 rfl rfl (Nat.le_of_ble_eq_true rfl) (Nat.le_of_ble_eq_true rfl) (Nat.le_of_ble_eq_true rfl) (Nat.le_of_ble_eq_true rfl) (by rintro _ _ ⟨rfl, rfl⟩; rfl) ?_
    rintro _ _ ⟨rfl, rfl⟩
    refine G.iconst (1) at_173 rfl ?_
    refine G.icmp_ne 251 at_174 (by decide) rfl (fun h174 => absurd h174 (by decide)) (fun _ => ?_)
    refine G.aload at_177 rfl rfl ?_
    refine G.iconst (0) at_179 rfl ?_
    refine G.vcall [_] rfl at_180 (hw _ (List.mem_of_getElem? (i := 73) rfl)) (hw _ (List.mem_of_getElem? (i := 74) rfl)) (hw _ (List.mem_of_getElem? (i := 76) rfl)) (hw _ (List.mem_of_getElem? (i := 75) rfl)) (hw _ (List.mem_of_getElem? (i := 3) rfl)) (hw _ (List.mem_of_getElem? (i := 77) rfl)) (by decide) rfl (m_10_0 l Z a0 hw n0 [] _ _ _ _ _ (by decide)) own_pd3 rfl rfl (Nat.le_of_ble_eq_true rfl) (Nat.le_of_ble_eq_true rfl) (Nat.le_of_ble_eq_true rfl) (Nat.le_of_ble_eq_true rfl) (by rintro _ _ ⟨rfl, rfl⟩; rfl) ?_
    rintro _ _ ⟨rfl, rfl⟩
    show K _ _ (.int l10 :: _) _ _ _
    refine G.iload at_183 rfl ?_
    refine G.icmp_ne 251 at_185 (by decide) rfl (fun h185 => absurd rfl h185) (fun _ => ?_)
    refine G.aload at_188 rfl rfl ?_
    refine G.iconst (0) at_190 rfl ?_
    refine G.vcall [_] rfl at_191 (hw _ (List.mem_of_getElem? (i := 78) rfl)) (hw _ (List.mem_of_getElem? (i := 79) rfl)) (hw _ (List.mem_of_getElem? (i := 81) rfl)) (hw _ (List.mem_of_getElem? (i := 80) rfl)) (hw _ (List.mem_of_getElem? (i := 3) rfl)) (hw _ (List.mem_of_getElem? (i := 82) rfl)) (by decide) rfl (m_11 l Z a0 hw n0 [] _ _ _ _ _ _ 0 (by decide) (by decide)) own_pd4 rfl rfl (Nat.le_of_ble_eq_true rfl) (Nat.le_of_ble_eq_true rfl) (Nat.le_of_ble_eq_true rfl) (Nat.le_of_ble_eq_true rfl) (by rintro _ _ ⟨rfl, rfl⟩; rfl) ?_
    rintro _ _ ⟨rfl, rfl⟩
    refine G.iload at_194 rfl ?_
    refine G.if_ne 203 at_196 (by decide) rfl (fun h196 => ?_) (fun h196 => ?_)
    · replace he := he.trans (if_neg h196)
      refine G.iconst (0) at_203 rfl ?_
      refine G.icmp_ne 251 at_204 (by decide) rfl (fun h204 => ?_) (fun h204 => ?_)
      · replace he := he.trans (if_neg h204)
        refine G.iconst (0) at_251 rfl ?_
        exact G.zreturn rfl at_252 rfl (Nat.le_of_ble_eq_true rfl) (Nat.le_of_ble_eq_true rfl) ⟨congrArg (fun z => some (Value.int z)) he.symm, trivial⟩
      · replace he := he.trans (if_pos h204)
        refine G.aload at_207 rfl rfl ?_
        refine G.iconst (1) at_209 rfl ?_
        refine G.vcall [_] rfl at_210 (hw _ (List.mem_of_getElem? (i := 78) rfl)) (hw _ (List.mem_of_getElem? (i := 79) rfl)) (hw _ (List.mem_of_getElem? (i := 81) rfl)) (hw _ (List.mem_of_getElem? (i := 80) rfl)) (hw _ (List.mem_of_getElem? (i := 3) rfl)) (hw _ (List.mem_of_getElem? (i := 82) rfl)) (by decide) rfl (m_11 l Z a0 hw n0 [] _ _ _ _ _ _ 1 (by decide) (by decide)) own_pd4 rfl rfl (Nat.le_of_ble_eq_true rfl) (Nat.le_of_ble_eq_true rfl) (Nat.le_of_ble_eq_true rfl) (Nat.le_of_ble_eq_true rfl) (by rintro _ _ ⟨rfl, rfl⟩; rfl) ?_
        rintro _ _ ⟨rfl, rfl⟩
        refine G.iload at_213 rfl ?_
        refine G.iconst (1) at_215 rfl ?_
        refine G.icmp_ne 223 at_216 (by decide) rfl (fun h216 => ?_) (fun h216 => ?_)
        · replace he := he.trans (if_neg h216)
          refine G.iconst (0) at_223 rfl ?_
          refine G.icmp_ne 251 at_224 (by decide) rfl (fun h224 => ?_) (fun h224 => ?_)
          · replace he := he.trans (if_neg h224)
            refine G.iconst (0) at_251 rfl ?_
            exact G.zreturn rfl at_252 rfl (Nat.le_of_ble_eq_true rfl) (Nat.le_of_ble_eq_true rfl) ⟨congrArg (fun z => some (Value.int z)) he.symm, trivial⟩
          · replace he := he.trans (if_pos h224)
            refine G.aload at_227 rfl rfl ?_
            refine G.iconst (2) at_229 rfl ?_
            refine G.vcall [_] rfl at_230 (hw _ (List.mem_of_getElem? (i := 78) rfl)) (hw _ (List.mem_of_getElem? (i := 79) rfl)) (hw _ (List.mem_of_getElem? (i := 81) rfl)) (hw _ (List.mem_of_getElem? (i := 80) rfl)) (hw _ (List.mem_of_getElem? (i := 3) rfl)) (hw _ (List.mem_of_getElem? (i := 82) rfl)) (by decide) rfl (m_11 l Z a0 hw n0 [] _ _ _ _ _ _ 2 (by decide) (by decide)) own_pd4 rfl rfl (Nat.le_of_ble_eq_true rfl) (Nat.le_of_ble_eq_true rfl) (Nat.le_of_ble_eq_true rfl) (Nat.le_of_ble_eq_true rfl) (by rintro _ _ ⟨rfl, rfl⟩; rfl) ?_
            rintro _ _ ⟨rfl, rfl⟩
            refine G.iload at_233 rfl ?_
            refine G.iconst (2) at_235 rfl ?_
            refine G.icmp_ne 243 at_236 (by decide) rfl (fun h236 => ?_) (fun h236 => ?_)
            · replace he := he.trans (if_neg h236)
              refine G.iconst (0) at_243 rfl ?_
              refine G.icmp_ne 251 at_244 (by decide) rfl (fun h244 => ?_) (fun h244 => ?_)
              · replace he := he.trans (if_neg h244)
                refine G.iconst (0) at_251 rfl ?_
                exact G.zreturn rfl at_252 rfl (Nat.le_of_ble_eq_true rfl) (Nat.le_of_ble_eq_true rfl) ⟨congrArg (fun z => some (Value.int z)) he.symm, trivial⟩
              · replace he := he.trans (if_pos h244)
                refine G.iconst (1) at_247 rfl ?_
                refine G.goto 252 at_248 (by decide) rfl ?_
                exact G.zreturn rfl at_252 rfl (Nat.le_of_ble_eq_true rfl) (Nat.le_of_ble_eq_true rfl) ⟨congrArg (fun z => some (Value.int z)) he.symm, trivial⟩
            · replace he := he.trans (if_pos h236)
              refine G.iconst (1) at_239 rfl ?_
              refine G.goto 244 at_240 (by decide) rfl ?_
              refine G.icmp_ne 251 at_244 (by decide) rfl (fun h244 => ?_) (fun h244 => ?_)
              · replace he := he.trans (if_neg h244)
                refine G.iconst (0) at_251 rfl ?_
                exact G.zreturn rfl at_252 rfl (Nat.le_of_ble_eq_true rfl) (Nat.le_of_ble_eq_true rfl) ⟨congrArg (fun z => some (Value.int z)) he.symm, trivial⟩
              · replace he := he.trans (if_pos h244)
                refine G.iconst (1) at_247 rfl ?_
                refine G.goto 252 at_248 (by decide) rfl ?_
                exact G.zreturn rfl at_252 rfl (Nat.le_of_ble_eq_true rfl) (Nat.le_of_ble_eq_true rfl) ⟨congrArg (fun z => some (Value.int z)) he.symm, trivial⟩
        · replace he := he.trans (if_pos h216)
          refine G.iconst (1) at_219 rfl ?_
          refine G.goto 224 at_220 (by decide) rfl ?_
          refine G.icmp_ne 251 at_224 (by decide) rfl (fun h224 => ?_) (fun h224 => ?_)
          · replace he := he.trans (if_neg h224)
            refine G.iconst (0) at_251 rfl ?_
            exact G.zreturn rfl at_252 rfl (Nat.le_of_ble_eq_true rfl) (Nat.le_of_ble_eq_true rfl) ⟨congrArg (fun z => some (Value.int z)) he.symm, trivial⟩
          · replace he := he.trans (if_pos h224)
            refine G.aload at_227 rfl rfl ?_
            refine G.iconst (2) at_229 rfl ?_
            refine G.vcall [_] rfl at_230 (hw _ (List.mem_of_getElem? (i := 78) rfl)) (hw _ (List.mem_of_getElem? (i := 79) rfl)) (hw _ (List.mem_of_getElem? (i := 81) rfl)) (hw _ (List.mem_of_getElem? (i := 80) rfl)) (hw _ (List.mem_of_getElem? (i := 3) rfl)) (hw _ (List.mem_of_getElem? (i := 82) rfl)) (by decide) rfl (m_11 l Z a0 hw n0 [] _ _ _ _ _ _ 2 (by decide) (by decide)) own_pd4 rfl rfl (Nat.le_of_ble_eq_true rfl) (Nat.le_of_ble_eq_true rfl) (Nat.le_of_ble_eq_true rfl) (Nat.le_of_ble_eq_true rfl) (by rintro _ _ ⟨rfl, rfl⟩; rfl) ?_
            rintro _ _ ⟨rfl, rfl⟩
            refine G.iload at_233 rfl ?_
            refine G.iconst (2) at_235 rfl ?_
            refine G.icmp_ne 243 at_236 (by decide) rfl (fun h236 => ?_) (fun h236 => ?_)
            · replace he := he.trans (if_neg h236)
              refine G.iconst (0) at_243 rfl ?_
              refine G.icmp_ne 251 at_244 (by decide) rfl (fun h244 => ?_) (fun h244 => ?_)
              · replace he := he.trans (if_neg h244)
                refine G.iconst (0) at_251 rfl ?_
                exact G.zreturn rfl at_252 rfl (Nat.le_of_ble_eq_true rfl) (Nat.le_of_ble_eq_true rfl) ⟨congrArg (fun z => some (Value.int z)) he.symm, trivial⟩
              · replace he := he.trans (if_pos h244)
                refine G.iconst (1) at_247 rfl ?_
                refine G.goto 252 at_248 (by decide) rfl ?_
                exact G.zreturn rfl at_252 rfl (Nat.le_of_ble_eq_true rfl) (Nat.le_of_ble_eq_true rfl) ⟨congrArg (fun z => some (Value.int z)) he.symm, trivial⟩
            · replace he := he.trans (if_pos h236)
              refine G.iconst (1) at_239 rfl ?_
              refine G.goto 244 at_240 (by decide) rfl ?_
              refine G.icmp_ne 251 at_244 (by decide) rfl (fun h244 => ?_) (fun h244 => ?_)
              · replace he := he.trans (if_neg h244)
                refine G.iconst (0) at_251 rfl ?_
                exact G.zreturn rfl at_252 rfl (Nat.le_of_ble_eq_true rfl) (Nat.le_of_ble_eq_true rfl) ⟨congrArg (fun z => some (Value.int z)) he.symm, trivial⟩
              · replace he := he.trans (if_pos h244)
                refine G.iconst (1) at_247 rfl ?_
                refine G.goto 252 at_248 (by decide) rfl ?_
                exact G.zreturn rfl at_252 rfl (Nat.le_of_ble_eq_true rfl) (Nat.le_of_ble_eq_true rfl) ⟨congrArg (fun z => some (Value.int z)) he.symm, trivial⟩
    · replace he := he.trans (if_pos h196)
      refine G.iconst (1) at_199 rfl ?_
      refine G.goto 204 at_200 (by decide) rfl ?_
      refine G.icmp_ne 251 at_204 (by decide) rfl (fun h204 => ?_) (fun h204 => ?_)
      · replace he := he.trans (if_neg h204)
        refine G.iconst (0) at_251 rfl ?_
        exact G.zreturn rfl at_252 rfl (Nat.le_of_ble_eq_true rfl) (Nat.le_of_ble_eq_true rfl) ⟨congrArg (fun z => some (Value.int z)) he.symm, trivial⟩
      · replace he := he.trans (if_pos h204)
        refine G.aload at_207 rfl rfl ?_
        refine G.iconst (1) at_209 rfl ?_
        refine G.vcall [_] rfl at_210 (hw _ (List.mem_of_getElem? (i := 78) rfl)) (hw _ (List.mem_of_getElem? (i := 79) rfl)) (hw _ (List.mem_of_getElem? (i := 81) rfl)) (hw _ (List.mem_of_getElem? (i := 80) rfl)) (hw _ (List.mem_of_getElem? (i := 3) rfl)) (hw _ (List.mem_of_getElem? (i := 82) rfl)) (by decide) rfl (m_11 l Z a0 hw n0 [] _ _ _ _ _ _ 1 (by decide) (by decide)) own_pd4 rfl rfl (Nat.le_of_ble_eq_true rfl) (Nat.le_of_ble_eq_true rfl) (Nat.le_of_ble_eq_true rfl) (Nat.le_of_ble_eq_true rfl) (by rintro _ _ ⟨rfl, rfl⟩; rfl) ?_
        rintro _ _ ⟨rfl, rfl⟩
        refine G.iload at_213 rfl ?_
        refine G.iconst (1) at_215 rfl ?_
        refine G.icmp_ne 223 at_216 (by decide) rfl (fun h216 => ?_) (fun h216 => ?_)
        · replace he := he.trans (if_neg h216)
          refine G.iconst (0) at_223 rfl ?_
          refine G.icmp_ne 251 at_224 (by decide) rfl (fun h224 => ?_) (fun h224 => ?_)
          · replace he := he.trans (if_neg h224)
            refine G.iconst (0) at_251 rfl ?_
            exact G.zreturn rfl at_252 rfl (Nat.le_of_ble_eq_true rfl) (Nat.le_of_ble_eq_true rfl) ⟨congrArg (fun z => some (Value.int z)) he.symm, trivial⟩
          · replace he := he.trans (if_pos h224)
            refine G.aload at_227 rfl rfl ?_
            refine G.iconst (2) at_229 rfl ?_
            refine G.vcall [_] rfl at_230 (hw _ (List.mem_of_getElem? (i := 78) rfl)) (hw _ (List.mem_of_getElem? (i := 79) rfl)) (hw _ (List.mem_of_getElem? (i := 81) rfl)) (hw _ (List.mem_of_getElem? (i := 80) rfl)) (hw _ (List.mem_of_getElem? (i := 3) rfl)) (hw _ (List.mem_of_getElem? (i := 82) rfl)) (by decide) rfl (m_11 l Z a0 hw n0 [] _ _ _ _ _ _ 2 (by decide) (by decide)) own_pd4 rfl rfl (Nat.le_of_ble_eq_true rfl) (Nat.le_of_ble_eq_true rfl) (Nat.le_of_ble_eq_true rfl) (Nat.le_of_ble_eq_true rfl) (by rintro _ _ ⟨rfl, rfl⟩; rfl) ?_
            rintro _ _ ⟨rfl, rfl⟩
            refine G.iload at_233 rfl ?_
            refine G.iconst (2) at_235 rfl ?_
            refine G.icmp_ne 243 at_236 (by decide) rfl (fun h236 => ?_) (fun h236 => ?_)
            · replace he := he.trans (if_neg h236)
              refine G.iconst (0) at_243 rfl ?_
              refine G.icmp_ne 251 at_244 (by decide) rfl (fun h244 => ?_) (fun h244 => ?_)
              · replace he := he.trans (if_neg h244)
                refine G.iconst (0) at_251 rfl ?_
                exact G.zreturn rfl at_252 rfl (Nat.le_of_ble_eq_true rfl) (Nat.le_of_ble_eq_true rfl) ⟨congrArg (fun z => some (Value.int z)) he.symm, trivial⟩
              · replace he := he.trans (if_pos h244)
                refine G.iconst (1) at_247 rfl ?_
                refine G.goto 252 at_248 (by decide) rfl ?_
                exact G.zreturn rfl at_252 rfl (Nat.le_of_ble_eq_true rfl) (Nat.le_of_ble_eq_true rfl) ⟨congrArg (fun z => some (Value.int z)) he.symm, trivial⟩
            · replace he := he.trans (if_pos h236)
              refine G.iconst (1) at_239 rfl ?_
              refine G.goto 244 at_240 (by decide) rfl ?_
              refine G.icmp_ne 251 at_244 (by decide) rfl (fun h244 => ?_) (fun h244 => ?_)
              · replace he := he.trans (if_neg h244)
                refine G.iconst (0) at_251 rfl ?_
                exact G.zreturn rfl at_252 rfl (Nat.le_of_ble_eq_true rfl) (Nat.le_of_ble_eq_true rfl) ⟨congrArg (fun z => some (Value.int z)) he.symm, trivial⟩
              · replace he := he.trans (if_pos h244)
                refine G.iconst (1) at_247 rfl ?_
                refine G.goto 252 at_248 (by decide) rfl ?_
                exact G.zreturn rfl at_252 rfl (Nat.le_of_ble_eq_true rfl) (Nat.le_of_ble_eq_true rfl) ⟨congrArg (fun z => some (Value.int z)) he.symm, trivial⟩
        · replace he := he.trans (if_pos h216)
          refine G.iconst (1) at_219 rfl ?_
          refine G.goto 224 at_220 (by decide) rfl ?_
          refine G.icmp_ne 251 at_224 (by decide) rfl (fun h224 => ?_) (fun h224 => ?_)
          · replace he := he.trans (if_neg h224)
            refine G.iconst (0) at_251 rfl ?_
            exact G.zreturn rfl at_252 rfl (Nat.le_of_ble_eq_true rfl) (Nat.le_of_ble_eq_true rfl) ⟨congrArg (fun z => some (Value.int z)) he.symm, trivial⟩
          · replace he := he.trans (if_pos h224)
            refine G.aload at_227 rfl rfl ?_
            refine G.iconst (2) at_229 rfl ?_
            refine G.vcall [_] rfl at_230 (hw _ (List.mem_of_getElem? (i := 78) rfl)) (hw _ (List.mem_of_getElem? (i := 79) rfl)) (hw _ (List.mem_of_getElem? (i := 81) rfl)) (hw _ (List.mem_of_getElem? (i := 80) rfl)) (hw _ (List.mem_of_getElem? (i := 3) rfl)) (hw _ (List.mem_of_getElem? (i := 82) rfl)) (by decide) rfl (m_11 l Z a0 hw n0 [] _ _ _ _ _ _ 2 (by decide) (by decide)) own_pd4 rfl rfl (Nat.le_of_ble_eq_true rfl) (Nat.le_of_ble_eq_true rfl) (Nat.le_of_ble_eq_true rfl) (Nat.le_of_ble_eq_true rfl) (by rintro _ _ ⟨rfl, rfl⟩; rfl) ?_
            rintro _ _ ⟨rfl, rfl⟩
            refine G.iload at_233 rfl ?_
            refine G.iconst (2) at_235 rfl ?_
            refine G.icmp_ne 243 at_236 (by decide) rfl (fun h236 => ?_) (fun h236 => ?_)
            · replace he := he.trans (if_neg h236)
              refine G.iconst (0) at_243 rfl ?_
              refine G.icmp_ne 251 at_244 (by decide) rfl (fun h244 => ?_) (fun h244 => ?_)
              · replace he := he.trans (if_neg h244)
                refine G.iconst (0) at_251 rfl ?_
                exact G.zreturn rfl at_252 rfl (Nat.le_of_ble_eq_true rfl) (Nat.le_of_ble_eq_true rfl) ⟨congrArg (fun z => some (Value.int z)) he.symm, trivial⟩
              · replace he := he.trans (if_pos h244)
                refine G.iconst (1) at_247 rfl ?_
                refine G.goto 252 at_248 (by decide) rfl ?_
                exact G.zreturn rfl at_252 rfl (Nat.le_of_ble_eq_true rfl) (Nat.le_of_ble_eq_true rfl) ⟨congrArg (fun z => some (Value.int z)) he.symm, trivial⟩
            · replace he := he.trans (if_pos h236)
              refine G.iconst (1) at_239 rfl ?_
              refine G.goto 244 at_240 (by decide) rfl ?_
              refine G.icmp_ne 251 at_244 (by decide) rfl (fun h244 => ?_) (fun h244 => ?_)
              · replace he := he.trans (if_neg h244)
                refine G.iconst (0) at_251 rfl ?_
                exact G.zreturn rfl at_252 rfl (Nat.le_of_ble_eq_true rfl) (Nat.le_of_ble_eq_true rfl) ⟨congrArg (fun z => some (Value.int z)) he.symm, trivial⟩
              · replace he := he.trans (if_pos h244)
                refine G.iconst (1) at_247 rfl ?_
                refine G.goto 252 at_248 (by decide) rfl ?_
                exact G.zreturn rfl at_252 rfl (Nat.le_of_ble_eq_true rfl) (Nat.le_of_ble_eq_true rfl) ⟨congrArg (fun z => some (Value.int z)) he.symm, trivial⟩
  have J53 : ∀ (l0 : Int32) (l1 : Int32) (l2 : Int32) (l3 : Int32) (l4 : Int32) (l5 : Int32) (l6 : Int32) (l7 : Int32) (l8 : Int32) (l9 : Int32) (l10 : Int32), ((l5 = 0 ∨ l5 = 1 ∨ l5 = 2 ∨ l5 = 3) ∧ own_l3 l7 ∧ own_l3 l8 ∧ own_l3 l9 ∧ own_l3 l10) → own_law x0 x1 x2 x3 x4 = own_law_53 l0 l1 l2 l3 l4 l5 l6 l7 l8 l9 l10 → K 53 [.val (.int l0), .val (.int l1), .val (.int l2), .val (.int l3), .val (.int l4), .val (.int l5), .val (.int l6), .val (.int l7), .val (.int l8), .val (.int l9), .val (.int l10), .unset, .unset] [] ([] : AHeap) 0 0 := by
    intro l0 l1 l2 l3 l4 l5 l6 l7 l8 l9 l10 hv he
    obtain ⟨hv, ⟨xn, hx, hxl⟩, ⟨yn, hy, hyl⟩, ⟨zn, hz, hzl⟩, hw4⟩ := hv
    have hN : 3 ≤ 8 := by decide
    have hs5 := hv
    rcases hs5 with rfl | rfl | rfl | rfl
    · replace he := he.trans (if_pos rfl)
      refine G.newo at_53 (hw _ (List.mem_of_getElem? (i := 1) rfl)) (hw _ (List.mem_of_getElem? (i := 2) rfl)) (hw _ (List.mem_of_getElem? (i := 3) rfl)) (own_fo Z a0 hw) (Nat.le_of_ble_eq_true rfl) (Nat.le_of_ble_eq_true rfl) ?_
      try simp only [List.set_cons_zero, List.set_cons_succ, List.length_cons, List.length_nil, List.nil_append, List.cons_append, Nat.zero_add, Nat.reduceAdd]
      refine G.dup at_56 rfl ?_
      refine G.iconst (3) at_57 rfl ?_
      refine G.ncall [_] rfl at_58 rfl (hw _ (List.mem_of_getElem? (i := 4) rfl)) (hw _ (List.mem_of_getElem? (i := 5) rfl)) (hw _ (List.mem_of_getElem? (i := 3) rfl)) (hw _ (List.mem_of_getElem? (i := 6) rfl)) (by decide) (m_1 l Z a0 hw n0 [] _ 3 (by decide) (by decide)) own_pd1 rfl rfl (Nat.le_of_ble_eq_true rfl) (Nat.le_of_ble_eq_true rfl) (Nat.le_of_ble_eq_true rfl) (Nat.le_of_ble_eq_true rfl) (by rintro _ _ ⟨rfl, rfl⟩; rfl) ?_
      rintro _ _ ⟨rfl, rfl⟩
      refine G.astore11 at_61 rfl rfl ?_
      refine G.iload at_63 rfl ?_
      refine G.if_le 75 at_65 (by decide) rfl (fun _ => ?_) (fun h65 => absurd h65 (by decide))
      refine G.iload at_75 rfl ?_
      refine G.iconst (1) at_77 rfl ?_
      refine G.icmp_le 88 at_78 (by decide) rfl (fun _ => ?_) (fun h78 => absurd h78 (by decide))
      refine G.iload at_88 rfl ?_
      refine G.iconst (2) at_90 rfl ?_
      refine G.icmp_le 101 at_91 (by decide) rfl (fun _ => ?_) (fun h91 => absurd h91 (by decide))
      refine G.aload at_101 rfl rfl ?_
      refine G.vcall [] rfl at_103 (hw _ (List.mem_of_getElem? (i := 26) rfl)) (hw _ (List.mem_of_getElem? (i := 27) rfl)) (hw _ (List.mem_of_getElem? (i := 29) rfl)) (hw _ (List.mem_of_getElem? (i := 28) rfl)) (hw _ (List.mem_of_getElem? (i := 3) rfl)) (hw _ (List.mem_of_getElem? (i := 30) rfl)) (by decide) rfl (m_3_0 l Z a0 hw n0 [] _ _ _ _ (by decide)) own_pd0 rfl rfl (Nat.le_of_ble_eq_true rfl) (Nat.le_of_ble_eq_true rfl) (Nat.le_of_ble_eq_true rfl) (Nat.le_of_ble_eq_true rfl) (by rintro _ _ ⟨rfl, rfl⟩; rfl) ?_
      rintro _ _ ⟨rfl, rfl⟩
      refine G.iload at_106 rfl ?_
      refine G.if_eq 116 at_108 (by decide) rfl (fun h108 => ?_) (fun h108 => ?_)
      · replace he := he.trans (if_pos h108)
        exact J116 _ _ _ _ _ _ _ _ _ _ _ _ (hw4) he
      · replace he := he.trans (if_neg h108)
        refine G.aload at_111 rfl rfl ?_
        refine G.vcall [] rfl at_113 (hw _ (List.mem_of_getElem? (i := 26) rfl)) (hw _ (List.mem_of_getElem? (i := 27) rfl)) (hw _ (List.mem_of_getElem? (i := 29) rfl)) (hw _ (List.mem_of_getElem? (i := 28) rfl)) (hw _ (List.mem_of_getElem? (i := 3) rfl)) (hw _ (List.mem_of_getElem? (i := 30) rfl)) (by decide) rfl (m_3_0 l Z a0 hw n0 [] _ _ _ _ (by decide)) own_pd0 rfl rfl (Nat.le_of_ble_eq_true rfl) (Nat.le_of_ble_eq_true rfl) (Nat.le_of_ble_eq_true rfl) (Nat.le_of_ble_eq_true rfl) (by rintro _ _ ⟨rfl, rfl⟩; rfl) ?_
        rintro _ _ ⟨rfl, rfl⟩
        exact J116 _ _ _ _ _ _ _ _ _ _ _ _ (hw4) he
    · replace he := he.trans ((if_neg (by decide)).trans (if_pos rfl))
      refine G.newo at_53 (hw _ (List.mem_of_getElem? (i := 1) rfl)) (hw _ (List.mem_of_getElem? (i := 2) rfl)) (hw _ (List.mem_of_getElem? (i := 3) rfl)) (own_fo Z a0 hw) (Nat.le_of_ble_eq_true rfl) (Nat.le_of_ble_eq_true rfl) ?_
      try simp only [List.set_cons_zero, List.set_cons_succ, List.length_cons, List.length_nil, List.nil_append, List.cons_append, Nat.zero_add, Nat.reduceAdd]
      refine G.dup at_56 rfl ?_
      refine G.iconst (3) at_57 rfl ?_
      refine G.ncall [_] rfl at_58 rfl (hw _ (List.mem_of_getElem? (i := 4) rfl)) (hw _ (List.mem_of_getElem? (i := 5) rfl)) (hw _ (List.mem_of_getElem? (i := 3) rfl)) (hw _ (List.mem_of_getElem? (i := 6) rfl)) (by decide) (m_1 l Z a0 hw n0 [] _ 3 (by decide) (by decide)) own_pd1 rfl rfl (Nat.le_of_ble_eq_true rfl) (Nat.le_of_ble_eq_true rfl) (Nat.le_of_ble_eq_true rfl) (Nat.le_of_ble_eq_true rfl) (by rintro _ _ ⟨rfl, rfl⟩; rfl) ?_
      rintro _ _ ⟨rfl, rfl⟩
      refine G.astore11 at_61 rfl rfl ?_
      refine G.iload at_63 rfl ?_
      refine G.if_le 75 at_65 (by decide) rfl (fun h65 => absurd h65 (by decide)) (fun _ => ?_)
      refine G.aload at_68 rfl rfl ?_
      refine G.iload at_70 rfl ?_
      refine G.vcall [_] rfl at_72 (hw _ (List.mem_of_getElem? (i := 68) rfl)) (hw _ (List.mem_of_getElem? (i := 69) rfl)) (hw _ (List.mem_of_getElem? (i := 71) rfl)) (hw _ (List.mem_of_getElem? (i := 70) rfl)) (hw _ (List.mem_of_getElem? (i := 3) rfl)) (hw _ (List.mem_of_getElem? (i := 72) rfl)) (by decide) rfl (m_9n l Z a0 hw n0 [] _ _ _ _ _ _ _ hx hxl hN (rfl) 0 (by decide) (by decide) (1) (by decide)) own_pd1 rfl rfl (Nat.le_of_ble_eq_true rfl) (Nat.le_of_ble_eq_true rfl) (Nat.le_of_ble_eq_true rfl) (Nat.le_of_ble_eq_true rfl) (by rintro _ _ ⟨rfl, rfl⟩; rfl) ?_
      rintro _ _ ⟨rfl, rfl⟩
      refine G.iload at_75 rfl ?_
      refine G.iconst (1) at_77 rfl ?_
      refine G.icmp_le 88 at_78 (by decide) rfl (fun _ => ?_) (fun h78 => absurd h78 (by decide))
      refine G.iload at_88 rfl ?_
      refine G.iconst (2) at_90 rfl ?_
      refine G.icmp_le 101 at_91 (by decide) rfl (fun _ => ?_) (fun h91 => absurd h91 (by decide))
      refine G.aload at_101 rfl rfl ?_
      refine G.vcall [] rfl at_103 (hw _ (List.mem_of_getElem? (i := 26) rfl)) (hw _ (List.mem_of_getElem? (i := 27) rfl)) (hw _ (List.mem_of_getElem? (i := 29) rfl)) (hw _ (List.mem_of_getElem? (i := 28) rfl)) (hw _ (List.mem_of_getElem? (i := 3) rfl)) (hw _ (List.mem_of_getElem? (i := 30) rfl)) (by decide) rfl (m_3_1 l Z a0 hw n0 [] _ _ _ _ (by decide) _ (show (((upd (fun _ => 0) (0 : Int32) l7)) 0).toInt = _ from hx) hxl (by decide)) own_pd0 rfl rfl (Nat.le_of_ble_eq_true rfl) (Nat.le_of_ble_eq_true rfl) (Nat.le_of_ble_eq_true rfl) (Nat.le_of_ble_eq_true rfl) (by rintro _ _ ⟨rfl, rfl⟩; rfl) ?_
      rintro _ _ ⟨rfl, rfl⟩
      show K _ _ _ (OCells n0 0 (upd (upd (fun _ => 0) l7 1) l7 0) (upd (fun _ => 0) (0 : Int32) l7) 3 []) _ _
      rw [own_clr1]
      refine G.iload at_106 rfl ?_
      refine G.if_eq 116 at_108 (by decide) rfl (fun h108 => ?_) (fun h108 => ?_)
      · replace he := he.trans (if_pos h108)
        exact J116 _ _ _ _ _ _ _ _ _ _ _ _ (hw4) he
      · replace he := he.trans (if_neg h108)
        refine G.aload at_111 rfl rfl ?_
        refine G.vcall [] rfl at_113 (hw _ (List.mem_of_getElem? (i := 26) rfl)) (hw _ (List.mem_of_getElem? (i := 27) rfl)) (hw _ (List.mem_of_getElem? (i := 29) rfl)) (hw _ (List.mem_of_getElem? (i := 28) rfl)) (hw _ (List.mem_of_getElem? (i := 3) rfl)) (hw _ (List.mem_of_getElem? (i := 30) rfl)) (by decide) rfl (m_3_0 l Z a0 hw n0 [] _ _ _ _ (by decide)) own_pd0 rfl rfl (Nat.le_of_ble_eq_true rfl) (Nat.le_of_ble_eq_true rfl) (Nat.le_of_ble_eq_true rfl) (Nat.le_of_ble_eq_true rfl) (by rintro _ _ ⟨rfl, rfl⟩; rfl) ?_
        rintro _ _ ⟨rfl, rfl⟩
        exact J116 _ _ _ _ _ _ _ _ _ _ _ _ (hw4) he
    · replace he := he.trans ((if_neg (by decide)).trans ((if_neg (by decide)).trans (if_pos rfl)))
      refine G.newo at_53 (hw _ (List.mem_of_getElem? (i := 1) rfl)) (hw _ (List.mem_of_getElem? (i := 2) rfl)) (hw _ (List.mem_of_getElem? (i := 3) rfl)) (own_fo Z a0 hw) (Nat.le_of_ble_eq_true rfl) (Nat.le_of_ble_eq_true rfl) ?_
      try simp only [List.set_cons_zero, List.set_cons_succ, List.length_cons, List.length_nil, List.nil_append, List.cons_append, Nat.zero_add, Nat.reduceAdd]
      refine G.dup at_56 rfl ?_
      refine G.iconst (3) at_57 rfl ?_
      refine G.ncall [_] rfl at_58 rfl (hw _ (List.mem_of_getElem? (i := 4) rfl)) (hw _ (List.mem_of_getElem? (i := 5) rfl)) (hw _ (List.mem_of_getElem? (i := 3) rfl)) (hw _ (List.mem_of_getElem? (i := 6) rfl)) (by decide) (m_1 l Z a0 hw n0 [] _ 3 (by decide) (by decide)) own_pd1 rfl rfl (Nat.le_of_ble_eq_true rfl) (Nat.le_of_ble_eq_true rfl) (Nat.le_of_ble_eq_true rfl) (Nat.le_of_ble_eq_true rfl) (by rintro _ _ ⟨rfl, rfl⟩; rfl) ?_
      rintro _ _ ⟨rfl, rfl⟩
      refine G.astore11 at_61 rfl rfl ?_
      refine G.iload at_63 rfl ?_
      refine G.if_le 75 at_65 (by decide) rfl (fun h65 => absurd h65 (by decide)) (fun _ => ?_)
      refine G.aload at_68 rfl rfl ?_
      refine G.iload at_70 rfl ?_
      refine G.vcall [_] rfl at_72 (hw _ (List.mem_of_getElem? (i := 68) rfl)) (hw _ (List.mem_of_getElem? (i := 69) rfl)) (hw _ (List.mem_of_getElem? (i := 71) rfl)) (hw _ (List.mem_of_getElem? (i := 70) rfl)) (hw _ (List.mem_of_getElem? (i := 3) rfl)) (hw _ (List.mem_of_getElem? (i := 72) rfl)) (by decide) rfl (m_9n l Z a0 hw n0 [] _ _ _ _ _ _ _ hx hxl hN (rfl) 0 (by decide) (by decide) (1) (by decide)) own_pd1 rfl rfl (Nat.le_of_ble_eq_true rfl) (Nat.le_of_ble_eq_true rfl) (Nat.le_of_ble_eq_true rfl) (Nat.le_of_ble_eq_true rfl) (by rintro _ _ ⟨rfl, rfl⟩; rfl) ?_
      rintro _ _ ⟨rfl, rfl⟩
      refine G.iload at_75 rfl ?_
      refine G.iconst (1) at_77 rfl ?_
      refine G.icmp_le 88 at_78 (by decide) rfl (fun h78 => absurd h78 (by decide)) (fun _ => ?_)
      refine G.aload at_81 rfl rfl ?_
      refine G.iload at_83 rfl ?_
      by_cases hc85_0 : l8 = l7
      · replace he := he.trans (if_pos hc85_0)
        refine G.vcall [_] rfl at_85 (hw _ (List.mem_of_getElem? (i := 68) rfl)) (hw _ (List.mem_of_getElem? (i := 69) rfl)) (hw _ (List.mem_of_getElem? (i := 71) rfl)) (hw _ (List.mem_of_getElem? (i := 70) rfl)) (hw _ (List.mem_of_getElem? (i := 3) rfl)) (hw _ (List.mem_of_getElem? (i := 72) rfl)) (by decide) rfl (m_9o l Z a0 hw n0 [] _ _ _ _ _ _ _ hy hyl (by simp [upd, hc85_0])) own_pd1 rfl rfl (Nat.le_of_ble_eq_true rfl) (Nat.le_of_ble_eq_true rfl) (Nat.le_of_ble_eq_true rfl) (Nat.le_of_ble_eq_true rfl) (by rintro _ _ ⟨rfl, rfl⟩; rfl) ?_
        rintro _ _ ⟨rfl, rfl⟩
        refine G.iload at_88 rfl ?_
        refine G.iconst (2) at_90 rfl ?_
        refine G.icmp_le 101 at_91 (by decide) rfl (fun _ => ?_) (fun h91 => absurd h91 (by decide))
        refine G.aload at_101 rfl rfl ?_
        refine G.vcall [] rfl at_103 (hw _ (List.mem_of_getElem? (i := 26) rfl)) (hw _ (List.mem_of_getElem? (i := 27) rfl)) (hw _ (List.mem_of_getElem? (i := 29) rfl)) (hw _ (List.mem_of_getElem? (i := 28) rfl)) (hw _ (List.mem_of_getElem? (i := 3) rfl)) (hw _ (List.mem_of_getElem? (i := 30) rfl)) (by decide) rfl (m_3_1 l Z a0 hw n0 [] _ _ _ _ (by decide) _ (show (((upd (fun _ => 0) (0 : Int32) l7)) 0).toInt = _ from hx) hxl (by decide)) own_pd0 rfl rfl (Nat.le_of_ble_eq_true rfl) (Nat.le_of_ble_eq_true rfl) (Nat.le_of_ble_eq_true rfl) (Nat.le_of_ble_eq_true rfl) (by rintro _ _ ⟨rfl, rfl⟩; rfl) ?_
        rintro _ _ ⟨rfl, rfl⟩
        show K _ _ _ (OCells n0 0 (upd (upd (fun _ => 0) l7 1) l7 0) (upd (fun _ => 0) (0 : Int32) l7) 3 []) _ _
        rw [own_clr1]
        refine G.iload at_106 rfl ?_
        refine G.if_eq 116 at_108 (by decide) rfl (fun h108 => ?_) (fun h108 => ?_)
        · replace he := he.trans (if_pos h108)
          exact J116 _ _ _ _ _ _ _ _ _ _ _ _ (hw4) he
        · replace he := he.trans (if_neg h108)
          refine G.aload at_111 rfl rfl ?_
          refine G.vcall [] rfl at_113 (hw _ (List.mem_of_getElem? (i := 26) rfl)) (hw _ (List.mem_of_getElem? (i := 27) rfl)) (hw _ (List.mem_of_getElem? (i := 29) rfl)) (hw _ (List.mem_of_getElem? (i := 28) rfl)) (hw _ (List.mem_of_getElem? (i := 3) rfl)) (hw _ (List.mem_of_getElem? (i := 30) rfl)) (by decide) rfl (m_3_0 l Z a0 hw n0 [] _ _ _ _ (by decide)) own_pd0 rfl rfl (Nat.le_of_ble_eq_true rfl) (Nat.le_of_ble_eq_true rfl) (Nat.le_of_ble_eq_true rfl) (Nat.le_of_ble_eq_true rfl) (by rintro _ _ ⟨rfl, rfl⟩; rfl) ?_
          rintro _ _ ⟨rfl, rfl⟩
          exact J116 _ _ _ _ _ _ _ _ _ _ _ _ (hw4) he
      · replace he := he.trans (if_neg hc85_0)
        refine G.vcall [_] rfl at_85 (hw _ (List.mem_of_getElem? (i := 68) rfl)) (hw _ (List.mem_of_getElem? (i := 69) rfl)) (hw _ (List.mem_of_getElem? (i := 71) rfl)) (hw _ (List.mem_of_getElem? (i := 70) rfl)) (hw _ (List.mem_of_getElem? (i := 3) rfl)) (hw _ (List.mem_of_getElem? (i := 72) rfl)) (by decide) rfl (m_9n l Z a0 hw n0 [] _ _ _ _ _ _ _ hy hyl hN (by simp [upd, hc85_0]) 1 (by decide) (by decide) (2) (by decide)) own_pd1 rfl rfl (Nat.le_of_ble_eq_true rfl) (Nat.le_of_ble_eq_true rfl) (Nat.le_of_ble_eq_true rfl) (Nat.le_of_ble_eq_true rfl) (by rintro _ _ ⟨rfl, rfl⟩; rfl) ?_
        rintro _ _ ⟨rfl, rfl⟩
        refine G.iload at_88 rfl ?_
        refine G.iconst (2) at_90 rfl ?_
        refine G.icmp_le 101 at_91 (by decide) rfl (fun _ => ?_) (fun h91 => absurd h91 (by decide))
        refine G.aload at_101 rfl rfl ?_
        refine G.vcall [] rfl at_103 (hw _ (List.mem_of_getElem? (i := 26) rfl)) (hw _ (List.mem_of_getElem? (i := 27) rfl)) (hw _ (List.mem_of_getElem? (i := 29) rfl)) (hw _ (List.mem_of_getElem? (i := 28) rfl)) (hw _ (List.mem_of_getElem? (i := 3) rfl)) (hw _ (List.mem_of_getElem? (i := 30) rfl)) (by decide) rfl (m_3_2 l Z a0 hw n0 [] _ _ _ _ (by decide) _ (show (((upd (upd (fun _ => 0) (0 : Int32) l7) (1 : Int32) l8)) 0).toInt = _ from hx) hxl (by decide) _ (show (((upd (upd (fun _ => 0) (0 : Int32) l7) (1 : Int32) l8)) 1).toInt = _ from hy) hyl (by decide)) own_pd0 rfl rfl (Nat.le_of_ble_eq_true rfl) (Nat.le_of_ble_eq_true rfl) (Nat.le_of_ble_eq_true rfl) (Nat.le_of_ble_eq_true rfl) (by rintro _ _ ⟨rfl, rfl⟩; rfl) ?_
        rintro _ _ ⟨rfl, rfl⟩
        show K _ _ _ (OCells n0 0 (upd (upd (upd (upd (fun _ => 0) l7 1) l8 1) l7 0) l8 0) (upd (upd (fun _ => 0) (0 : Int32) l7) (1 : Int32) l8) 3 []) _ _
        rw [own_clr2]
        refine G.iload at_106 rfl ?_
        refine G.if_eq 116 at_108 (by decide) rfl (fun h108 => ?_) (fun h108 => ?_)
        · replace he := he.trans (if_pos h108)
          exact J116 _ _ _ _ _ _ _ _ _ _ _ _ (hw4) he
        · replace he := he.trans (if_neg h108)
          refine G.aload at_111 rfl rfl ?_
          refine G.vcall [] rfl at_113 (hw _ (List.mem_of_getElem? (i := 26) rfl)) (hw _ (List.mem_of_getElem? (i := 27) rfl)) (hw _ (List.mem_of_getElem? (i := 29) rfl)) (hw _ (List.mem_of_getElem? (i := 28) rfl)) (hw _ (List.mem_of_getElem? (i := 3) rfl)) (hw _ (List.mem_of_getElem? (i := 30) rfl)) (by decide) rfl (m_3_0 l Z a0 hw n0 [] _ _ _ _ (by decide)) own_pd0 rfl rfl (Nat.le_of_ble_eq_true rfl) (Nat.le_of_ble_eq_true rfl) (Nat.le_of_ble_eq_true rfl) (Nat.le_of_ble_eq_true rfl) (by rintro _ _ ⟨rfl, rfl⟩; rfl) ?_
          rintro _ _ ⟨rfl, rfl⟩
          exact J116 _ _ _ _ _ _ _ _ _ _ _ _ (hw4) he
    · replace he := he.trans ((if_neg (by decide)).trans ((if_neg (by decide)).trans (if_neg (by decide))))
      refine G.newo at_53 (hw _ (List.mem_of_getElem? (i := 1) rfl)) (hw _ (List.mem_of_getElem? (i := 2) rfl)) (hw _ (List.mem_of_getElem? (i := 3) rfl)) (own_fo Z a0 hw) (Nat.le_of_ble_eq_true rfl) (Nat.le_of_ble_eq_true rfl) ?_
      try simp only [List.set_cons_zero, List.set_cons_succ, List.length_cons, List.length_nil, List.nil_append, List.cons_append, Nat.zero_add, Nat.reduceAdd]
      refine G.dup at_56 rfl ?_
      refine G.iconst (3) at_57 rfl ?_
      refine G.ncall [_] rfl at_58 rfl (hw _ (List.mem_of_getElem? (i := 4) rfl)) (hw _ (List.mem_of_getElem? (i := 5) rfl)) (hw _ (List.mem_of_getElem? (i := 3) rfl)) (hw _ (List.mem_of_getElem? (i := 6) rfl)) (by decide) (m_1 l Z a0 hw n0 [] _ 3 (by decide) (by decide)) own_pd1 rfl rfl (Nat.le_of_ble_eq_true rfl) (Nat.le_of_ble_eq_true rfl) (Nat.le_of_ble_eq_true rfl) (Nat.le_of_ble_eq_true rfl) (by rintro _ _ ⟨rfl, rfl⟩; rfl) ?_
      rintro _ _ ⟨rfl, rfl⟩
      refine G.astore11 at_61 rfl rfl ?_
      refine G.iload at_63 rfl ?_
      refine G.if_le 75 at_65 (by decide) rfl (fun h65 => absurd h65 (by decide)) (fun _ => ?_)
      refine G.aload at_68 rfl rfl ?_
      refine G.iload at_70 rfl ?_
      refine G.vcall [_] rfl at_72 (hw _ (List.mem_of_getElem? (i := 68) rfl)) (hw _ (List.mem_of_getElem? (i := 69) rfl)) (hw _ (List.mem_of_getElem? (i := 71) rfl)) (hw _ (List.mem_of_getElem? (i := 70) rfl)) (hw _ (List.mem_of_getElem? (i := 3) rfl)) (hw _ (List.mem_of_getElem? (i := 72) rfl)) (by decide) rfl (m_9n l Z a0 hw n0 [] _ _ _ _ _ _ _ hx hxl hN (rfl) 0 (by decide) (by decide) (1) (by decide)) own_pd1 rfl rfl (Nat.le_of_ble_eq_true rfl) (Nat.le_of_ble_eq_true rfl) (Nat.le_of_ble_eq_true rfl) (Nat.le_of_ble_eq_true rfl) (by rintro _ _ ⟨rfl, rfl⟩; rfl) ?_
      rintro _ _ ⟨rfl, rfl⟩
      refine G.iload at_75 rfl ?_
      refine G.iconst (1) at_77 rfl ?_
      refine G.icmp_le 88 at_78 (by decide) rfl (fun h78 => absurd h78 (by decide)) (fun _ => ?_)
      refine G.aload at_81 rfl rfl ?_
      refine G.iload at_83 rfl ?_
      by_cases hc85_0 : l8 = l7
      · replace he := he.trans (if_pos hc85_0)
        refine G.vcall [_] rfl at_85 (hw _ (List.mem_of_getElem? (i := 68) rfl)) (hw _ (List.mem_of_getElem? (i := 69) rfl)) (hw _ (List.mem_of_getElem? (i := 71) rfl)) (hw _ (List.mem_of_getElem? (i := 70) rfl)) (hw _ (List.mem_of_getElem? (i := 3) rfl)) (hw _ (List.mem_of_getElem? (i := 72) rfl)) (by decide) rfl (m_9o l Z a0 hw n0 [] _ _ _ _ _ _ _ hy hyl (by simp [upd, hc85_0])) own_pd1 rfl rfl (Nat.le_of_ble_eq_true rfl) (Nat.le_of_ble_eq_true rfl) (Nat.le_of_ble_eq_true rfl) (Nat.le_of_ble_eq_true rfl) (by rintro _ _ ⟨rfl, rfl⟩; rfl) ?_
        rintro _ _ ⟨rfl, rfl⟩
        refine G.iload at_88 rfl ?_
        refine G.iconst (2) at_90 rfl ?_
        refine G.icmp_le 101 at_91 (by decide) rfl (fun h91 => absurd h91 (by decide)) (fun _ => ?_)
        refine G.aload at_94 rfl rfl ?_
        refine G.iload at_96 rfl ?_
        by_cases hc98_1 : l9 = l7
        · replace he := he.trans (if_pos hc98_1)
          refine G.vcall [_] rfl at_98 (hw _ (List.mem_of_getElem? (i := 68) rfl)) (hw _ (List.mem_of_getElem? (i := 69) rfl)) (hw _ (List.mem_of_getElem? (i := 71) rfl)) (hw _ (List.mem_of_getElem? (i := 70) rfl)) (hw _ (List.mem_of_getElem? (i := 3) rfl)) (hw _ (List.mem_of_getElem? (i := 72) rfl)) (by decide) rfl (m_9o l Z a0 hw n0 [] _ _ _ _ _ _ _ hz hzl (by simp [upd, hc98_1])) own_pd1 rfl rfl (Nat.le_of_ble_eq_true rfl) (Nat.le_of_ble_eq_true rfl) (Nat.le_of_ble_eq_true rfl) (Nat.le_of_ble_eq_true rfl) (by rintro _ _ ⟨rfl, rfl⟩; rfl) ?_
          rintro _ _ ⟨rfl, rfl⟩
          refine G.aload at_101 rfl rfl ?_
          refine G.vcall [] rfl at_103 (hw _ (List.mem_of_getElem? (i := 26) rfl)) (hw _ (List.mem_of_getElem? (i := 27) rfl)) (hw _ (List.mem_of_getElem? (i := 29) rfl)) (hw _ (List.mem_of_getElem? (i := 28) rfl)) (hw _ (List.mem_of_getElem? (i := 3) rfl)) (hw _ (List.mem_of_getElem? (i := 30) rfl)) (by decide) rfl (m_3_1 l Z a0 hw n0 [] _ _ _ _ (by decide) _ (show (((upd (fun _ => 0) (0 : Int32) l7)) 0).toInt = _ from hx) hxl (by decide)) own_pd0 rfl rfl (Nat.le_of_ble_eq_true rfl) (Nat.le_of_ble_eq_true rfl) (Nat.le_of_ble_eq_true rfl) (Nat.le_of_ble_eq_true rfl) (by rintro _ _ ⟨rfl, rfl⟩; rfl) ?_
          rintro _ _ ⟨rfl, rfl⟩
          show K _ _ _ (OCells n0 0 (upd (upd (fun _ => 0) l7 1) l7 0) (upd (fun _ => 0) (0 : Int32) l7) 3 []) _ _
          rw [own_clr1]
          refine G.iload at_106 rfl ?_
          refine G.if_eq 116 at_108 (by decide) rfl (fun h108 => ?_) (fun h108 => ?_)
          · replace he := he.trans (if_pos h108)
            exact J116 _ _ _ _ _ _ _ _ _ _ _ _ (hw4) he
          · replace he := he.trans (if_neg h108)
            refine G.aload at_111 rfl rfl ?_
            refine G.vcall [] rfl at_113 (hw _ (List.mem_of_getElem? (i := 26) rfl)) (hw _ (List.mem_of_getElem? (i := 27) rfl)) (hw _ (List.mem_of_getElem? (i := 29) rfl)) (hw _ (List.mem_of_getElem? (i := 28) rfl)) (hw _ (List.mem_of_getElem? (i := 3) rfl)) (hw _ (List.mem_of_getElem? (i := 30) rfl)) (by decide) rfl (m_3_0 l Z a0 hw n0 [] _ _ _ _ (by decide)) own_pd0 rfl rfl (Nat.le_of_ble_eq_true rfl) (Nat.le_of_ble_eq_true rfl) (Nat.le_of_ble_eq_true rfl) (Nat.le_of_ble_eq_true rfl) (by rintro _ _ ⟨rfl, rfl⟩; rfl) ?_
            rintro _ _ ⟨rfl, rfl⟩
            exact J116 _ _ _ _ _ _ _ _ _ _ _ _ (hw4) he
        · replace he := he.trans (if_neg hc98_1)
          by_cases hc98_2 : l9 = l8
          · replace he := he.trans (if_pos hc98_2)
            refine G.vcall [_] rfl at_98 (hw _ (List.mem_of_getElem? (i := 68) rfl)) (hw _ (List.mem_of_getElem? (i := 69) rfl)) (hw _ (List.mem_of_getElem? (i := 71) rfl)) (hw _ (List.mem_of_getElem? (i := 70) rfl)) (hw _ (List.mem_of_getElem? (i := 3) rfl)) (hw _ (List.mem_of_getElem? (i := 72) rfl)) (by decide) rfl (m_9o l Z a0 hw n0 [] _ _ _ _ _ _ _ hz hzl (absurd (hc98_2.trans hc85_0) hc98_1)) own_pd1 rfl rfl (Nat.le_of_ble_eq_true rfl) (Nat.le_of_ble_eq_true rfl) (Nat.le_of_ble_eq_true rfl) (Nat.le_of_ble_eq_true rfl) (by rintro _ _ ⟨rfl, rfl⟩; rfl) ?_
            rintro _ _ ⟨rfl, rfl⟩
            refine G.aload at_101 rfl rfl ?_
            refine G.vcall [] rfl at_103 (hw _ (List.mem_of_getElem? (i := 26) rfl)) (hw _ (List.mem_of_getElem? (i := 27) rfl)) (hw _ (List.mem_of_getElem? (i := 29) rfl)) (hw _ (List.mem_of_getElem? (i := 28) rfl)) (hw _ (List.mem_of_getElem? (i := 3) rfl)) (hw _ (List.mem_of_getElem? (i := 30) rfl)) (by decide) rfl (m_3_1 l Z a0 hw n0 [] _ _ _ _ (by decide) _ (show (((upd (fun _ => 0) (0 : Int32) l7)) 0).toInt = _ from hx) hxl (by decide)) own_pd0 rfl rfl (Nat.le_of_ble_eq_true rfl) (Nat.le_of_ble_eq_true rfl) (Nat.le_of_ble_eq_true rfl) (Nat.le_of_ble_eq_true rfl) (by rintro _ _ ⟨rfl, rfl⟩; rfl) ?_
            rintro _ _ ⟨rfl, rfl⟩
            show K _ _ _ (OCells n0 0 (upd (upd (fun _ => 0) l7 1) l7 0) (upd (fun _ => 0) (0 : Int32) l7) 3 []) _ _
            rw [own_clr1]
            refine G.iload at_106 rfl ?_
            refine G.if_eq 116 at_108 (by decide) rfl (fun h108 => ?_) (fun h108 => ?_)
            · replace he := he.trans (if_pos h108)
              exact J116 _ _ _ _ _ _ _ _ _ _ _ _ (hw4) he
            · replace he := he.trans (if_neg h108)
              refine G.aload at_111 rfl rfl ?_
              refine G.vcall [] rfl at_113 (hw _ (List.mem_of_getElem? (i := 26) rfl)) (hw _ (List.mem_of_getElem? (i := 27) rfl)) (hw _ (List.mem_of_getElem? (i := 29) rfl)) (hw _ (List.mem_of_getElem? (i := 28) rfl)) (hw _ (List.mem_of_getElem? (i := 3) rfl)) (hw _ (List.mem_of_getElem? (i := 30) rfl)) (by decide) rfl (m_3_0 l Z a0 hw n0 [] _ _ _ _ (by decide)) own_pd0 rfl rfl (Nat.le_of_ble_eq_true rfl) (Nat.le_of_ble_eq_true rfl) (Nat.le_of_ble_eq_true rfl) (Nat.le_of_ble_eq_true rfl) (by rintro _ _ ⟨rfl, rfl⟩; rfl) ?_
              rintro _ _ ⟨rfl, rfl⟩
              exact J116 _ _ _ _ _ _ _ _ _ _ _ _ (hw4) he
          · replace he := he.trans (if_neg hc98_2)
            refine G.vcall [_] rfl at_98 (hw _ (List.mem_of_getElem? (i := 68) rfl)) (hw _ (List.mem_of_getElem? (i := 69) rfl)) (hw _ (List.mem_of_getElem? (i := 71) rfl)) (hw _ (List.mem_of_getElem? (i := 70) rfl)) (hw _ (List.mem_of_getElem? (i := 3) rfl)) (hw _ (List.mem_of_getElem? (i := 72) rfl)) (by decide) rfl (m_9n l Z a0 hw n0 [] _ _ _ _ _ _ _ hz hzl hN (by simp [upd, hc98_1, hc98_2]) 1 (by decide) (by decide) (2) (by decide)) own_pd1 rfl rfl (Nat.le_of_ble_eq_true rfl) (Nat.le_of_ble_eq_true rfl) (Nat.le_of_ble_eq_true rfl) (Nat.le_of_ble_eq_true rfl) (by rintro _ _ ⟨rfl, rfl⟩; rfl) ?_
            rintro _ _ ⟨rfl, rfl⟩
            refine G.aload at_101 rfl rfl ?_
            refine G.vcall [] rfl at_103 (hw _ (List.mem_of_getElem? (i := 26) rfl)) (hw _ (List.mem_of_getElem? (i := 27) rfl)) (hw _ (List.mem_of_getElem? (i := 29) rfl)) (hw _ (List.mem_of_getElem? (i := 28) rfl)) (hw _ (List.mem_of_getElem? (i := 3) rfl)) (hw _ (List.mem_of_getElem? (i := 30) rfl)) (by decide) rfl (m_3_2 l Z a0 hw n0 [] _ _ _ _ (by decide) _ (show (((upd (upd (fun _ => 0) (0 : Int32) l7) (1 : Int32) l9)) 0).toInt = _ from hx) hxl (by decide) _ (show (((upd (upd (fun _ => 0) (0 : Int32) l7) (1 : Int32) l9)) 1).toInt = _ from hz) hzl (by decide)) own_pd0 rfl rfl (Nat.le_of_ble_eq_true rfl) (Nat.le_of_ble_eq_true rfl) (Nat.le_of_ble_eq_true rfl) (Nat.le_of_ble_eq_true rfl) (by rintro _ _ ⟨rfl, rfl⟩; rfl) ?_
            rintro _ _ ⟨rfl, rfl⟩
            show K _ _ _ (OCells n0 0 (upd (upd (upd (upd (fun _ => 0) l7 1) l9 1) l7 0) l9 0) (upd (upd (fun _ => 0) (0 : Int32) l7) (1 : Int32) l9) 3 []) _ _
            rw [own_clr2]
            refine G.iload at_106 rfl ?_
            refine G.if_eq 116 at_108 (by decide) rfl (fun h108 => ?_) (fun h108 => ?_)
            · replace he := he.trans (if_pos h108)
              exact J116 _ _ _ _ _ _ _ _ _ _ _ _ (hw4) he
            · replace he := he.trans (if_neg h108)
              refine G.aload at_111 rfl rfl ?_
              refine G.vcall [] rfl at_113 (hw _ (List.mem_of_getElem? (i := 26) rfl)) (hw _ (List.mem_of_getElem? (i := 27) rfl)) (hw _ (List.mem_of_getElem? (i := 29) rfl)) (hw _ (List.mem_of_getElem? (i := 28) rfl)) (hw _ (List.mem_of_getElem? (i := 3) rfl)) (hw _ (List.mem_of_getElem? (i := 30) rfl)) (by decide) rfl (m_3_0 l Z a0 hw n0 [] _ _ _ _ (by decide)) own_pd0 rfl rfl (Nat.le_of_ble_eq_true rfl) (Nat.le_of_ble_eq_true rfl) (Nat.le_of_ble_eq_true rfl) (Nat.le_of_ble_eq_true rfl) (by rintro _ _ ⟨rfl, rfl⟩; rfl) ?_
              rintro _ _ ⟨rfl, rfl⟩
              exact J116 _ _ _ _ _ _ _ _ _ _ _ _ (hw4) he
      · replace he := he.trans (if_neg hc85_0)
        refine G.vcall [_] rfl at_85 (hw _ (List.mem_of_getElem? (i := 68) rfl)) (hw _ (List.mem_of_getElem? (i := 69) rfl)) (hw _ (List.mem_of_getElem? (i := 71) rfl)) (hw _ (List.mem_of_getElem? (i := 70) rfl)) (hw _ (List.mem_of_getElem? (i := 3) rfl)) (hw _ (List.mem_of_getElem? (i := 72) rfl)) (by decide) rfl (m_9n l Z a0 hw n0 [] _ _ _ _ _ _ _ hy hyl hN (by simp [upd, hc85_0]) 1 (by decide) (by decide) (2) (by decide)) own_pd1 rfl rfl (Nat.le_of_ble_eq_true rfl) (Nat.le_of_ble_eq_true rfl) (Nat.le_of_ble_eq_true rfl) (Nat.le_of_ble_eq_true rfl) (by rintro _ _ ⟨rfl, rfl⟩; rfl) ?_
        rintro _ _ ⟨rfl, rfl⟩
        refine G.iload at_88 rfl ?_
        refine G.iconst (2) at_90 rfl ?_
        refine G.icmp_le 101 at_91 (by decide) rfl (fun h91 => absurd h91 (by decide)) (fun _ => ?_)
        refine G.aload at_94 rfl rfl ?_
        refine G.iload at_96 rfl ?_
        by_cases hc98_1 : l9 = l7
        · replace he := he.trans (if_pos hc98_1)
          refine G.vcall [_] rfl at_98 (hw _ (List.mem_of_getElem? (i := 68) rfl)) (hw _ (List.mem_of_getElem? (i := 69) rfl)) (hw _ (List.mem_of_getElem? (i := 71) rfl)) (hw _ (List.mem_of_getElem? (i := 70) rfl)) (hw _ (List.mem_of_getElem? (i := 3) rfl)) (hw _ (List.mem_of_getElem? (i := 72) rfl)) (by decide) rfl (m_9o l Z a0 hw n0 [] _ _ _ _ _ _ _ hz hzl (by simp [upd, hc98_1])) own_pd1 rfl rfl (Nat.le_of_ble_eq_true rfl) (Nat.le_of_ble_eq_true rfl) (Nat.le_of_ble_eq_true rfl) (Nat.le_of_ble_eq_true rfl) (by rintro _ _ ⟨rfl, rfl⟩; rfl) ?_
          rintro _ _ ⟨rfl, rfl⟩
          refine G.aload at_101 rfl rfl ?_
          refine G.vcall [] rfl at_103 (hw _ (List.mem_of_getElem? (i := 26) rfl)) (hw _ (List.mem_of_getElem? (i := 27) rfl)) (hw _ (List.mem_of_getElem? (i := 29) rfl)) (hw _ (List.mem_of_getElem? (i := 28) rfl)) (hw _ (List.mem_of_getElem? (i := 3) rfl)) (hw _ (List.mem_of_getElem? (i := 30) rfl)) (by decide) rfl (m_3_2 l Z a0 hw n0 [] _ _ _ _ (by decide) _ (show (((upd (upd (fun _ => 0) (0 : Int32) l7) (1 : Int32) l8)) 0).toInt = _ from hx) hxl (by decide) _ (show (((upd (upd (fun _ => 0) (0 : Int32) l7) (1 : Int32) l8)) 1).toInt = _ from hy) hyl (by decide)) own_pd0 rfl rfl (Nat.le_of_ble_eq_true rfl) (Nat.le_of_ble_eq_true rfl) (Nat.le_of_ble_eq_true rfl) (Nat.le_of_ble_eq_true rfl) (by rintro _ _ ⟨rfl, rfl⟩; rfl) ?_
          rintro _ _ ⟨rfl, rfl⟩
          show K _ _ _ (OCells n0 0 (upd (upd (upd (upd (fun _ => 0) l7 1) l8 1) l7 0) l8 0) (upd (upd (fun _ => 0) (0 : Int32) l7) (1 : Int32) l8) 3 []) _ _
          rw [own_clr2]
          refine G.iload at_106 rfl ?_
          refine G.if_eq 116 at_108 (by decide) rfl (fun h108 => ?_) (fun h108 => ?_)
          · replace he := he.trans (if_pos h108)
            exact J116 _ _ _ _ _ _ _ _ _ _ _ _ (hw4) he
          · replace he := he.trans (if_neg h108)
            refine G.aload at_111 rfl rfl ?_
            refine G.vcall [] rfl at_113 (hw _ (List.mem_of_getElem? (i := 26) rfl)) (hw _ (List.mem_of_getElem? (i := 27) rfl)) (hw _ (List.mem_of_getElem? (i := 29) rfl)) (hw _ (List.mem_of_getElem? (i := 28) rfl)) (hw _ (List.mem_of_getElem? (i := 3) rfl)) (hw _ (List.mem_of_getElem? (i := 30) rfl)) (by decide) rfl (m_3_0 l Z a0 hw n0 [] _ _ _ _ (by decide)) own_pd0 rfl rfl (Nat.le_of_ble_eq_true rfl) (Nat.le_of_ble_eq_true rfl) (Nat.le_of_ble_eq_true rfl) (Nat.le_of_ble_eq_true rfl) (by rintro _ _ ⟨rfl, rfl⟩; rfl) ?_
            rintro _ _ ⟨rfl, rfl⟩
            exact J116 _ _ _ _ _ _ _ _ _ _ _ _ (hw4) he
        · replace he := he.trans (if_neg hc98_1)
          by_cases hc98_2 : l9 = l8
          · replace he := he.trans (if_pos hc98_2)
            refine G.vcall [_] rfl at_98 (hw _ (List.mem_of_getElem? (i := 68) rfl)) (hw _ (List.mem_of_getElem? (i := 69) rfl)) (hw _ (List.mem_of_getElem? (i := 71) rfl)) (hw _ (List.mem_of_getElem? (i := 70) rfl)) (hw _ (List.mem_of_getElem? (i := 3) rfl)) (hw _ (List.mem_of_getElem? (i := 72) rfl)) (by decide) rfl (m_9o l Z a0 hw n0 [] _ _ _ _ _ _ _ hz hzl (by simp [upd, hc98_2])) own_pd1 rfl rfl (Nat.le_of_ble_eq_true rfl) (Nat.le_of_ble_eq_true rfl) (Nat.le_of_ble_eq_true rfl) (Nat.le_of_ble_eq_true rfl) (by rintro _ _ ⟨rfl, rfl⟩; rfl) ?_
            rintro _ _ ⟨rfl, rfl⟩
            refine G.aload at_101 rfl rfl ?_
            refine G.vcall [] rfl at_103 (hw _ (List.mem_of_getElem? (i := 26) rfl)) (hw _ (List.mem_of_getElem? (i := 27) rfl)) (hw _ (List.mem_of_getElem? (i := 29) rfl)) (hw _ (List.mem_of_getElem? (i := 28) rfl)) (hw _ (List.mem_of_getElem? (i := 3) rfl)) (hw _ (List.mem_of_getElem? (i := 30) rfl)) (by decide) rfl (m_3_2 l Z a0 hw n0 [] _ _ _ _ (by decide) _ (show (((upd (upd (fun _ => 0) (0 : Int32) l7) (1 : Int32) l8)) 0).toInt = _ from hx) hxl (by decide) _ (show (((upd (upd (fun _ => 0) (0 : Int32) l7) (1 : Int32) l8)) 1).toInt = _ from hy) hyl (by decide)) own_pd0 rfl rfl (Nat.le_of_ble_eq_true rfl) (Nat.le_of_ble_eq_true rfl) (Nat.le_of_ble_eq_true rfl) (Nat.le_of_ble_eq_true rfl) (by rintro _ _ ⟨rfl, rfl⟩; rfl) ?_
            rintro _ _ ⟨rfl, rfl⟩
            show K _ _ _ (OCells n0 0 (upd (upd (upd (upd (fun _ => 0) l7 1) l8 1) l7 0) l8 0) (upd (upd (fun _ => 0) (0 : Int32) l7) (1 : Int32) l8) 3 []) _ _
            rw [own_clr2]
            refine G.iload at_106 rfl ?_
            refine G.if_eq 116 at_108 (by decide) rfl (fun h108 => ?_) (fun h108 => ?_)
            · replace he := he.trans (if_pos h108)
              exact J116 _ _ _ _ _ _ _ _ _ _ _ _ (hw4) he
            · replace he := he.trans (if_neg h108)
              refine G.aload at_111 rfl rfl ?_
              refine G.vcall [] rfl at_113 (hw _ (List.mem_of_getElem? (i := 26) rfl)) (hw _ (List.mem_of_getElem? (i := 27) rfl)) (hw _ (List.mem_of_getElem? (i := 29) rfl)) (hw _ (List.mem_of_getElem? (i := 28) rfl)) (hw _ (List.mem_of_getElem? (i := 3) rfl)) (hw _ (List.mem_of_getElem? (i := 30) rfl)) (by decide) rfl (m_3_0 l Z a0 hw n0 [] _ _ _ _ (by decide)) own_pd0 rfl rfl (Nat.le_of_ble_eq_true rfl) (Nat.le_of_ble_eq_true rfl) (Nat.le_of_ble_eq_true rfl) (Nat.le_of_ble_eq_true rfl) (by rintro _ _ ⟨rfl, rfl⟩; rfl) ?_
              rintro _ _ ⟨rfl, rfl⟩
              exact J116 _ _ _ _ _ _ _ _ _ _ _ _ (hw4) he
          · replace he := he.trans (if_neg hc98_2)
            refine G.vcall [_] rfl at_98 (hw _ (List.mem_of_getElem? (i := 68) rfl)) (hw _ (List.mem_of_getElem? (i := 69) rfl)) (hw _ (List.mem_of_getElem? (i := 71) rfl)) (hw _ (List.mem_of_getElem? (i := 70) rfl)) (hw _ (List.mem_of_getElem? (i := 3) rfl)) (hw _ (List.mem_of_getElem? (i := 72) rfl)) (by decide) rfl (m_9n l Z a0 hw n0 [] _ _ _ _ _ _ _ hz hzl hN (by simp [upd, hc98_1, hc98_2]) 2 (by decide) (by decide) (3) (by decide)) own_pd1 rfl rfl (Nat.le_of_ble_eq_true rfl) (Nat.le_of_ble_eq_true rfl) (Nat.le_of_ble_eq_true rfl) (Nat.le_of_ble_eq_true rfl) (by rintro _ _ ⟨rfl, rfl⟩; rfl) ?_
            rintro _ _ ⟨rfl, rfl⟩
            refine G.aload at_101 rfl rfl ?_
            refine G.vcall [] rfl at_103 (hw _ (List.mem_of_getElem? (i := 26) rfl)) (hw _ (List.mem_of_getElem? (i := 27) rfl)) (hw _ (List.mem_of_getElem? (i := 29) rfl)) (hw _ (List.mem_of_getElem? (i := 28) rfl)) (hw _ (List.mem_of_getElem? (i := 3) rfl)) (hw _ (List.mem_of_getElem? (i := 30) rfl)) (by decide) rfl (m_3_3 l Z a0 hw n0 [] _ _ _ _ (by decide) _ (show (((upd (upd (upd (fun _ => 0) (0 : Int32) l7) (1 : Int32) l8) (2 : Int32) l9)) 0).toInt = _ from hx) hxl (by decide) _ (show (((upd (upd (upd (fun _ => 0) (0 : Int32) l7) (1 : Int32) l8) (2 : Int32) l9)) 1).toInt = _ from hy) hyl (by decide) _ (show (((upd (upd (upd (fun _ => 0) (0 : Int32) l7) (1 : Int32) l8) (2 : Int32) l9)) 2).toInt = _ from hz) hzl (by decide)) own_pd0 rfl rfl (Nat.le_of_ble_eq_true rfl) (Nat.le_of_ble_eq_true rfl) (Nat.le_of_ble_eq_true rfl) (Nat.le_of_ble_eq_true rfl) (by rintro _ _ ⟨rfl, rfl⟩; rfl) ?_
            rintro _ _ ⟨rfl, rfl⟩
            show K _ _ _ (OCells n0 0 (upd (upd (upd (upd (upd (upd (fun _ => 0) l7 1) l8 1) l9 1) l7 0) l8 0) l9 0) (upd (upd (upd (fun _ => 0) (0 : Int32) l7) (1 : Int32) l8) (2 : Int32) l9) 3 []) _ _
            rw [own_clr3]
            refine G.iload at_106 rfl ?_
            refine G.if_eq 116 at_108 (by decide) rfl (fun h108 => ?_) (fun h108 => ?_)
            · replace he := he.trans (if_pos h108)
              exact J116 _ _ _ _ _ _ _ _ _ _ _ _ (hw4) he
            · replace he := he.trans (if_neg h108)
              refine G.aload at_111 rfl rfl ?_
              refine G.vcall [] rfl at_113 (hw _ (List.mem_of_getElem? (i := 26) rfl)) (hw _ (List.mem_of_getElem? (i := 27) rfl)) (hw _ (List.mem_of_getElem? (i := 29) rfl)) (hw _ (List.mem_of_getElem? (i := 28) rfl)) (hw _ (List.mem_of_getElem? (i := 3) rfl)) (hw _ (List.mem_of_getElem? (i := 30) rfl)) (by decide) rfl (m_3_0 l Z a0 hw n0 [] _ _ _ _ (by decide)) own_pd0 rfl rfl (Nat.le_of_ble_eq_true rfl) (Nat.le_of_ble_eq_true rfl) (Nat.le_of_ble_eq_true rfl) (Nat.le_of_ble_eq_true rfl) (by rintro _ _ ⟨rfl, rfl⟩; rfl) ?_
              rintro _ _ ⟨rfl, rfl⟩
              exact J116 _ _ _ _ _ _ _ _ _ _ _ _ (hw4) he
  have he : own_law x0 x1 x2 x3 x4 = own_law x0 x1 x2 x3 x4 := rfl
  refine G.iloadN at_0 rfl ?_
  refine G.iconst (3) at_1 rfl ?_
  refine G.iand at_2 ?_
  refine G.istore5 at_3 rfl ?_
  refine G.iloadN at_5 rfl ?_
  refine G.iconst (2) at_6 rfl ?_
  refine G.iushr at_7 ?_
  refine G.iconst (1) at_8 rfl ?_
  refine G.iand at_9 ?_
  refine G.if_eq 17 at_10 (by decide) rfl (fun h10 => ?_) (fun h10 => ?_)
  · replace he := he.trans (if_pos h10)
    refine G.iconst (0) at_17 rfl ?_
    refine G.istore6 at_18 rfl ?_
    refine G.iloadN at_20 rfl ?_
    refine G.ldcI at_21 (hw _ (List.mem_of_getElem? (i := 0) rfl)) ?_
    refine G.iand at_23 ?_
    refine G.iconst (3) at_24 rfl ?_
    refine G.irem at_25 (by decide) ?_
    refine G.istore7 at_26 rfl ?_
    refine G.iloadN at_28 rfl ?_
    refine G.ldcI at_29 (hw _ (List.mem_of_getElem? (i := 0) rfl)) ?_
    refine G.iand at_31 ?_
    refine G.iconst (3) at_32 rfl ?_
    refine G.irem at_33 (by decide) ?_
    refine G.istore8 at_34 rfl ?_
    refine G.iloadN at_36 rfl ?_
    refine G.ldcI at_37 (hw _ (List.mem_of_getElem? (i := 0) rfl)) ?_
    refine G.iand at_39 ?_
    refine G.iconst (3) at_40 rfl ?_
    refine G.irem at_41 (by decide) ?_
    refine G.istore9 at_42 rfl ?_
    refine G.iload at_44 rfl ?_
    refine G.ldcI at_46 (hw _ (List.mem_of_getElem? (i := 0) rfl)) ?_
    refine G.iand at_48 ?_
    refine G.iconst (3) at_49 rfl ?_
    refine G.irem at_50 (by decide) ?_
    refine G.istore10 at_51 rfl ?_
    exact J53 _ _ _ _ _ _ _ _ _ _ _ (⟨own_four _, own_l3S _, own_l3S _, own_l3S _, own_l3S _⟩) he
  · replace he := he.trans (if_neg h10)
    refine G.iconst (1) at_13 rfl ?_
    refine G.goto 18 at_14 (by decide) rfl ?_
    refine G.istore6 at_18 rfl ?_
    refine G.iloadN at_20 rfl ?_
    refine G.ldcI at_21 (hw _ (List.mem_of_getElem? (i := 0) rfl)) ?_
    refine G.iand at_23 ?_
    refine G.iconst (3) at_24 rfl ?_
    refine G.irem at_25 (by decide) ?_
    refine G.istore7 at_26 rfl ?_
    refine G.iloadN at_28 rfl ?_
    refine G.ldcI at_29 (hw _ (List.mem_of_getElem? (i := 0) rfl)) ?_
    refine G.iand at_31 ?_
    refine G.iconst (3) at_32 rfl ?_
    refine G.irem at_33 (by decide) ?_
    refine G.istore8 at_34 rfl ?_
    refine G.iloadN at_36 rfl ?_
    refine G.ldcI at_37 (hw _ (List.mem_of_getElem? (i := 0) rfl)) ?_
    refine G.iand at_39 ?_
    refine G.iconst (3) at_40 rfl ?_
    refine G.irem at_41 (by decide) ?_
    refine G.istore9 at_42 rfl ?_
    refine G.iload at_44 rfl ?_
    refine G.ldcI at_46 (hw _ (List.mem_of_getElem? (i := 0) rfl)) ?_
    refine G.iand at_48 ?_
    refine G.iconst (3) at_49 rfl ?_
    refine G.irem at_50 (by decide) ?_
    refine G.istore10 at_51 rfl ?_
    exact J53 _ _ _ _ _ _ _ _ _ _ _ (⟨own_four _, own_l3S _, own_l3S _, own_l3S _, own_l3S _⟩) he
theorem own_116 (l0 l1 l2 l3 l4 l5 l6 l7 l8 l9 l10 : Int32) (g : Int32 → Int32) : own_law_116 l0 l1 l2 l3 l4 l5 l6 l7 l8 l9 l10 g = 1 := by
  unfold own_law_116
  have a1 : ∀ x y v : Int32, upd (fun _ => 0) x v y = if y = x then v else 0 := fun _ _ _ => rfl
  simp only [own_has, a1]
  by_cases h0 : l10 = 0
  · subst h0; decide
  · by_cases h1 : l10 = 1
    · subst h1; decide
    · by_cases h2 : l10 = 2
      · subst h2; decide
      · have g0 : ¬ (0 : Int32) = l10 := fun e => h0 e.symm
        have g1 : ¬ (1 : Int32) = l10 := fun e => h1 e.symm
        have g2 : ¬ (2 : Int32) = l10 := fun e => h2 e.symm
        simp [h0, h1, h2, g0, g1, g2]
theorem own_law_one (a b c d e : Int32) : own_law a b c d e = 1 := by
  unfold own_law own_law_53
  simp only [own_116, ite_self]
set_option maxRecDepth 65536 in
set_option maxHeartbeats 40000000 in
theorem comes_1 {Post : Tables → Env → Array Value → State → Outcome → State → Prop} (hpost : ∀ tb e args s v u, (limb_1_1.after args s (.returned v) u = true ∧ limb_1_2.after args s (.returned v) u = true ∧ True) → FrameEnd s (.returned v) u (Jvm.fieldLocs frame_1_writes args s ++ Jvm.arrayLocs frame_1_arrays args s ++ Jvm.staticLocs frame_1_statics s) 24 128 → Post tb e args s (.returned v) u) :
    ArmFor flags0 classFile x code maxLocals ret World_1 tables_1 room_1 Calls_1 rest_1 Pre_1 Post := by
  intro l hfl _ _ p e ha hc hk s m args below hf hA hF happ hP
  obtain ⟨hcalls, hrest, hpre⟩ := hP
  obtain ⟨-, -, -, hnamed, -, -, -, hat⟩ := (Spec.applies_iff hf).mp happ
  obtain ⟨hg, hn⟩ := and_e (Cond.before_iff.mp (show (Jvm.Cond.and given_1 narrow_1).before args s = true from hpre))
  obtain ⟨hcnt, g0⟩ := and_e hg
  obtain ⟨w0, w1, w2, w3, w4, rfl⟩ : ∃ w0 w1 w2 w3 w4 : Value, args = #[w0, w1, w2, w3, w4] := by
    have hs : args.size = 5 := by simpa [Cond.value, given_1] using hcnt
    obtain ⟨L⟩ := args
    match L, hs with
    | [w0, w1, w2, w3, w4], _ => exact ⟨w0, w1, w2, w3, w4, rfl⟩
  have hw := fun d (hd : d ∈ tables_1) => atoms_spec (ws := Jvm.Cond.code x code maxLocals ret :: tables_1) hat d (List.mem_cons_of_mem _ hd)
  obtain ⟨t0, g1⟩ := and_e g0
  obtain ⟨i0, ei0⟩ := is_v t0
  obtain rfl : w0 = (.int i0) := Option.some.inj ei0
  obtain ⟨t1, g2⟩ := and_e g1
  obtain ⟨i1, ei1⟩ := is_v t1
  obtain rfl : w1 = (.int i1) := Option.some.inj ei1
  obtain ⟨t2, g3⟩ := and_e g2
  obtain ⟨i2, ei2⟩ := is_v t2
  obtain rfl : w2 = (.int i2) := Option.some.inj ei2
  obtain ⟨t3, g4⟩ := and_e g3
  obtain ⟨i3, ei3⟩ := is_v t3
  obtain rfl : w3 = (.int i3) := Option.some.inj ei3
  have t4 := g4
  obtain ⟨i4, ei4⟩ := is_v t4
  obtain rfl : w4 = (.int i4) := Option.some.inj ei4
  obtain ⟨n, o, h1, h2, h3, _, L, rfl, ⟨N, A', ⟨e1, -⟩, -⟩, hq⟩ := (m_0 l s _ hw s.heap.size tables_1 i0 i1 i2 i3 i4 ) s.heap (Rep.nil _ _ _) p e ha hc hk s m _ below hf ((Spec.applies_iff_loose hf).mp happ).1 ⟨rfl, State.Warmed39.refl s, rfl⟩ trivial
  rw [own_law_one] at e1
  subst e1
  refine ⟨n, _, h1, h2, h3, hpost _ _ _ _ _ _ ⟨Cond.after_iff.mpr rfl, Cond.after_iff.mpr (eq_i res_at (Term.int_eval (1)) rfl), trivial⟩ ⟨hq.1, hq.2.1, (hq.2.2.sift fun y hy => Or.inr (N y hy)).mono (by decide) (by decide)⟩⟩
theorem main_1_1 : Claimed_1_1 := comes_1 fun _ _ _ _ _ _ h hF => ⟨h.1, hF⟩
theorem main_1_2 : Claimed_1_2 := comes_1 fun _ _ _ _ _ _ h hF => ⟨h.2.1, hF⟩
end Jvm.Pilot.@@N@@
namespace Jvm.Pilot.@@N@@
open Jvm Jvm.ClassFile Sem Op Lib Jvm.Free Jvm.Stand Jvm.Pilot.@@N@@.Jvm.D
/-! MADE BY PROGRAM (witnessworld.py) out of the Statement's table words and the real class files: 11 classes; the members and pool entries that the words name. The judged class is class 1, her method 1. -/
namespace start1
open Jvm.ClassFile
def u (s : String) : CpInfo := .utf8 (stringToUtf16 s)
/-- a pool by its gaps: so many unusable entries, then the entry; so many at the end -/
def gap : Nat → List CpInfo → List CpInfo
  | 0, r => r
  | n + 1, r => .unusable :: gap n r
def poolList (es : List (Nat × CpInfo)) (last : Nat) : List CpInfo := es.foldr (fun e r => gap e.1 (e.2 :: r)) (gap last [])
def pool (es : List (Nat × CpInfo)) (last : Nat) : Array CpInfo := ⟨poolList es last⟩
def fileOf (pool : Array CpInfo) (this : Nat) (attrs : Array Attribute := #[]) (ms : Array MethodInfo := #[]) (fl : Nat := 33) (sup : Nat := 0) (ifs : Array Nat := #[]) (fds : Array FieldInfo := #[]) : ClassFile where
  minorVersion := 0
  majorVersion := 65
  constantPool := pool
  accessFlags := fl
  thisClass := this
  superClass := sup
  interfaces := ifs
  fields := fds
  methods := ms
  attributes := attrs
def plain (name : String) (sup : Option ClassId) : Class where
  name := name
  kind := .ordinary
  loader := none
  accessFlags := 33
  super := sup
  interfaces := #[]
  cf := none
  fields := #[]
  methods := #[]
  instanceTypes := #[]
  staticTypes := #[]
  resolved := #[]
  callSites := []
  init := .initialized
  statics := none
  mirror := none

def pool0 : Array CpInfo := pool [(5, u "<init>"), (0, u "()V"), (1, .class_ 10), (1, u "java/lang/Object")] 113

def k0c0 : Code := { maxStack := 0, maxLocals := 1, code := object_method_1_code, exceptionTable := #[], attributes := #[] }
def k0m0 : Method := { name := "<init>", desc := "()V", sig := { parameters := [], returnType := none }, accessFlags := 1, code := some k0c0 }
/-- java/lang/Object -/
def k0 : Class := { plain "java/lang/Object" none with
  accessFlags := 33
  interfaces := #[]
  cf := some (fileOf pool0 8 #[] #[{ accessFlags := 1, nameIndex := 5, descriptorIndex := 6, attributes := #[] }] 33 0 #[] #[])
  fields := #[]
  methods := #[k0m0]
  instanceTypes := #[]
  staticTypes := #[]
  resolved := Array.replicate 124 none
  statics := none }

def pool1 : Array CpInfo := pool [(2, .class_ 4), (1, u "java/lang/Object"), (0, u "<init>"), (0, u "()V"), (0, .integer 2147483647), (0, .class_ 9), (0, u "com/example/apt_clause/aptclause/body/ObjectSet"), (0, .methodref 8 11), (0, .nameAndType 5 12), (0, u "(I)V"), (0, .methodref 8 14), (0, .nameAndType 15 12), (0, u "add"), (0, .methodref 8 17), (0, .nameAndType 18 6), (0, u "clear"), (0, .methodref 8 20), (0, .nameAndType 21 22), (0, u "size"), (0, u "()I"), (0, .methodref 8 24), (0, .nameAndType 25 22), (0, u "runCount"), (0, .methodref 8 27), (0, .nameAndType 28 22), (0, u "restLength"), (0, .methodref 8 30), (0, .nameAndType 31 22), (0, u "restName"), (0, .methodref 8 33), (0, .nameAndType 34 35), (0, u "get"), (0, u "(I)I"), (0, .methodref 8 37), (0, .nameAndType 38 39), (0, u "contains"), (0, u "(I)Z"), (0, .class_ 41), (0, u "com/example/apt_clause/aptclause/body/ObjectSetClearPinLaw"), (2, u "law"), (0, u "(IIIII)Z")] 3

def k1m0 : Method := { name := "<init>", desc := "()V", sig := { parameters := [], returnType := none }, accessFlags := 1, code := none }
def k1c1 : Code := { maxStack := 3, maxLocals := 13, code := code, exceptionTable := #[], attributes := #[] }
def k1m1 : Method := { name := "law", desc := "(IIIII)Z", sig := { parameters := [.int, .int, .int, .int, .int], returnType := some .boolean }, accessFlags := 9, code := some k1c1 }
/-- com/example/apt_clause/aptclause/body/ObjectSetClearPinLaw -/
def k1 : Class := { plain "com/example/apt_clause/aptclause/body/ObjectSetClearPinLaw" (some 0) with
  accessFlags := 49
  interfaces := #[]
  cf := some (fileOf pool1 40 #[] #[{ accessFlags := 1, nameIndex := 5, descriptorIndex := 6, attributes := #[] }, { accessFlags := 9, nameIndex := 44, descriptorIndex := 45, attributes := #[] }] 49 2 #[] #[])
  fields := #[]
  methods := #[k1m0, k1m1]
  instanceTypes := #[]
  staticTypes := #[]
  resolved := Array.replicate 49 none
  statics := none }

def pool2 : Array CpInfo := pool [(1, .methodref 2 3), (0, .class_ 4), (0, .nameAndType 5 6), (0, u "java/lang/Object"), (0, u "<init>"), (0, u "()V"), (0, .fieldref 8 9), (0, .class_ 10), (0, .nameAndType 11 12), (0, u "com/example/apt_clause/aptclause/body/ObjectSet"), (0, u "runStarts"), (0, u "[I"), (0, .fieldref 8 14), (0, .nameAndType 15 12), (0, u "runEnds"), (0, .fieldref 8 17), (0, .nameAndType 18 19), (0, u "restName"), (0, u "I"), (0, .fieldref 8 21), (0, .nameAndType 22 12), (0, u "rest"), (0, .fieldref 8 24), (0, .nameAndType 25 12), (0, u "repeats"), (0, .fieldref 8 27), (0, .nameAndType 28 29), (0, u "held"), (0, u "[Z"), (0, .fieldref 8 31), (0, .nameAndType 32 12), (0, u "objects"), (0, .fieldref 8 34), (0, .nameAndType 35 19), (0, u "size"), (0, .fieldref 8 37), (0, .nameAndType 38 39), (0, u "runPairs"), (0, u "Lcom/example/apt_clause/aptclause/graph/Pairs;"), (0, .fieldref 8 41), (0, .nameAndType 42 19), (0, u "runCount"), (0, .fieldref 8 44), (0, .nameAndType 45 46), (0, u "restListed"), (0, u "Z"), (0, .fieldref 8 48), (0, .nameAndType 49 19), (0, u "restLength"), (0, .fieldref 8 51), (0, .nameAndType 52 19), (0, u "repeatCount"), (2, u "otherPairs"), (0, u "J"), (3, .methodref 8 61), (0, .nameAndType 62 63), (0, u "runLength"), (0, u "(I)I"), (11, .methodref 8 76), (0, .nameAndType 77 78), (0, u "inRun"), (0, u "(I)Z"), (0, .methodref 8 80), (0, .nameAndType 81 78), (0, u "inRest"), (0, .fieldref 8 83), (0, .nameAndType 84 12), (0, u "marks"), (0, .fieldref 8 86), (0, .nameAndType 87 19), (0, u "listing"), (38, u "UNNAMED"), (2, u "UNCOUNTED"), (0, u "MARKED_RUN"), (1, u "(I)V"), (3, u "()I"), (0, u "clear"), (4, u "add"), (0, u "contains"), (0, u "get")] 6

def k2c0 : Code := { maxStack := 2, maxLocals := 2, code := prog_2_method_1_code, exceptionTable := #[], attributes := #[] }
def k2m0 : Method := { name := "<init>", desc := "(I)V", sig := { parameters := [.int], returnType := none }, accessFlags := 1, code := some k2c0 }
def k2c1 : Code := { maxStack := 3, maxLocals := 2, code := prog_2_method_3_code, exceptionTable := #[], attributes := #[] }
def k2m1 : Method := { name := "clear", desc := "()V", sig := { parameters := [], returnType := none }, accessFlags := 0, code := some k2c1 }
def k2c2 : Code := { maxStack := 5, maxLocals := 2, code := prog_2_method_7_code, exceptionTable := #[], attributes := #[] }
def k2m2 : Method := { name := "add", desc := "(I)V", sig := { parameters := [.int], returnType := none }, accessFlags := 0, code := some k2c2 }
def k2c3 : Code := { maxStack := 2, maxLocals := 2, code := prog_2_method_8_code, exceptionTable := #[], attributes := #[] }
def k2m3 : Method := { name := "contains", desc := "(I)Z", sig := { parameters := [.int], returnType := some .boolean }, accessFlags := 1, code := some k2c3 }
def k2c4 : Code := { maxStack := 2, maxLocals := 1, code := prog_2_method_9_code, exceptionTable := #[], attributes := #[] }
def k2m4 : Method := { name := "size", desc := "()I", sig := { parameters := [], returnType := some .int }, accessFlags := 1, code := some k2c4 }
def k2c5 : Code := { maxStack := 3, maxLocals := 4, code := prog_2_method_10_code, exceptionTable := #[], attributes := #[] }
def k2m5 : Method := { name := "get", desc := "(I)I", sig := { parameters := [.int], returnType := some .int }, accessFlags := 1, code := some k2c5 }
def k2c6 : Code := { maxStack := 1, maxLocals := 1, code := prog_2_method_11_code, exceptionTable := #[], attributes := #[] }
def k2m6 : Method := { name := "runCount", desc := "()I", sig := { parameters := [], returnType := some .int }, accessFlags := 1, code := some k2c6 }
def k2c7 : Code := { maxStack := 3, maxLocals := 2, code := prog_2_method_13_code, exceptionTable := #[], attributes := #[] }
def k2m7 : Method := { name := "runLength", desc := "(I)I", sig := { parameters := [.int], returnType := some .int }, accessFlags := 1, code := some k2c7 }
def k2c8 : Code := { maxStack := 1, maxLocals := 1, code := prog_2_method_15_code, exceptionTable := #[], attributes := #[] }
def k2m8 : Method := { name := "restLength", desc := "()I", sig := { parameters := [], returnType := some .int }, accessFlags := 1, code := some k2c8 }
def k2c9 : Code := { maxStack := 1, maxLocals := 1, code := prog_2_method_16_code, exceptionTable := #[], attributes := #[] }
def k2m9 : Method := { name := "restName", desc := "()I", sig := { parameters := [], returnType := some .int }, accessFlags := 1, code := some k2c9 }
def k2c10 : Code := { maxStack := 4, maxLocals := 2, code := prog_2_method_19_code, exceptionTable := #[], attributes := #[] }
def k2m10 : Method := { name := "inRun", desc := "(I)Z", sig := { parameters := [.int], returnType := some .boolean }, accessFlags := 2, code := some k2c10 }
def k2c11 : Code := { maxStack := 4, maxLocals := 4, code := prog_2_method_20_code, exceptionTable := #[], attributes := #[] }
def k2m11 : Method := { name := "inRest", desc := "(I)Z", sig := { parameters := [.int], returnType := some .boolean }, accessFlags := 2, code := some k2c11 }
/-- com/example/apt_clause/aptclause/body/ObjectSet -/
def k2 : Class := { plain "com/example/apt_clause/aptclause/body/ObjectSet" (some 0) with
  accessFlags := 49
  interfaces := #[]
  cf := some (fileOf pool2 8 #[] #[{ accessFlags := 1, nameIndex := 5, descriptorIndex := 132, attributes := #[] }, { accessFlags := 0, nameIndex := 137, descriptorIndex := 6, attributes := #[] }, { accessFlags := 0, nameIndex := 142, descriptorIndex := 132, attributes := #[] }, { accessFlags := 1, nameIndex := 143, descriptorIndex := 78, attributes := #[] }, { accessFlags := 1, nameIndex := 35, descriptorIndex := 136, attributes := #[] }, { accessFlags := 1, nameIndex := 144, descriptorIndex := 63, attributes := #[] }, { accessFlags := 1, nameIndex := 42, descriptorIndex := 136, attributes := #[] }, { accessFlags := 1, nameIndex := 62, descriptorIndex := 63, attributes := #[] }, { accessFlags := 1, nameIndex := 49, descriptorIndex := 136, attributes := #[] }, { accessFlags := 1, nameIndex := 18, descriptorIndex := 136, attributes := #[] }, { accessFlags := 2, nameIndex := 77, descriptorIndex := 78, attributes := #[] }, { accessFlags := 2, nameIndex := 81, descriptorIndex := 78, attributes := #[] }] 49 2 #[] #[{ accessFlags := 25, nameIndex := 126, descriptorIndex := 19, attributes := #[] }, { accessFlags := 24, nameIndex := 129, descriptorIndex := 19, attributes := #[] }, { accessFlags := 26, nameIndex := 130, descriptorIndex := 19, attributes := #[] }, { accessFlags := 18, nameIndex := 28, descriptorIndex := 29, attributes := #[] }, { accessFlags := 18, nameIndex := 32, descriptorIndex := 12, attributes := #[] }, { accessFlags := 2, nameIndex := 35, descriptorIndex := 19, attributes := #[] }, { accessFlags := 2, nameIndex := 38, descriptorIndex := 39, attributes := #[] }, { accessFlags := 2, nameIndex := 11, descriptorIndex := 12, attributes := #[] }, { accessFlags := 2, nameIndex := 15, descriptorIndex := 12, attributes := #[] }, { accessFlags := 2, nameIndex := 42, descriptorIndex := 19, attributes := #[] }, { accessFlags := 2, nameIndex := 55, descriptorIndex := 56, attributes := #[] }, { accessFlags := 2, nameIndex := 49, descriptorIndex := 19, attributes := #[] }, { accessFlags := 2, nameIndex := 18, descriptorIndex := 19, attributes := #[] }, { accessFlags := 2, nameIndex := 45, descriptorIndex := 46, attributes := #[] }, { accessFlags := 2, nameIndex := 22, descriptorIndex := 12, attributes := #[] }, { accessFlags := 2, nameIndex := 84, descriptorIndex := 12, attributes := #[] }, { accessFlags := 2, nameIndex := 87, descriptorIndex := 19, attributes := #[] }, { accessFlags := 2, nameIndex := 25, descriptorIndex := 12, attributes := #[] }, { accessFlags := 2, nameIndex := 52, descriptorIndex := 19, attributes := #[] }])
  fields := #[{ name := "UNNAMED", type := .int, accessFlags := 25, slot := 0, constantValue := 0 }, { name := "UNCOUNTED", type := .int, accessFlags := 24, slot := 1, constantValue := 0 }, { name := "MARKED_RUN", type := .int, accessFlags := 26, slot := 2, constantValue := 0 }, { name := "held", type := (.array .boolean), accessFlags := 18, slot := 0, constantValue := 0 }, { name := "objects", type := (.array .int), accessFlags := 18, slot := 1, constantValue := 0 }, { name := "size", type := .int, accessFlags := 2, slot := 2, constantValue := 0 }, { name := "runPairs", type := (.object "com/example/apt_clause/aptclause/graph/Pairs"), accessFlags := 2, slot := 3, constantValue := 0 }, { name := "runStarts", type := (.array .int), accessFlags := 2, slot := 4, constantValue := 0 }, { name := "runEnds", type := (.array .int), accessFlags := 2, slot := 5, constantValue := 0 }, { name := "runCount", type := .int, accessFlags := 2, slot := 6, constantValue := 0 }, { name := "otherPairs", type := .long, accessFlags := 2, slot := 7, constantValue := 0 }, { name := "restLength", type := .int, accessFlags := 2, slot := 8, constantValue := 0 }, { name := "restName", type := .int, accessFlags := 2, slot := 9, constantValue := 0 }, { name := "restListed", type := .boolean, accessFlags := 2, slot := 10, constantValue := 0 }, { name := "rest", type := (.array .int), accessFlags := 2, slot := 11, constantValue := 0 }, { name := "marks", type := (.array .int), accessFlags := 2, slot := 12, constantValue := 0 }, { name := "listing", type := .int, accessFlags := 2, slot := 13, constantValue := 0 }, { name := "repeats", type := (.array .int), accessFlags := 2, slot := 14, constantValue := 0 }, { name := "repeatCount", type := .int, accessFlags := 2, slot := 15, constantValue := 0 }]
  methods := #[k2m0, k2m1, k2m2, k2m3, k2m4, k2m5, k2m6, k2m7, k2m8, k2m9, k2m10, k2m11]
  instanceTypes := #[(.array .boolean), (.array .int), .int, (.object "com/example/apt_clause/aptclause/graph/Pairs"), (.array .int), (.array .int), .int, .long, .int, .int, .boolean, (.array .int), (.array .int), .int, (.array .int), .int]
  staticTypes := #[.int, .int, .int]
  resolved := Array.replicate 151 none
  statics := none }

def pool3 : Array CpInfo := pool [(1, u "java/lang/Cloneable"), (0, .class_ 1), (0, u "java/lang/Object"), (0, .class_ 3)] 3

/-- java/lang/Cloneable -/
def k3 : Class := { plain "java/lang/Cloneable" (some 0) with
  accessFlags := 1537
  interfaces := #[]
  cf := some (fileOf pool3 2 #[] #[] 1537 4 #[] #[])
  fields := #[]
  methods := #[]
  instanceTypes := #[]
  staticTypes := #[]
  resolved := Array.replicate 8 none
  statics := none }

def pool4 : Array CpInfo := pool [(1, u "java/io/Serializable"), (0, .class_ 1), (0, u "java/lang/Object"), (0, .class_ 3)] 3

/-- java/io/Serializable -/
def k4 : Class := { plain "java/io/Serializable" (some 0) with
  accessFlags := 1537
  interfaces := #[]
  cf := some (fileOf pool4 2 #[] #[] 1537 4 #[] #[])
  fields := #[]
  methods := #[]
  instanceTypes := #[]
  staticTypes := #[]
  resolved := Array.replicate 8 none
  statics := none }

/-- the primitive boolean -/
def k5 : Class := { plain "boolean" none with kind := .primitive 'Z', accessFlags := 0x411 }
/-- [Z -/
def k6 : Class := { plain "[Z" (some 0) with kind := .array 5 .boolean, interfaces := #[3, 4], accessFlags := 1041 }

/-- the primitive byte -/
def k7 : Class := { plain "byte" none with kind := .primitive 'B', accessFlags := 0x411 }
/-- [B -/
def k8 : Class := { plain "[B" (some 0) with kind := .array 7 .byte, interfaces := #[3, 4], accessFlags := 1041 }

/-- the primitive int -/
def k9 : Class := { plain "int" none with kind := .primitive 'I', accessFlags := 0x411 }
/-- [I -/
def k10 : Class := { plain "[I" (some 0) with kind := .array 9 .int, interfaces := #[3, 4], accessFlags := 1041 }

def heap : Heap := #[]
def classes : Array Class := #[k0, k1, k2, k3, k4, k5, k6, k7, k8, k9, k10]
def interned : List (Array UInt16 × Addr) := []
def slotsUsed : Nat := 0
def theMethod : MethodId := ⟨1, 1⟩
def args0 : Array Value := #[.int 5, .int 6, .int 7, .int 8, .int 3]
def aboutOver (below : List Frame) : State where
  vm := { classes := classes, interned := interned.toArray }
  heap := heap
  slotsUsed := slotsUsed
  threads := #[{ frames := .invoking theMethod args0 :: below }]
def below0 : List Frame := [.native { method := ⟨0, 0⟩, args := #[] }]
def about1 : State := aboutOver below0
def p0 : Program := .bare "" "" ""
def e0 : Env := launch0.env 0 0 0
theorem w_frames : about1.frames = Frame.invoking theMethod args0 :: below0 := rfl
set_option maxRecDepth 65536 in
theorem w_args : argsFit about1.vm theMethod args0 = true := by decide +kernel
set_option maxRecDepth 65536 in
theorem w_heap : heapFits about1 = true := by decide +kernel
set_option maxRecDepth 65536 in
theorem w_runnable : about1.curStatus? = some .runnable := by decide +kernel
set_option maxRecDepth 65536 in
theorem w_alone : about1.alone = true := by decide +kernel
set_option maxRecDepth 65536 in
theorem w_named : about1.methodNamed? x = some theMethod := by decide +kernel
set_option maxRecDepth 65536 in
theorem w_hears : about1.hears theMethod below0 = true := by decide +kernel
set_option maxRecDepth 65536 in
theorem w_ripe : about1.ripe theMethod args0 below0 = true := by decide +kernel
theorem w_running : about1.status = .running := rfl
set_option maxRecDepth 65536 in
theorem w_room : about1.hasRoom e0.platform room_1 = true :=
  launch0.hasRoom_least _ room_1 (by decide +kernel) (by decide +kernel) (by decide +kernel) (by decide +kernel) (by decide +kernel) (by decide +kernel)
theorem allAtoms_all (ts : List Jvm.Cond) (a : Array Jvm.Value) (st : Jvm.State) : (allAtoms ts).before a st = ts.all (fun c => c.before a st) := by
  induction ts with
  | nil => rfl
  | cons c t ih =>
    show (Jvm.Cond.and c (allAtoms t)).before a st = _
    rw [Jvm.Cond.before_and, ih, List.all_cons]
def words1 : List Jvm.Cond := Jvm.Cond.code x code maxLocals ret :: tables_1
/-- a 'code' word, met by the world's own term for the bytes: nothing is compared byte by byte -/
theorem code_word {y : MethodName} {bytes : ByteArray} {mx : Nat} {rt : Option FieldType} {a : Array Value} {s : State} {m : MethodId} {meth : Method} {c : Code} (h1 : s.methodNamed? y = some m) (h2 : s.vm.method? m = some meth) (h3 : meth.code = some c) (h4 : c.code = bytes)
    (h5 : (c.maxLocals == mx && c.exceptionTable.isEmpty && decide (c.maxStack ≤ mostOperands) && decide (meth.sig.returnType = rt) && !meth.locks && decide (parseMethodDescriptor y.desc = some meth.sig)) = true) : (Jvm.Cond.code y bytes mx rt).before a s = true := by
  simp only [Bool.and_eq_true, beq_iff_eq, Bool.not_eq_true', decide_eq_true_eq] at h5
  obtain ⟨⟨⟨⟨⟨g1, g2⟩, g3⟩, g4⟩, g5⟩, g6⟩ := h5
  simp [Cond.before, Cond.holds, Cond.value, h1, h2, h3, h4, g1, g2, g3, g4, g5, g6]
def isCode : Jvm.Cond → Bool
  | .code _ _ _ _ => true
  | _ => false
theorem all_split {L : List Jvm.Cond} {P : Jvm.Cond → Bool} (h1 : L.all (fun c => isCode c || P c) = true) (h2 : ∀ c ∈ L.filter isCode, P c = true) : L.all P = true := by
  refine List.all_eq_true.mpr fun c hc => ?_
  have h := List.all_eq_true.mp h1 c hc
  rcases Bool.eq_false_or_eq_true (isCode c) with hi | hi
  · exact h2 c (List.mem_filter.mpr ⟨hc, hi⟩)
  · simpa [hi] using h
set_option maxRecDepth 65536 in
theorem w_c0 : (Jvm.Cond.code x code maxLocals ret).before args0 about1 = true := code_word (m := ⟨1, 1⟩) (meth := k1m1) (c := k1c1) (by decide +kernel) rfl rfl rfl (by decide +kernel)
set_option maxRecDepth 65536 in
theorem w_c1 : (Jvm.Cond.code ({ cls := "com/example/apt_clause/aptclause/body/ObjectSet", name := "<init>", desc := "(I)V" } : Jvm.MethodName) prog_2_method_1_code (2 : Nat) (Option.none : Option Jvm.ClassFile.FieldType)).before args0 about1 = true := code_word (m := ⟨2, 0⟩) (meth := k2m0) (c := k2c0) (by decide +kernel) rfl rfl rfl (by decide +kernel)
set_option maxRecDepth 65536 in
theorem w_c2 : (Jvm.Cond.code ({ cls := "java/lang/Object", name := "<init>", desc := "()V" } : Jvm.MethodName) object_method_1_code (1 : Nat) (Option.none : Option Jvm.ClassFile.FieldType)).before args0 about1 = true := code_word (m := ⟨0, 0⟩) (meth := k0m0) (c := k0c0) (by decide +kernel) rfl rfl rfl (by decide +kernel)
set_option maxRecDepth 65536 in
theorem w_c3 : (Jvm.Cond.code ({ cls := "com/example/apt_clause/aptclause/body/ObjectSet", name := "clear", desc := "()V" } : Jvm.MethodName) prog_2_method_3_code (2 : Nat) (Option.none : Option Jvm.ClassFile.FieldType)).before args0 about1 = true := code_word (m := ⟨2, 1⟩) (meth := k2m1) (c := k2c1) (by decide +kernel) rfl rfl rfl (by decide +kernel)
set_option maxRecDepth 65536 in
theorem w_c4 : (Jvm.Cond.code ({ cls := "com/example/apt_clause/aptclause/body/ObjectSet", name := "size", desc := "()I" } : Jvm.MethodName) prog_2_method_9_code (1 : Nat) (Option.some Jvm.ClassFile.FieldType.int)).before args0 about1 = true := code_word (m := ⟨2, 4⟩) (meth := k2m4) (c := k2c4) (by decide +kernel) rfl rfl rfl (by decide +kernel)
set_option maxRecDepth 65536 in
theorem w_c5 : (Jvm.Cond.code ({ cls := "com/example/apt_clause/aptclause/body/ObjectSet", name := "runLength", desc := "(I)I" } : Jvm.MethodName) prog_2_method_13_code (2 : Nat) (Option.some Jvm.ClassFile.FieldType.int)).before args0 about1 = true := code_word (m := ⟨2, 7⟩) (meth := k2m7) (c := k2c7) (by decide +kernel) rfl rfl rfl (by decide +kernel)
set_option maxRecDepth 65536 in
theorem w_c6 : (Jvm.Cond.code ({ cls := "com/example/apt_clause/aptclause/body/ObjectSet", name := "runCount", desc := "()I" } : Jvm.MethodName) prog_2_method_11_code (1 : Nat) (Option.some Jvm.ClassFile.FieldType.int)).before args0 about1 = true := code_word (m := ⟨2, 6⟩) (meth := k2m6) (c := k2c6) (by decide +kernel) rfl rfl rfl (by decide +kernel)
set_option maxRecDepth 65536 in
theorem w_c7 : (Jvm.Cond.code ({ cls := "com/example/apt_clause/aptclause/body/ObjectSet", name := "restLength", desc := "()I" } : Jvm.MethodName) prog_2_method_15_code (1 : Nat) (Option.some Jvm.ClassFile.FieldType.int)).before args0 about1 = true := code_word (m := ⟨2, 8⟩) (meth := k2m8) (c := k2c8) (by decide +kernel) rfl rfl rfl (by decide +kernel)
set_option maxRecDepth 65536 in
theorem w_c8 : (Jvm.Cond.code ({ cls := "com/example/apt_clause/aptclause/body/ObjectSet", name := "restName", desc := "()I" } : Jvm.MethodName) prog_2_method_16_code (1 : Nat) (Option.some Jvm.ClassFile.FieldType.int)).before args0 about1 = true := code_word (m := ⟨2, 9⟩) (meth := k2m9) (c := k2c9) (by decide +kernel) rfl rfl rfl (by decide +kernel)
set_option maxRecDepth 65536 in
theorem w_c9 : (Jvm.Cond.code ({ cls := "com/example/apt_clause/aptclause/body/ObjectSet", name := "add", desc := "(I)V" } : Jvm.MethodName) prog_2_method_7_code (2 : Nat) (Option.none : Option Jvm.ClassFile.FieldType)).before args0 about1 = true := code_word (m := ⟨2, 2⟩) (meth := k2m2) (c := k2c2) (by decide +kernel) rfl rfl rfl (by decide +kernel)
set_option maxRecDepth 65536 in
theorem w_c10 : (Jvm.Cond.code ({ cls := "com/example/apt_clause/aptclause/body/ObjectSet", name := "get", desc := "(I)I" } : Jvm.MethodName) prog_2_method_10_code (4 : Nat) (Option.some Jvm.ClassFile.FieldType.int)).before args0 about1 = true := code_word (m := ⟨2, 5⟩) (meth := k2m5) (c := k2c5) (by decide +kernel) rfl rfl rfl (by decide +kernel)
set_option maxRecDepth 65536 in
theorem w_c11 : (Jvm.Cond.code ({ cls := "com/example/apt_clause/aptclause/body/ObjectSet", name := "contains", desc := "(I)Z" } : Jvm.MethodName) prog_2_method_8_code (2 : Nat) (Option.some Jvm.ClassFile.FieldType.boolean)).before args0 about1 = true := code_word (m := ⟨2, 3⟩) (meth := k2m3) (c := k2c3) (by decide +kernel) rfl rfl rfl (by decide +kernel)
set_option maxRecDepth 65536 in
theorem w_c12 : (Jvm.Cond.code ({ cls := "com/example/apt_clause/aptclause/body/ObjectSet", name := "inRun", desc := "(I)Z" } : Jvm.MethodName) prog_2_method_19_code (2 : Nat) (Option.some Jvm.ClassFile.FieldType.boolean)).before args0 about1 = true := code_word (m := ⟨2, 10⟩) (meth := k2m10) (c := k2c10) (by decide +kernel) rfl rfl rfl (by decide +kernel)
set_option maxRecDepth 65536 in
theorem w_c13 : (Jvm.Cond.code ({ cls := "com/example/apt_clause/aptclause/body/ObjectSet", name := "inRest", desc := "(I)Z" } : Jvm.MethodName) prog_2_method_20_code (4 : Nat) (Option.some Jvm.ClassFile.FieldType.boolean)).before args0 about1 = true := code_word (m := ⟨2, 11⟩) (meth := k2m11) (c := k2c11) (by decide +kernel) rfl rfl rfl (by decide +kernel)
def codes1 : List Jvm.Cond := [Jvm.Cond.code x code maxLocals ret, Jvm.Cond.code ({ cls := "com/example/apt_clause/aptclause/body/ObjectSet", name := "<init>", desc := "(I)V" } : Jvm.MethodName) prog_2_method_1_code (2 : Nat) (Option.none : Option Jvm.ClassFile.FieldType), Jvm.Cond.code ({ cls := "java/lang/Object", name := "<init>", desc := "()V" } : Jvm.MethodName) object_method_1_code (1 : Nat) (Option.none : Option Jvm.ClassFile.FieldType), Jvm.Cond.code ({ cls := "com/example/apt_clause/aptclause/body/ObjectSet", name := "clear", desc := "()V" } : Jvm.MethodName) prog_2_method_3_code (2 : Nat) (Option.none : Option Jvm.ClassFile.FieldType), Jvm.Cond.code ({ cls := "com/example/apt_clause/aptclause/body/ObjectSet", name := "size", desc := "()I" } : Jvm.MethodName) prog_2_method_9_code (1 : Nat) (Option.some Jvm.ClassFile.FieldType.int), Jvm.Cond.code ({ cls := "com/example/apt_clause/aptclause/body/ObjectSet", name := "runLength", desc := "(I)I" } : Jvm.MethodName) prog_2_method_13_code (2 : Nat) (Option.some Jvm.ClassFile.FieldType.int), Jvm.Cond.code ({ cls := "com/example/apt_clause/aptclause/body/ObjectSet", name := "runCount", desc := "()I" } : Jvm.MethodName) prog_2_method_11_code (1 : Nat) (Option.some Jvm.ClassFile.FieldType.int), Jvm.Cond.code ({ cls := "com/example/apt_clause/aptclause/body/ObjectSet", name := "restLength", desc := "()I" } : Jvm.MethodName) prog_2_method_15_code (1 : Nat) (Option.some Jvm.ClassFile.FieldType.int), Jvm.Cond.code ({ cls := "com/example/apt_clause/aptclause/body/ObjectSet", name := "restName", desc := "()I" } : Jvm.MethodName) prog_2_method_16_code (1 : Nat) (Option.some Jvm.ClassFile.FieldType.int), Jvm.Cond.code ({ cls := "com/example/apt_clause/aptclause/body/ObjectSet", name := "add", desc := "(I)V" } : Jvm.MethodName) prog_2_method_7_code (2 : Nat) (Option.none : Option Jvm.ClassFile.FieldType), Jvm.Cond.code ({ cls := "com/example/apt_clause/aptclause/body/ObjectSet", name := "get", desc := "(I)I" } : Jvm.MethodName) prog_2_method_10_code (4 : Nat) (Option.some Jvm.ClassFile.FieldType.int), Jvm.Cond.code ({ cls := "com/example/apt_clause/aptclause/body/ObjectSet", name := "contains", desc := "(I)Z" } : Jvm.MethodName) prog_2_method_8_code (2 : Nat) (Option.some Jvm.ClassFile.FieldType.boolean), Jvm.Cond.code ({ cls := "com/example/apt_clause/aptclause/body/ObjectSet", name := "inRun", desc := "(I)Z" } : Jvm.MethodName) prog_2_method_19_code (2 : Nat) (Option.some Jvm.ClassFile.FieldType.boolean), Jvm.Cond.code ({ cls := "com/example/apt_clause/aptclause/body/ObjectSet", name := "inRest", desc := "(I)Z" } : Jvm.MethodName) prog_2_method_20_code (4 : Nat) (Option.some Jvm.ClassFile.FieldType.boolean)]
set_option maxRecDepth 65536 in
theorem codes_eq : words1.filter isCode = codes1 := rfl
theorem w_codes : ∀ c ∈ words1.filter isCode, c.before args0 about1 = true := by
  rw [codes_eq]
  intro c hc
  simp only [codes1, List.mem_cons, List.not_mem_nil, or_false] at hc
  rcases hc with rfl | rfl | rfl | rfl | rfl | rfl | rfl | rfl | rfl | rfl | rfl | rfl | rfl | rfl
  · exact w_c0
  · exact w_c1
  · exact w_c2
  · exact w_c3
  · exact w_c4
  · exact w_c5
  · exact w_c6
  · exact w_c7
  · exact w_c8
  · exact w_c9
  · exact w_c10
  · exact w_c11
  · exact w_c12
  · exact w_c13
set_option maxRecDepth 65536 in
theorem w_t1 : (words1.take 24).all (fun c => isCode c || c.before args0 about1) = true := by decide +kernel
set_option maxRecDepth 65536 in
theorem w_t2 : ((words1.drop 24).take 24).all (fun c => isCode c || c.before args0 about1) = true := by decide +kernel
set_option maxRecDepth 65536 in
theorem w_t3 : (((words1.drop 24).drop 24).take 24).all (fun c => isCode c || c.before args0 about1) = true := by decide +kernel
set_option maxRecDepth 65536 in
theorem w_t4 : (((words1.drop 24).drop 24).drop 24).all (fun c => isCode c || c.before args0 about1) = true := by decide +kernel
theorem w_tables : (allAtoms (Jvm.Cond.code x code maxLocals ret :: tables_1)).before args0 about1 = true := by
  rw [allAtoms_all]
  show words1.all (fun c => c.before args0 about1) = true
  refine all_split ?_ w_codes
  rw [← List.take_append_drop 24 words1, List.all_append, w_t1, ← List.take_append_drop 24 (words1.drop 24), List.all_append, w_t2, ← List.take_append_drop 24 ((words1.drop 24).drop 24), List.all_append, w_t3, w_t4]
  rfl
set_option maxRecDepth 65536 in
theorem w_case : (Jvm.Cond.and given_1 narrow_1).before args0 about1 = true := by decide +kernel
theorem w_applies : (headSpec (Jvm.Cond.code x code maxLocals ret :: tables_1) room_1).applies x e0.platform about1 = true :=
  (Spec.applies_iff w_frames).mpr ⟨w_running, w_runnable, w_alone, w_named, w_hears, w_ripe, w_room, w_tables⟩
theorem atStart : AtStart classFile x code maxLocals ret World_1 tables_1 room_1 Calls_1 rest_1 Pre_1 launch0 p0 e0 about1 theMethod args0 below0 :=
  ⟨lists_1, trivial, launch0.admits_env _ _ _, launch0.least_env, fairChoices_fair.cas, fairChoices_fair.clock, w_frames, w_args, w_heap, w_applies, trivial, trivial, w_case⟩
end start1
theorem witness_1 : WitnessClaimed_1 := ⟨start1.p0, start1.e0, start1.about1, start1.theMethod, start1.args0, start1.below0, start1.atStart⟩
end Jvm.Pilot.@@N@@
