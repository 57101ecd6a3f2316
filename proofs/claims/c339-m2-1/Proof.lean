import JvmDerived
import JvmDerived.Pilot.@@N@@Statement
import JvmDerived.Pilot.@@N@@Code
set_option linter.unusedVariables false
set_option linter.unusedSimpArgs false
@@BLOCK:NumsL.lean.txt@@
namespace Jvm.Pilot.@@N@@
open Jvm Jvm.ClassFile Sem Op Lib Jvm.Free Jvm.Stand Jvm.LawKit Jvm.RoadKit Bundle Jvm.Pilot.@@N@@.Jvm.D
/-! A small calculus over the library's laws: the cells that the walk itself has made stand in a list (an object: its class and fields; an array: its kind and elements); K pc locals stack cells .. says that the run from there ends as the contract says. -/
abbrev ACell := (String × List (String × String × Value)) ⊕ (FieldType × List Value)
abbrev AHeap := List ACell
def ad (n0 i : Nat) : Addr := n0 + i
theorem ad_le (n0 i : Nat) : n0 ≤ ad n0 i := Nat.le_add_right _ _
theorem ad_ne {n0 i j : Nat} (h : i ≠ j) : ad n0 i ≠ ad n0 j := fun e => h (Nat.add_left_cancel e)
def COk (Z : State) (a0 : Array Value) (h : Heap) (a : Addr) : ACell → Prop
  | .inl (C, fs) => Exa Z h a C ∧ (fs.map Prod.fst).Nodup ∧ ∀ (j : Nat) (n d : String) (v : Value), fs[j]? = some (n, d, v) → Fld Z h a C n d v ∧ Laid Z a0 C C n d ∧ ∃ t, parseFieldDescriptor d = some t
  | .inr (ty, vs) => Exa Z h a ("[" ++ ty.toString) ∧ ∃ c : Cell, Arr Z h a c ty ∧ c.slots = vs.toArray ∧ vs.length < 2147483648 ∧ ∀ v ∈ vs, fits ty v = true
def Rep (Z : State) (a0 : Array Value) (n0 : Nat) (h : Heap) (A : AHeap) : Prop := h.size = n0 + A.length ∧ ∀ (i : Nat) (c : ACell), A[i]? = some c → COk Z a0 h (ad n0 i) c
section Reps
variable {Z : State} {a0 : Array Value} {n0 : Nat} {h h' : Heap} {A : AHeap}
theorem COk.ext {a : Addr} {c : ACell} (E : Ext h h') (H : COk Z a0 h a c) : COk Z a0 h' a c := by
  match c, H with
  | .inl (C, fs), ⟨h1, h2, h3⟩ => exact ⟨h1.ext E, h2, fun j n d v hj => ⟨(h3 j n d v hj).1.ext E, (h3 j n d v hj).2⟩⟩
  | .inr (ty, vs), ⟨h0, c, h1, h2⟩ => exact ⟨h0.ext E, c, h1.ext E, h2⟩
theorem COk.other {a b : Addr} {sl : Nat} {v : Value} {c : ACell} (W : Wr h h' a sl v) (ne : b ≠ a) (H : COk Z a0 h b c) : COk Z a0 h' b c := by
  match c, H with
  | .inl (C, fs), ⟨h1, h2, h3⟩ => exact ⟨h1.wr W, h2, fun j n d v hj => ⟨(h3 j n d v hj).1.other W (Or.inl ne), (h3 j n d v hj).2⟩⟩
  | .inr (ty, vs), ⟨h0, c, h1, h2⟩ => exact ⟨h0.wr W, c, h1.other W ne, h2⟩
theorem Rep.nil (Z : State) (a0 : Array Value) (h : Heap) : Rep Z a0 h.size h [] := ⟨rfl, fun i c hi => by simp at hi⟩
theorem Rep.push {c : ACell} (H : Rep Z a0 n0 h A) (E : Ext h h') (hs : h'.size = h.size + 1) (hc : COk Z a0 h' h.size c) : Rep Z a0 n0 h' (A ++ [c]) := by
  refine ⟨by rw [hs, H.1]; simp [Nat.add_assoc], fun i d hi => ?_⟩
  rcases Nat.lt_or_ge i A.length with q | q
  · rw [List.getElem?_append_left q] at hi
    exact (H.2 i d hi).ext E
  · rw [List.getElem?_append_right q] at hi
    have hz : i - A.length = 0 := by
      rcases Nat.eq_zero_or_pos (i - A.length) with z | z
      · exact z
      · rw [List.getElem?_eq_none (by simp; omega)] at hi; cases hi
    rw [hz] at hi
    cases hi
    have : ad n0 i = h.size := by rw [H.1]; show n0 + i = _; omega
    rw [this]; exact hc
theorem Rep.wr {i : Nat} {sl : Nat} {v : Value} {c : ACell} (H : Rep Z a0 n0 h A) (W : Wr h h' (ad n0 i) sl v) (hc : COk Z a0 h' (ad n0 i) c) : Rep Z a0 n0 h' (A.set i c) := by
  refine ⟨by rw [W.size, H.1]; simp, fun j d hj => ?_⟩
  rw [List.getElem?_set] at hj
  split at hj
  · rename_i e
    subst e
    split at hj
    · cases hj; exact hc
    · cases hj
  · rename_i ne
    exact (H.2 j d hj).other W (ad_ne fun e => ne e.symm)
theorem nodup_at {L : List String} {i j : Nat} {x : String} (hn : L.Nodup) (hi : L[i]? = some x) (hj : L[j]? = some x) : i = j :=
  (List.getElem?_inj (List.getElem?_eq_some_iff.mp hi).1 hn).mp (hi.trans hj.symm)
theorem COk.put {a : Addr} {C n d : String} {v old : Value} {fs : List (String × String × Value)} {j : Nat} (H : COk Z a0 h a (.inl (C, fs))) (hj : fs[j]? = some (n, d, old)) (W : Wr h h' a (Jvm.RoadKit.slotOf Z C n d) v) : COk Z a0 h' a (.inl (C, fs.set j (n, d, v))) := by
  obtain ⟨h1, h2, h3⟩ := H
  have hm : (fs.set j (n, d, v)).map Prod.fst = fs.map Prod.fst := by
    rw [List.map_set]
    obtain ⟨hl, e⟩ := List.getElem?_eq_some_iff.mp hj
    apply List.ext_getElem?
    intro k
    rw [List.getElem?_set]
    split
    · rename_i e2; subst e2; simp [hl, e]
    · rfl
  refine ⟨h1.wr W, by rw [hm]; exact h2, fun k n' d' v' hk => ?_⟩
  rw [List.getElem?_set] at hk
  split at hk
  · rename_i e; subst e
    split at hk
    · cases hk; exact ⟨(h3 j n d old hj).1.same W, (h3 j n d old hj).2⟩
    · cases hk
  · rename_i ne
    have q := h3 k n' d' v' hk
    obtain ⟨q1, q2, t', q3⟩ := q
    obtain ⟨-, p2, t, p3⟩ := h3 j n d old hj
    refine ⟨q1.other W (Or.inr (slot_ne q2 p2 ?_ q3 p3)), q2, t', q3⟩
    intro e
    subst e
    exact ne (nodup_at h2 (i := j) (j := k) (x := n') (by simp [hj]) (by simp [hk]))
theorem COk.store {a : Addr} {ty : FieldType} {vs : List Value} {v : Value} {j : Nat} (H : COk Z a0 h a (.inr (ty, vs))) (hf : fits ty v = true) (W : Wr h h' a j v) : COk Z a0 h' a (.inr (ty, vs.set j v)) := by
  obtain ⟨h0, c, h1, h2, h3, h4⟩ := H
  refine ⟨h0.wr W, _, h1.same W, ?_, by simpa using h3, fun w hw => ?_⟩
  · show c.slots.setIfInBounds j v = _
    rw [h2]; simp
  · rcases List.mem_or_eq_of_mem_set hw with q | rfl
    · exact h4 w q
    · exact hf
def FOk (Z : State) (a0 : Array Value) (C : String) (fs : List (String × String × Value)) : Prop := (fs.map Prod.fst).Nodup ∧ ∀ f ∈ fs, Laid Z a0 C C f.1 f.2.1 ∧ ∃ t, parseFieldDescriptor f.2.1 = some t ∧ defaultValue t = f.2.2
theorem FOk.nil (C : String) : FOk Z a0 C [] := ⟨List.nodup_nil, fun f hf => nomatch hf⟩
theorem FOk.cons {C n d : String} {t : FieldType} {fs : List (String × String × Value)} (H : FOk Z a0 C fs) (L : Laid Z a0 C C n d) (ht : parseFieldDescriptor d = some t) (hn : n ∉ fs.map Prod.fst) : FOk Z a0 C ((n, d, defaultValue t) :: fs) := by
  refine ⟨by simp only [List.map_cons]; exact List.nodup_cons.mpr ⟨hn, H.1⟩, fun f hf => ?_⟩
  rcases List.mem_cons.mp hf with rfl | q
  · exact ⟨L, t, ht, rfl⟩
  · exact H.2 f q
theorem set_at {i : Nat} {c X : ACell} (h : A[i]? = some c) : (A.set i X)[i]? = some X := by
  obtain ⟨hl, -⟩ := List.getElem?_eq_some_iff.mp h
  simp [hl]
theorem set_ne {i j : Nat} {c X : ACell} (ne : i ≠ j) (h : A[j]? = some c) : (A.set i X)[j]? = some c := by
  rw [List.getElem?_set_ne ne]; exact h
end Reps
/-- Java's x >>> y -/
def ushr (x y : Int32) : Int32 := (x.toUInt32 >>> (y &&& 31).toUInt32).toInt32
def ushrL (x : Int64) (y : Int32) : Int64 := (x.toUInt64 >>> (y &&& 0x3f).toInt64.toUInt64).toInt64
abbrev KK := Nat → List Slot → List Value → AHeap → Nat → Nat → Prop
def Gd (l : Launch) (Z : State) (a0 : Array Value) (n0 b : Nat) (R : Room) (cs ss : Nat) (own nm : String) (code : ByteArray) (ml : Nat) (ret : Option FieldType) (Q : Option Value → AHeap → Prop) (K : KK) : Prop :=
  ∃ (p : Program) (e : Env) (s : State) (m : MethodId) (args : Array Value) (below : List Frame) (meth : Method) (c : Code),
    p.tables.exec = Jvm.exec ∧ c.code = code ∧ c.maxLocals = ml ∧ s.vm.findClass own = some m.cls ∧ meth.name = nm ∧ Z.Warmed39 s.vm ∧ meth.sig.returnType = ret ∧ meth.locks = false ∧ s.heap.size = n0 + b ∧
    K = fun pc Ls st A k n => ∀ (T : State) (locs : List Loc), Stand p l e R s m args below meth c T locs k n → Fr n0 locs → A.length = b + k → Rep Z a0 n0 T.heap A →
      ∃ s₂ o, Steps p.tables e below (T.setTop (mkF m pc Ls.toArray st)) s₂ ∧ s₂.status = .running ∧ Ended s₂ below o ∧ ∃ v L, o = .returned v ∧ (Fr n0 L ∧ ∃ A', Q v A' ∧ Rep Z a0 n0 s₂.heap A') ∧ FrameEnd s o s₂ L cs ss
def Meth (l : Launch) (Z : State) (a0 : Array Value) (ws : List Jvm.Cond) (y : MethodName) (bytes : ByteArray) (maxL : Nat) (ret : Option FieldType) (rm : Room) (cs ss : Nat) (n0 : Nat) (as : Array Value) (A : AHeap) (Q : Option Value → AHeap → Prop) : Prop :=
  ∀ h0, Rep Z a0 n0 h0 A → MetFree l y (head1 (Jvm.Cond.code y bytes maxL ret :: ws) rm) (fun a U => a = as ∧ Z.Warmed39 U.vm ∧ U.heap = h0) (fun _ _ _ _ _ => True)
    (fun _ U o U' => ∃ v L, o = .returned v ∧ (Fr n0 L ∧ ∃ A', Q v A' ∧ Rep Z a0 n0 U'.heap A') ∧ FrameEnd U o U' L cs ss)
section Rules
variable {l : Launch} {Z : State} {a0 : Array Value} {n0 b : Nat} {R : Room} {cs ss : Nat} {own nm : String} {code : ByteArray} {ml : Nat} {ret : Option FieldType} {Q : Option Value → AHeap → Prop} {K : KK} {pc pc' : Nat} {Ls Ls' : List Slot} {st st' : List Value} {A A' : AHeap} {k n k' n' : Nat}
theorem Meth.of {ws : List Jvm.Cond} {y : MethodName} {as : Array Value} (hp : plainName y.cls = true) (he : ∀ m : MethodId, entryFrame m as ml = mkF m 0 Ls.toArray []) (body : ∀ K, Gd l Z a0 n0 A.length R cs ss y.cls y.name code ml ret Q K → K 0 Ls [] A 0 0) : Meth l Z a0 ws y code ml ret R cs ss n0 as A Q := by
  intro h0 hR
  refine MetFree.of_bodySF (plainFor_of_name hp) hisR ?_
  intro p e s m args below meth c s₁ Bd hml0 hP hK
  obtain ⟨rfl, hZ, hh⟩ := hP
  have X0 : Stand p l e R s m args below meth c s₁ [] 0 0 := Stand.of_body Bd
  have e0 : s₁.heap = h0 := by rw [← hh, Bd.state]; rfl
  have q := body _ ⟨p, e, s, m, args, below, meth, c, Bd.exec, Bd.bytes, hml0, findClass_of_methodNamed Bd.named, (name_of_methodNamed Bd.named Bd.method).1, hZ, Bd.returns, Bd.notSynchronized, by rw [hh]; exact hR.1, rfl⟩ s₁ [] X0 (Fr.nil n0) rfl (by rw [e0]; exact hR)
  obtain ⟨s₂, o, h1, h2, h3, h4⟩ := q
  exact ⟨s₂, o, castTop (he m) h1, h2, h3, h4⟩
theorem Gd.run1 (G : Gd l Z a0 n0 b R cs ss own nm code ml ret Q K) (hst : ∀ (p : Program) (e : Env) (below : List Frame) (T target : State) (m : MethodId) (c : Code), p.tables.exec = Jvm.exec → c.code = code → At T m c below → Steps p.tables e below (T.setTop (mkF m pc' Ls'.toArray st')) target → Steps p.tables e below (T.setTop (mkF m pc Ls.toArray st)) target) (h : K pc' Ls' st' A k n) : K pc Ls st A k n := by
  obtain ⟨p, e, s, m, args, below, meth, c, hx, hby, -, -, -, -, -, -, -, rfl⟩ := G
  intro T locs X N hA RP
  obtain ⟨s₂, o, hs, r⟩ := h T locs X N hA RP
  exact ⟨s₂, o, hst p e below T s₂ m c hx hby X.here hs, r⟩
/-- the count of slots may grow -/
theorem Gd.more (G : Gd l Z a0 n0 b R cs ss own nm code ml ret Q K) (hn : n ≤ n') (h : K pc Ls st A k n') : K pc Ls st A k n := by
  obtain ⟨p, e, s, m, args, below, meth, c, hx, hby, -, -, -, -, -, -, -, rfl⟩ := G
  intro T locs X N hA RP
  exact h T locs (X.more (Nat.le_refl _) hn) N hA RP
theorem lat {L : List Slot} {i : Nat} {o : Slot} (h : L[i]? = some o) : L.toArray[i]? = some o := by simpa using h
theorem Gd.iloadN (G : Gd l Z a0 n0 b R cs ss own nm code ml ret Q K) {i : Fin 4} {v : Int32} (hd : decode code pc = .ok (.iload_n i, 1)) (hl : Ls[i.val]? = some (.val (.int v))) (h : K (pc + 1) Ls (.int v :: st) A k n) : K pc Ls st A k n :=
  G.run1 (fun _ _ _ _ _ _ _ hx hby hA r => XS.iloadN hA hx rfl (hb hby hd) (lat hl) r) h
theorem Gd.iload (G : Gd l Z a0 n0 b R cs ss own nm code ml ret Q K) {i : Nat} {v : Int32} (hd : decode code pc = .ok (.iload i, 2)) (hl : Ls[i]? = some (.val (.int v))) (h : K (pc + 2) Ls (.int v :: st) A k n) : K pc Ls st A k n :=
  G.run1 (fun _ _ _ _ _ _ _ hx hby hA r => XS.iload hA hx rfl (hb hby hd) (lat hl) r) h
theorem Gd.lloadN (G : Gd l Z a0 n0 b R cs ss own nm code ml ret Q K) {i : Fin 4} {v : Int64} (hd : decode code pc = .ok (.lload_n i, 1)) (hl : Ls[i.val]? = some (.val (.long v))) (h : K (pc + 1) Ls (.long v :: st) A k n) : K pc Ls st A k n :=
  G.run1 (fun _ _ _ _ _ _ _ hx hby hA r => XS.lloadN hA hx rfl (hb hby hd) (lat hl) r) h
theorem Gd.lload (G : Gd l Z a0 n0 b R cs ss own nm code ml ret Q K) {i : Nat} {v : Int64} (hd : decode code pc = .ok (.lload i, 2)) (hl : Ls[i]? = some (.val (.long v))) (h : K (pc + 2) Ls (.long v :: st) A k n) : K pc Ls st A k n :=
  G.run1 (fun _ _ _ _ _ _ _ hx hby hA r => XS.lload hA hx rfl (hb hby hd) (lat hl) r) h
theorem Gd.aloadN (G : Gd l Z a0 n0 b R cs ss own nm code ml ret Q K) {i : Fin 4} {v : Value} (hd : decode code pc = .ok (.aload_n i, 1)) (hl : Ls[i.val]? = some (.val v)) (hv : v.isRef = true) (h : K (pc + 1) Ls (v :: st) A k n) : K pc Ls st A k n :=
  G.run1 (fun _ _ _ _ _ _ _ hx hby hA r => XS.aloadN hA hx rfl (hb hby hd) (lat hl) hv r) h
theorem Gd.aload (G : Gd l Z a0 n0 b R cs ss own nm code ml ret Q K) {i : Nat} {v : Value} (hd : decode code pc = .ok (.aload i, 2)) (hl : Ls[i]? = some (.val v)) (hv : v.isRef = true) (h : K (pc + 2) Ls (v :: st) A k n) : K pc Ls st A k n :=
  G.run1 (fun _ _ _ _ _ _ _ hx hby hA r => XS.aload hA hx rfl (hb hby hd) (lat hl) hv r) h
theorem Gd.iconst (G : Gd l Z a0 n0 b R cs ss own nm code ml ret Q K) {i : Int} (z : Int32) (hd : decode code pc = .ok (.iconst i, 1)) (hz : Int32.ofInt i = z) (h : K (pc + 1) Ls (.int z :: st) A k n) : K pc Ls st A k n :=
  G.run1 (fun _ _ _ _ _ _ _ hx hby hA r => XS.iconst hA hx rfl (hb hby hd) (by rw [hz]; exact r)) h
theorem Gd.bipush (G : Gd l Z a0 n0 b R cs ss own nm code ml ret Q K) {i : Int} (z : Int32) (hd : decode code pc = .ok (.bipush i, 2)) (hz : (Int8.ofInt i).toInt32 = z) (h : K (pc + 2) Ls (.int z :: st) A k n) : K pc Ls st A k n :=
  G.run1 (fun _ _ _ _ _ _ _ hx hby hA r => XS.bipush hA hx rfl (hb hby hd) (by rw [hz]; exact r)) h
theorem Gd.sipush (G : Gd l Z a0 n0 b R cs ss own nm code ml ret Q K) {i : Int} (z : Int32) (hd : decode code pc = .ok (.sipush i, 3)) (hz : (Int16.ofInt i).toInt32 = z) (h : K (pc + 3) Ls (.int z :: st) A k n) : K pc Ls st A k n :=
  G.run1 (fun _ _ _ _ _ _ _ hx hby hA r => XS.sipush hA hx rfl (hb hby hd) (by rw [hz]; exact r)) h
theorem Gd.lconst (G : Gd l Z a0 n0 b R cs ss own nm code ml ret Q K) {i : Fin 2} (z : Int64) (hd : decode code pc = .ok (.lconst i, 1)) (hz : Int64.ofNat i = z) (h : K (pc + 1) Ls (.long z :: st) A k n) : K pc Ls st A k n :=
  G.run1 (fun _ _ _ _ _ _ _ hx hby hA r => XS.lconst hA hx rfl (hb hby hd) (by rw [hz]; exact r)) h
theorem Gd.aconstNull (G : Gd l Z a0 n0 b R cs ss own nm code ml ret Q K) (hd : decode code pc = .ok (.aconst_null, 1)) (h : K (pc + 1) Ls (.null :: st) A k n) : K pc Ls st A k n :=
  G.run1 (fun _ _ _ _ _ _ _ hx hby hA r => XS.aconstNull hA hx rfl (hb hby hd) r) h
theorem Gd.iadd (G : Gd l Z a0 n0 b R cs ss own nm code ml ret Q K) {x y : Int32} (hd : decode code pc = .ok (.iadd, 1)) (h : K (pc + 1) Ls (.int (x + y) :: st) A k n) : K pc Ls (.int y :: .int x :: st) A k n :=
  G.run1 (fun _ _ _ _ _ _ _ hx hby hA r => XS.iadd hA hx rfl (hb hby hd) rfl r) h
theorem Gd.isub (G : Gd l Z a0 n0 b R cs ss own nm code ml ret Q K) {x y : Int32} (hd : decode code pc = .ok (.isub, 1)) (h : K (pc + 1) Ls (.int (x - y) :: st) A k n) : K pc Ls (.int y :: .int x :: st) A k n :=
  G.run1 (fun _ _ _ _ _ _ _ hx hby hA r => XS.isub hA hx rfl (hb hby hd) rfl r) h
theorem Gd.imul (G : Gd l Z a0 n0 b R cs ss own nm code ml ret Q K) {x y : Int32} (hd : decode code pc = .ok (.imul, 1)) (h : K (pc + 1) Ls (.int (x * y) :: st) A k n) : K pc Ls (.int y :: .int x :: st) A k n :=
  G.run1 (fun _ _ _ _ _ _ _ hx hby hA r => XS.imul hA hx rfl (hb hby hd) rfl r) h
theorem Gd.iand (G : Gd l Z a0 n0 b R cs ss own nm code ml ret Q K) {x y : Int32} (hd : decode code pc = .ok (.iand, 1)) (h : K (pc + 1) Ls (.int (x &&& y) :: st) A k n) : K pc Ls (.int y :: .int x :: st) A k n :=
  G.run1 (fun _ _ _ _ _ _ _ hx hby hA r => XS.iand hA hx rfl (hb hby hd) rfl r) h
theorem Gd.ior (G : Gd l Z a0 n0 b R cs ss own nm code ml ret Q K) {x y : Int32} (hd : decode code pc = .ok (.ior, 1)) (h : K (pc + 1) Ls (.int (x ||| y) :: st) A k n) : K pc Ls (.int y :: .int x :: st) A k n :=
  G.run1 (fun _ _ _ _ _ _ _ hx hby hA r => XS.ior hA hx rfl (hb hby hd) rfl r) h
theorem Gd.ixor (G : Gd l Z a0 n0 b R cs ss own nm code ml ret Q K) {x y : Int32} (hd : decode code pc = .ok (.ixor, 1)) (h : K (pc + 1) Ls (.int (x ^^^ y) :: st) A k n) : K pc Ls (.int y :: .int x :: st) A k n :=
  G.run1 (fun _ _ _ _ _ _ _ hx hby hA r => XS.ixor hA hx rfl (hb hby hd) rfl r) h
theorem Gd.ishl (G : Gd l Z a0 n0 b R cs ss own nm code ml ret Q K) {x y : Int32} (hd : decode code pc = .ok (.ishl, 1)) (h : K (pc + 1) Ls (.int (x <<< (y &&& 31)) :: st) A k n) : K pc Ls (.int y :: .int x :: st) A k n :=
  G.run1 (fun _ _ _ _ _ _ _ hx hby hA r => XS.ishl hA hx rfl (hb hby hd) rfl r) h
theorem Gd.ishr (G : Gd l Z a0 n0 b R cs ss own nm code ml ret Q K) {x y : Int32} (hd : decode code pc = .ok (.ishr, 1)) (h : K (pc + 1) Ls (.int (x >>> (y &&& 31)) :: st) A k n) : K pc Ls (.int y :: .int x :: st) A k n :=
  G.run1 (fun _ _ _ _ _ _ _ hx hby hA r => XS.ishr hA hx rfl (hb hby hd) rfl r) h
theorem Gd.iushr (G : Gd l Z a0 n0 b R cs ss own nm code ml ret Q K) {x y : Int32} (hd : decode code pc = .ok (.iushr, 1)) (h : K (pc + 1) Ls (.int (ushr x y) :: st) A k n) : K pc Ls (.int y :: .int x :: st) A k n :=
  G.run1 (fun _ _ _ _ _ _ _ hx hby hA r => XS.iushr hA hx rfl (hb hby hd) rfl r) h
theorem Gd.ladd (G : Gd l Z a0 n0 b R cs ss own nm code ml ret Q K) {x y : Int64} (hd : decode code pc = .ok (.ladd, 1)) (h : K (pc + 1) Ls (.long (x + y) :: st) A k n) : K pc Ls (.long y :: .long x :: st) A k n :=
  G.run1 (fun _ _ _ _ _ _ _ hx hby hA r => XS.ladd hA hx rfl (hb hby hd) rfl r) h
theorem Gd.lsub (G : Gd l Z a0 n0 b R cs ss own nm code ml ret Q K) {x y : Int64} (hd : decode code pc = .ok (.lsub, 1)) (h : K (pc + 1) Ls (.long (x - y) :: st) A k n) : K pc Ls (.long y :: .long x :: st) A k n :=
  G.run1 (fun _ _ _ _ _ _ _ hx hby hA r => XS.lsub hA hx rfl (hb hby hd) rfl r) h
theorem Gd.lmul (G : Gd l Z a0 n0 b R cs ss own nm code ml ret Q K) {x y : Int64} (hd : decode code pc = .ok (.lmul, 1)) (h : K (pc + 1) Ls (.long (x * y) :: st) A k n) : K pc Ls (.long y :: .long x :: st) A k n :=
  G.run1 (fun _ _ _ _ _ _ _ hx hby hA r => XS.lmul hA hx rfl (hb hby hd) rfl r) h
theorem Gd.land (G : Gd l Z a0 n0 b R cs ss own nm code ml ret Q K) {x y : Int64} (hd : decode code pc = .ok (.land, 1)) (h : K (pc + 1) Ls (.long (x &&& y) :: st) A k n) : K pc Ls (.long y :: .long x :: st) A k n :=
  G.run1 (fun _ _ _ _ _ _ _ hx hby hA r => XS.land hA hx rfl (hb hby hd) rfl r) h
theorem Gd.lor (G : Gd l Z a0 n0 b R cs ss own nm code ml ret Q K) {x y : Int64} (hd : decode code pc = .ok (.lor, 1)) (h : K (pc + 1) Ls (.long (x ||| y) :: st) A k n) : K pc Ls (.long y :: .long x :: st) A k n :=
  G.run1 (fun _ _ _ _ _ _ _ hx hby hA r => XS.lor hA hx rfl (hb hby hd) rfl r) h
theorem Gd.lxor (G : Gd l Z a0 n0 b R cs ss own nm code ml ret Q K) {x y : Int64} (hd : decode code pc = .ok (.lxor, 1)) (h : K (pc + 1) Ls (.long (x ^^^ y) :: st) A k n) : K pc Ls (.long y :: .long x :: st) A k n :=
  G.run1 (fun _ _ _ _ _ _ _ hx hby hA r => XS.lxor hA hx rfl (hb hby hd) rfl r) h
theorem Gd.lshl (G : Gd l Z a0 n0 b R cs ss own nm code ml ret Q K) {x : Int64} {y : Int32} (hd : decode code pc = .ok (.lshl, 1)) (h : K (pc + 1) Ls (.long (x <<< (y &&& 0x3f).toInt64) :: st) A k n) : K pc Ls (.int y :: .long x :: st) A k n :=
  G.run1 (fun _ _ _ _ _ _ _ hx hby hA r => XS.lshl hA hx rfl (hb hby hd) rfl r) h
theorem Gd.lshr (G : Gd l Z a0 n0 b R cs ss own nm code ml ret Q K) {x : Int64} {y : Int32} (hd : decode code pc = .ok (.lshr, 1)) (h : K (pc + 1) Ls (.long (x >>> (y &&& 0x3f).toInt64) :: st) A k n) : K pc Ls (.int y :: .long x :: st) A k n :=
  G.run1 (fun _ _ _ _ _ _ _ hx hby hA r => XS.lshr hA hx rfl (hb hby hd) rfl r) h
theorem Gd.lushr (G : Gd l Z a0 n0 b R cs ss own nm code ml ret Q K) {x : Int64} {y : Int32} (hd : decode code pc = .ok (.lushr, 1)) (h : K (pc + 1) Ls (.long (ushrL x y) :: st) A k n) : K pc Ls (.int y :: .long x :: st) A k n :=
  G.run1 (fun _ _ _ _ _ _ _ hx hby hA r => XS.lushr hA hx rfl (hb hby hd) rfl r) h
theorem Gd.ineg (G : Gd l Z a0 n0 b R cs ss own nm code ml ret Q K) {x : Int32} (hd : decode code pc = .ok (.ineg, 1)) (h : K (pc + 1) Ls (.int (-x) :: st) A k n) : K pc Ls (.int x :: st) A k n :=
  G.run1 (fun _ _ _ _ _ _ _ hx hby hA r => XS.ineg hA hx rfl (hb hby hd) rfl r) h
theorem Gd.lneg (G : Gd l Z a0 n0 b R cs ss own nm code ml ret Q K) {x : Int64} (hd : decode code pc = .ok (.lneg, 1)) (h : K (pc + 1) Ls (.long (-x) :: st) A k n) : K pc Ls (.long x :: st) A k n :=
  G.run1 (fun _ _ _ _ _ _ _ hx hby hA r => XS.lneg hA hx rfl (hb hby hd) rfl r) h
theorem Gd.i2l (G : Gd l Z a0 n0 b R cs ss own nm code ml ret Q K) {x : Int32} (hd : decode code pc = .ok (.i2l, 1)) (h : K (pc + 1) Ls (.long (x.toInt64) :: st) A k n) : K pc Ls (.int x :: st) A k n :=
  G.run1 (fun _ _ _ _ _ _ _ hx hby hA r => XS.i2l hA hx rfl (hb hby hd) rfl r) h
theorem Gd.l2i (G : Gd l Z a0 n0 b R cs ss own nm code ml ret Q K) {x : Int64} (hd : decode code pc = .ok (.l2i, 1)) (h : K (pc + 1) Ls (.int (x.toInt32) :: st) A k n) : K pc Ls (.long x :: st) A k n :=
  G.run1 (fun _ _ _ _ _ _ _ hx hby hA r => XS.l2i hA hx rfl (hb hby hd) rfl r) h
theorem Gd.i2b (G : Gd l Z a0 n0 b R cs ss own nm code ml ret Q K) {x : Int32} (hd : decode code pc = .ok (.i2b, 1)) (h : K (pc + 1) Ls (.int (x.toInt8.toInt32) :: st) A k n) : K pc Ls (.int x :: st) A k n :=
  G.run1 (fun _ _ _ _ _ _ _ hx hby hA r => XS.i2b hA hx rfl (hb hby hd) rfl r) h
theorem Gd.i2c (G : Gd l Z a0 n0 b R cs ss own nm code ml ret Q K) {x : Int32} (hd : decode code pc = .ok (.i2c, 1)) (h : K (pc + 1) Ls (.int (x.toUInt32.toUInt16.toUInt32.toInt32) :: st) A k n) : K pc Ls (.int x :: st) A k n :=
  G.run1 (fun _ _ _ _ _ _ _ hx hby hA r => XS.i2c hA hx rfl (hb hby hd) rfl r) h
theorem Gd.i2s (G : Gd l Z a0 n0 b R cs ss own nm code ml ret Q K) {x : Int32} (hd : decode code pc = .ok (.i2s, 1)) (h : K (pc + 1) Ls (.int (x.toInt16.toInt32) :: st) A k n) : K pc Ls (.int x :: st) A k n :=
  G.run1 (fun _ _ _ _ _ _ _ hx hby hA r => XS.i2s hA hx rfl (hb hby hd) rfl r) h
theorem Gd.irem (G : Gd l Z a0 n0 b R cs ss own nm code ml ret Q K) {x y : Int32} (hd : decode code pc = .ok (.irem, 1)) (hy : y ≠ 0) (h : K (pc + 1) Ls (.int (x % y) :: st) A k n) : K pc Ls (.int y :: .int x :: st) A k n :=
  G.run1 (fun _ _ _ _ _ _ _ hx hby hA r => XS.irem hA hx rfl (hb hby hd) rfl hy (by have q : x - x / y * y = x % y := irem_eq_mod x y; rw [q]; exact r)) h
theorem Gd.lcmp (G : Gd l Z a0 n0 b R cs ss own nm code ml ret Q K) {x y : Int64} (hd : decode code pc = .ok (.lcmp, 1)) (h : K (pc + 1) Ls (.int (lcmpW x y) :: st) A k n) : K pc Ls (.long y :: .long x :: st) A k n :=
  G.run1 (fun _ _ _ _ _ _ _ hx hby hA r => XS.lcmp hA hx rfl (hb hby hd) rfl r) h
theorem Gd.dup (G : Gd l Z a0 n0 b R cs ss own nm code ml ret Q K) {x : Value} (hd : decode code pc = .ok (.dup, 1)) (hc : x.category = 1) (h : K (pc + 1) Ls (x :: x :: st) A k n) : K pc Ls (x :: st) A k n :=
  G.run1 (fun _ _ _ _ _ _ _ hx hby hA r => XS.dup hA hx rfl (hb hby hd) rfl hc r) h
theorem Gd.pop (G : Gd l Z a0 n0 b R cs ss own nm code ml ret Q K) {x : Value} (hd : decode code pc = .ok (.pop, 1)) (hc : x.category = 1) (h : K (pc + 1) Ls st A k n) : K pc Ls (x :: st) A k n :=
  G.run1 (fun _ _ _ _ _ _ _ hx hby hA r => XS.pop hA hx rfl (hb hby hd) rfl hc r) h
theorem Gd.dupX1 (G : Gd l Z a0 n0 b R cs ss own nm code ml ret Q K) {x y : Value} (hd : decode code pc = .ok (.dup_x1, 1)) (hc : x.category = 1) (hc' : y.category = 1) (h : K (pc + 1) Ls (x :: y :: x :: st) A k n) : K pc Ls (x :: y :: st) A k n :=
  G.run1 (fun _ _ _ _ _ _ _ hx hby hA r => XS.dupX1 hA hx rfl (hb hby hd) rfl hc hc' r) h
theorem Gd.dup2 (G : Gd l Z a0 n0 b R cs ss own nm code ml ret Q K) {x y : Value} (hd : decode code pc = .ok (.dup2, 1)) (hc : x.category = 1) (hc' : y.category = 1) (h : K (pc + 1) Ls (x :: y :: x :: y :: st) A k n) : K pc Ls (x :: y :: st) A k n :=
  G.run1 (fun _ _ _ _ _ _ _ hx hby hA r => Jvm.Free.XT.dup2 hA hx rfl (hb hby hd) rfl hc hc' r) h
theorem Gd.istore4 (G : Gd l Z a0 n0 b R cs ss own nm code ml ret Q K) {u0 u1 u2 u3 o : Slot} {r : List Slot} {x : Int32} (hd : decode code pc = .ok (.istore 4, 2)) (hl : storeLocals (u0 :: u1 :: u2 :: u3 :: o :: r).toArray 4 (.int x) = some (u0 :: u1 :: u2 :: u3 :: .val (.int x) :: r).toArray) (h : K (pc + 2) (u0 :: u1 :: u2 :: u3 :: .val (.int x) :: r) st A k n) : K pc (u0 :: u1 :: u2 :: u3 :: o :: r) (.int x :: st) A k n :=
  G.run1 (fun _ _ _ _ _ _ _ hx hby hA r => XS.istore hA hx rfl (hb hby hd) rfl hl r) h
theorem Gd.istore5 (G : Gd l Z a0 n0 b R cs ss own nm code ml ret Q K) {u0 u1 u2 u3 u4 o : Slot} {r : List Slot} {x : Int32} (hd : decode code pc = .ok (.istore 5, 2)) (hl : storeLocals (u0 :: u1 :: u2 :: u3 :: u4 :: o :: r).toArray 5 (.int x) = some (u0 :: u1 :: u2 :: u3 :: u4 :: .val (.int x) :: r).toArray) (h : K (pc + 2) (u0 :: u1 :: u2 :: u3 :: u4 :: .val (.int x) :: r) st A k n) : K pc (u0 :: u1 :: u2 :: u3 :: u4 :: o :: r) (.int x :: st) A k n :=
  G.run1 (fun _ _ _ _ _ _ _ hx hby hA r => XS.istore hA hx rfl (hb hby hd) rfl hl r) h
theorem Gd.istore6 (G : Gd l Z a0 n0 b R cs ss own nm code ml ret Q K) {u0 u1 u2 u3 u4 u5 o : Slot} {r : List Slot} {x : Int32} (hd : decode code pc = .ok (.istore 6, 2)) (hl : storeLocals (u0 :: u1 :: u2 :: u3 :: u4 :: u5 :: o :: r).toArray 6 (.int x) = some (u0 :: u1 :: u2 :: u3 :: u4 :: u5 :: .val (.int x) :: r).toArray) (h : K (pc + 2) (u0 :: u1 :: u2 :: u3 :: u4 :: u5 :: .val (.int x) :: r) st A k n) : K pc (u0 :: u1 :: u2 :: u3 :: u4 :: u5 :: o :: r) (.int x :: st) A k n :=
  G.run1 (fun _ _ _ _ _ _ _ hx hby hA r => XS.istore hA hx rfl (hb hby hd) rfl hl r) h
theorem Gd.istoreN3 (G : Gd l Z a0 n0 b R cs ss own nm code ml ret Q K) {u0 u1 u2 o : Slot} {r : List Slot} {x : Int32} (hd : decode code pc = .ok (.istore_n ⟨3, by decide⟩, 1)) (hl : storeLocals (u0 :: u1 :: u2 :: o :: r).toArray 3 (.int x) = some (u0 :: u1 :: u2 :: .val (.int x) :: r).toArray) (h : K (pc + 1) (u0 :: u1 :: u2 :: .val (.int x) :: r) st A k n) : K pc (u0 :: u1 :: u2 :: o :: r) (.int x :: st) A k n :=
  G.run1 (fun _ _ _ _ _ _ _ hx hby hA r => XS.istoreN hA hx rfl (hb hby hd) rfl hl r) h
theorem Gd.goto (G : Gd l Z a0 n0 b R cs ss own nm code ml ret Q K) {o : Int} (pc' : Nat) (hd : decode code pc = .ok (.goto o, 3)) (ho : 0 ≤ (pc : Int) + o) (hp : ((pc : Int) + o).toNat = pc') (h : K pc' Ls st A k n) : K pc Ls st A k n :=
  G.run1 (fun _ _ _ _ _ _ _ hx hby hA r => XS.goto hA hx rfl rfl (hb hby hd) ho hp r) h
theorem Gd.icmp (G : Gd l Z a0 n0 b R cs ss own nm code ml ret Q K) {cd : ClassFile.Cond} {o : Int} {x y : Int32} (pc' : Nat) (hd : decode code pc = .ok (.if_icmp cd o, 3)) (ho : 0 ≤ (pc : Int) + o) (hp : ((pc : Int) + o).toNat = pc') (h1 : if_icmp.holds cd x y = true → K pc' Ls st A k n) (h2 : if_icmp.holds cd x y = false → K (pc + 3) Ls st A k n) : K pc Ls (.int y :: .int x :: st) A k n := by
  cases q : if_icmp.holds cd x y with
  | true => exact G.run1 (fun _ _ _ _ _ _ _ hx hby hA r => XS.icmpYes hA hx rfl rfl (hb hby hd) rfl q ho hp r) (h1 q)
  | false => exact G.run1 (fun _ _ _ _ _ _ _ hx hby hA r => XS.icmpNo hA hx rfl (hb hby hd) rfl q r) (h2 q)
theorem Gd.ifc (G : Gd l Z a0 n0 b R cs ss own nm code ml ret Q K) {cd : ClassFile.Cond} {o : Int} {x : Int32} (pc' : Nat) (hd : decode code pc = .ok (.ifCond cd o, 3)) (ho : 0 ≤ (pc : Int) + o) (hp : ((pc : Int) + o).toNat = pc') (h1 : if_icmp.holds cd x 0 = true → K pc' Ls st A k n) (h2 : if_icmp.holds cd x 0 = false → K (pc + 3) Ls st A k n) : K pc Ls (.int x :: st) A k n := by
  cases q : if_icmp.holds cd x 0 with
  | true => exact G.run1 (fun _ _ _ _ _ _ _ hx hby hA r => XS.ifYes hA hx rfl rfl (hb hby hd) rfl ((if0 _ _).trans q) ho hp r) (h1 q)
  | false => exact G.run1 (fun _ _ _ _ _ _ _ hx hby hA r => XS.ifNo hA hx rfl (hb hby hd) rfl ((if0 _ _).trans q) r) (h2 q)
theorem hI_eq {x y : Int32} : (if_icmp.holds .eq x y = true → x = y) ∧ (if_icmp.holds .eq x y = false → ¬ x = y) := by simp [if_icmp.holds, Int32.not_lt, Int32.not_le]
theorem Gd.icmp_eq (G : Gd l Z a0 n0 b R cs ss own nm code ml ret Q K) {o : Int} {x y : Int32} (pc' : Nat) (hd : decode code pc = .ok (.if_icmp .eq o, 3)) (ho : 0 ≤ (pc : Int) + o) (hp : ((pc : Int) + o).toNat = pc') (h1 : x = y → K pc' Ls st A k n) (h2 : ¬ x = y → K (pc + 3) Ls st A k n) : K pc Ls (.int y :: .int x :: st) A k n :=
  G.icmp pc' hd ho hp (fun q => h1 (hI_eq.1 q)) (fun q => h2 (hI_eq.2 q))
theorem Gd.if_eq (G : Gd l Z a0 n0 b R cs ss own nm code ml ret Q K) {o : Int} {x : Int32} (pc' : Nat) (hd : decode code pc = .ok (.ifCond .eq o, 3)) (ho : 0 ≤ (pc : Int) + o) (hp : ((pc : Int) + o).toNat = pc') (h1 : x = 0 → K pc' Ls st A k n) (h2 : ¬ x = 0 → K (pc + 3) Ls st A k n) : K pc Ls (.int x :: st) A k n :=
  G.ifc pc' hd ho hp (fun q => h1 (hI_eq.1 q)) (fun q => h2 (hI_eq.2 q))
theorem hI_ne {x y : Int32} : (if_icmp.holds .ne x y = true → ¬ x = y) ∧ (if_icmp.holds .ne x y = false → x = y) := by simp [if_icmp.holds, Int32.not_lt, Int32.not_le]
theorem Gd.icmp_ne (G : Gd l Z a0 n0 b R cs ss own nm code ml ret Q K) {o : Int} {x y : Int32} (pc' : Nat) (hd : decode code pc = .ok (.if_icmp .ne o, 3)) (ho : 0 ≤ (pc : Int) + o) (hp : ((pc : Int) + o).toNat = pc') (h1 : ¬ x = y → K pc' Ls st A k n) (h2 : x = y → K (pc + 3) Ls st A k n) : K pc Ls (.int y :: .int x :: st) A k n :=
  G.icmp pc' hd ho hp (fun q => h1 (hI_ne.1 q)) (fun q => h2 (hI_ne.2 q))
theorem Gd.if_ne (G : Gd l Z a0 n0 b R cs ss own nm code ml ret Q K) {o : Int} {x : Int32} (pc' : Nat) (hd : decode code pc = .ok (.ifCond .ne o, 3)) (ho : 0 ≤ (pc : Int) + o) (hp : ((pc : Int) + o).toNat = pc') (h1 : ¬ x = 0 → K pc' Ls st A k n) (h2 : x = 0 → K (pc + 3) Ls st A k n) : K pc Ls (.int x :: st) A k n :=
  G.ifc pc' hd ho hp (fun q => h1 (hI_ne.1 q)) (fun q => h2 (hI_ne.2 q))
theorem hI_lt {x y : Int32} : (if_icmp.holds .lt x y = true → x < y) ∧ (if_icmp.holds .lt x y = false → ¬ x < y) := by simp [if_icmp.holds, Int32.not_lt, Int32.not_le]
theorem Gd.icmp_lt (G : Gd l Z a0 n0 b R cs ss own nm code ml ret Q K) {o : Int} {x y : Int32} (pc' : Nat) (hd : decode code pc = .ok (.if_icmp .lt o, 3)) (ho : 0 ≤ (pc : Int) + o) (hp : ((pc : Int) + o).toNat = pc') (h1 : x < y → K pc' Ls st A k n) (h2 : ¬ x < y → K (pc + 3) Ls st A k n) : K pc Ls (.int y :: .int x :: st) A k n :=
  G.icmp pc' hd ho hp (fun q => h1 (hI_lt.1 q)) (fun q => h2 (hI_lt.2 q))
theorem Gd.if_lt (G : Gd l Z a0 n0 b R cs ss own nm code ml ret Q K) {o : Int} {x : Int32} (pc' : Nat) (hd : decode code pc = .ok (.ifCond .lt o, 3)) (ho : 0 ≤ (pc : Int) + o) (hp : ((pc : Int) + o).toNat = pc') (h1 : x < 0 → K pc' Ls st A k n) (h2 : ¬ x < 0 → K (pc + 3) Ls st A k n) : K pc Ls (.int x :: st) A k n :=
  G.ifc pc' hd ho hp (fun q => h1 (hI_lt.1 q)) (fun q => h2 (hI_lt.2 q))
theorem hI_ge {x y : Int32} : (if_icmp.holds .ge x y = true → ¬ x < y) ∧ (if_icmp.holds .ge x y = false → x < y) := by simp [if_icmp.holds, Int32.not_lt, Int32.not_le]
theorem Gd.icmp_ge (G : Gd l Z a0 n0 b R cs ss own nm code ml ret Q K) {o : Int} {x y : Int32} (pc' : Nat) (hd : decode code pc = .ok (.if_icmp .ge o, 3)) (ho : 0 ≤ (pc : Int) + o) (hp : ((pc : Int) + o).toNat = pc') (h1 : ¬ x < y → K pc' Ls st A k n) (h2 : x < y → K (pc + 3) Ls st A k n) : K pc Ls (.int y :: .int x :: st) A k n :=
  G.icmp pc' hd ho hp (fun q => h1 (hI_ge.1 q)) (fun q => h2 (hI_ge.2 q))
theorem Gd.if_ge (G : Gd l Z a0 n0 b R cs ss own nm code ml ret Q K) {o : Int} {x : Int32} (pc' : Nat) (hd : decode code pc = .ok (.ifCond .ge o, 3)) (ho : 0 ≤ (pc : Int) + o) (hp : ((pc : Int) + o).toNat = pc') (h1 : ¬ x < 0 → K pc' Ls st A k n) (h2 : x < 0 → K (pc + 3) Ls st A k n) : K pc Ls (.int x :: st) A k n :=
  G.ifc pc' hd ho hp (fun q => h1 (hI_ge.1 q)) (fun q => h2 (hI_ge.2 q))
theorem hI_gt {x y : Int32} : (if_icmp.holds .gt x y = true → y < x) ∧ (if_icmp.holds .gt x y = false → ¬ y < x) := by simp [if_icmp.holds, Int32.not_lt, Int32.not_le]
theorem Gd.icmp_gt (G : Gd l Z a0 n0 b R cs ss own nm code ml ret Q K) {o : Int} {x y : Int32} (pc' : Nat) (hd : decode code pc = .ok (.if_icmp .gt o, 3)) (ho : 0 ≤ (pc : Int) + o) (hp : ((pc : Int) + o).toNat = pc') (h1 : y < x → K pc' Ls st A k n) (h2 : ¬ y < x → K (pc + 3) Ls st A k n) : K pc Ls (.int y :: .int x :: st) A k n :=
  G.icmp pc' hd ho hp (fun q => h1 (hI_gt.1 q)) (fun q => h2 (hI_gt.2 q))
theorem Gd.if_gt (G : Gd l Z a0 n0 b R cs ss own nm code ml ret Q K) {o : Int} {x : Int32} (pc' : Nat) (hd : decode code pc = .ok (.ifCond .gt o, 3)) (ho : 0 ≤ (pc : Int) + o) (hp : ((pc : Int) + o).toNat = pc') (h1 : 0 < x → K pc' Ls st A k n) (h2 : ¬ 0 < x → K (pc + 3) Ls st A k n) : K pc Ls (.int x :: st) A k n :=
  G.ifc pc' hd ho hp (fun q => h1 (hI_gt.1 q)) (fun q => h2 (hI_gt.2 q))
theorem hI_le {x y : Int32} : (if_icmp.holds .le x y = true → ¬ y < x) ∧ (if_icmp.holds .le x y = false → y < x) := by simp [if_icmp.holds, Int32.not_lt, Int32.not_le]
theorem Gd.icmp_le (G : Gd l Z a0 n0 b R cs ss own nm code ml ret Q K) {o : Int} {x y : Int32} (pc' : Nat) (hd : decode code pc = .ok (.if_icmp .le o, 3)) (ho : 0 ≤ (pc : Int) + o) (hp : ((pc : Int) + o).toNat = pc') (h1 : ¬ y < x → K pc' Ls st A k n) (h2 : y < x → K (pc + 3) Ls st A k n) : K pc Ls (.int y :: .int x :: st) A k n :=
  G.icmp pc' hd ho hp (fun q => h1 (hI_le.1 q)) (fun q => h2 (hI_le.2 q))
theorem Gd.if_le (G : Gd l Z a0 n0 b R cs ss own nm code ml ret Q K) {o : Int} {x : Int32} (pc' : Nat) (hd : decode code pc = .ok (.ifCond .le o, 3)) (ho : 0 ≤ (pc : Int) + o) (hp : ((pc : Int) + o).toNat = pc') (h1 : ¬ 0 < x → K pc' Ls st A k n) (h2 : 0 < x → K (pc + 3) Ls st A k n) : K pc Ls (.int x :: st) A k n :=
  G.ifc pc' hd ho hp (fun q => h1 (hI_le.1 q)) (fun q => h2 (hI_le.2 q))
theorem Gd.ifnonnullR (G : Gd l Z a0 n0 b R cs ss own nm code ml ret Q K) {o : Int} {b : Addr} (pc' : Nat) (hd : decode code pc = .ok (.ifnonnull o, 3)) (ho : 0 ≤ (pc : Int) + o) (hp : ((pc : Int) + o).toNat = pc') (h : K pc' Ls st A k n) : K pc Ls (.ref b :: st) A k n :=
  G.run1 (fun _ _ _ _ _ _ _ hx hby hA r => XS.ifnonnullYes hA hx rfl rfl (hb hby hd) rfl ho hp r) h
theorem idxOk {c : Cell} {vs : List Value} {j : Int32} {jn : Nat} (e : c.slots = vs.toArray) (hj : j.toInt = (jn : Int)) (hl : jn < vs.length) : ¬ (j < 0 ∨ c.slots.size ≤ j.toNatClampNeg) ∧ j.toNatClampNeg = jn := by
  have h1 : j.toNatClampNeg = jn := by
    show j.toInt.toNat = jn
    rw [hj]; rfl
  refine ⟨?_, h1⟩
  rintro (q | q)
  · rw [Int32.lt_iff_toInt_lt] at q
    have : (0 : Int32).toInt = 0 := by decide
    omega
  · rw [h1, e] at q
    simp at q
    omega
theorem Gd.getf (G : Gd l Z a0 n0 b R cs ss own nm code ml ret Q K) {idx i j : Nat} {C fn d host : String} {fs : List (String × String × Value)} {v : Value} (hd : decode code pc = .ok (.getfield idx, 3)) (w : (Jvm.Cond.fieldLink own idx C fn d).before a0 Z = true ∨ (Jvm.Cond.fieldLinkNest own idx C fn d host).before a0 Z = true) (hA : A[i]? = some (.inl (C, fs))) (hf : fs[j]? = some (fn, d, v)) (h : K (pc + 3) Ls (v :: st) A k n) : K pc Ls (.ref (ad n0 i) :: st) A k n := by
  obtain ⟨p, e, s, m, args, below, meth, c, hx, hby, -, hown, -, hZ, -, -, -, rfl⟩ := G
  intro T locs X N hAl RP
  obtain ⟨T', X', e', stp⟩ := getF X hx hZ hown w Via.refl rfl ((RP.2 i _ hA).2.2 j _ _ _ hf).1 (g := mkF m pc Ls.toArray (.ref (ad n0 i) :: st)) rfl rfl (hb hby hd)
  obtain ⟨s₂, o, hs, r⟩ := h T' locs X' N hAl (by rw [e']; exact RP)
  exact ⟨s₂, o, stp _ hs, r⟩
theorem Gd.putf (G : Gd l Z a0 n0 b R cs ss own nm code ml ret Q K) {idx i j kk : Nat} {C fn d host : String} {fs : List (String × String × Value)} {v old : Value} {ty : FieldType} (hd : decode code pc = .ok (.putfield idx, 3)) (w : (Jvm.Cond.fieldLink own idx C fn d).before a0 Z = true ∨ (Jvm.Cond.fieldLinkNest own idx C fn d host).before a0 Z = true) (L : (Jvm.Cond.lays C C fn d).before a0 Z = true ∨ ((Jvm.Cond.laysFinal C C fn d).before a0 Z = true ∧ own = C ∧ nm = "<init>")) (wi : (Jvm.Cond.instantiable C kk).before a0 Z = true)
    (hty : parseFieldDescriptor d = some ty) (hn : narrow ty v = v) (hv : fits ty v = true) (hA : A[i]? = some (.inl (C, fs))) (hf : fs[j]? = some (fn, d, old)) (h : K (pc + 3) Ls st (A.set i (.inl (C, fs.set j (fn, d, v)))) k n) : K pc Ls (v :: .ref (ad n0 i) :: st) A k n := by
  obtain ⟨p, e, s, m, args, below, meth, c, hx, hby, -, hown, hnm, hZ, -, -, -, rfl⟩ := G
  intro T locs X N hAl RP
  have F := ((RP.2 i _ hA).2.2 j _ _ _ hf).1
  obtain ⟨T', h', X', e', W, stp⟩ := putF X hx hZ hown w Via.refl rfl F (RP.2 i _ hA).1 (by rcases L with L | ⟨L1, L2, L3⟩; exact Or.inl L; exact Or.inr ⟨L1, L2, hnm.trans L3⟩) wi hty hn hv (g := mkF m pc Ls.toArray (v :: .ref (ad n0 i) :: st)) rfl rfl (hb hby hd)
  obtain ⟨s₂, o, hs, r⟩ := h T' _ X' (Fr.snoc X' N (ad_le _ _)) (by rw [List.length_set]; exact hAl) (by rw [e']; exact RP.wr W ((RP.2 i _ hA).put hf W))
  exact ⟨s₂, o, stp _ hs, r⟩
theorem Gd.newo (G : Gd l Z a0 n0 b R cs ss own nm code ml ret Q K) {idx sl : Nat} {C : String} {fs : List (String × String × Value)} (hd : decode code pc = .ok (.new idx, 3)) (w : (Jvm.Cond.classLink own idx C).before a0 Z = true) (wi : (Jvm.Cond.instantiable C sl).before a0 Z = true) (wz : (Jvm.Cond.initialized C).before a0 Z = true) (hf : FOk Z a0 C fs) (hc : k + 1 ≤ R.cells) (hl : n + sl ≤ R.slots) (h : K (pc + 3) Ls (.ref (ad n0 A.length) :: st) (A ++ [.inl (C, fs)]) (k + 1) (n + sl)) : K pc Ls st A k n := by
  obtain ⟨p, e, s, m, args, below, meth, c, hx, hby, -, hown, hnm, hZ, -, -, hb0, rfl⟩ := G
  intro T locs X N hAl RP
  obtain ⟨T', h', X', e', E, Ex, D, -, stp⟩ := newO X hx hZ hown w wi wz rfl (g := mkF m pc Ls.toArray st) rfl (hb hby hd) hc hl
  have hsz : h'.size = T.heap.size + 1 := by
    have q1 := X'.heapSize
    have q2 : T.heap.size < h'.size := Ex.lt
    rw [e'] at q1
    have q3 := RP.1
    omega
  have R' : Rep Z a0 n0 h' (A ++ [.inl (C, fs)]) := RP.push E hsz ⟨Ex, hf.1, fun j fn d v hj => by
    obtain ⟨L, t, ht, hv⟩ := hf.2 _ (List.mem_of_getElem? hj)
    exact ⟨by have := D L ht; rw [hv] at this; exact this, L, t, ht⟩⟩
  have ea : ad n0 A.length = T.heap.size := RP.1.symm
  obtain ⟨s₂, o, hs, r⟩ := h T' locs X' N (by simp; omega) (by rw [e']; exact R')
  rw [ea] at hs
  exact ⟨s₂, o, stp _ hs, r⟩
theorem Gd.newarr (G : Gd l Z a0 n0 b R cs ss own nm code ml ret Q K) {aty : ArrayType} {z : Int32} (zn cap : Nat) (hd : decode code pc = .ok (.newarray aty, 2)) (w : (Jvm.Cond.arrayClass (newarray.typeOf aty)).before a0 Z = true) (hz : z.toInt = (zn : Int)) (hcap : zn ≤ cap) (hb0 : cap * 8 ≤ 536870912) (hc : k + 1 ≤ R.cells) (hl : n + cap ≤ R.slots) (hfit : fits (newarray.typeOf aty) (defaultValue (newarray.typeOf aty)) = true) (h : K (pc + 2) Ls (.ref (ad n0 A.length) :: st) (A ++ [.inr (newarray.typeOf aty, List.replicate zn (defaultValue (newarray.typeOf aty)))]) (k + 1) (n + cap)) : K pc Ls (.int z :: st) A k n := by
  obtain ⟨p, e, s, m, args, below, meth, c, hx, hby, -, hown, hnm, hZ, -, -, hsb, rfl⟩ := G
  intro T locs X N hAl RP
  have hz0 : ¬ z < 0 := by
    rw [Int32.lt_iff_toInt_lt]
    have : (0 : Int32).toInt = 0 := by decide
    omega
  have hzn : z.toNatClampNeg = zn := by show z.toInt.toNat = zn; rw [hz]; rfl
  obtain ⟨T', h', cA, X', e', E, Ar, Ex, stp⟩ := newPE X hx hZ w rfl (g := mkF m pc Ls.toArray (.int z :: st)) rfl (hb hby hd) rfl hz0 (cap := cap) (by rw [hzn]; exact hcap) hb0 hc hl (ad := "[" ++ (newarray.typeOf aty).toString) rfl
  have hsz : h'.size = T.heap.size + 1 := by
    have q1 := X'.heapSize
    have q2 : T.heap.size < h'.size := Ex.lt
    rw [e'] at q1
    have q3 := RP.1
    omega
  have R' : Rep Z a0 n0 h' (A ++ [.inr (newarray.typeOf aty, List.replicate zn (defaultValue (newarray.typeOf aty)))]) := RP.push E hsz ⟨Ex, _, Ar, by simp [newA, hzn], by simp; have := z.toInt_lt; omega, fun v hv => by rw [List.eq_of_mem_replicate hv]; exact hfit⟩
  have ea : ad n0 A.length = T.heap.size := RP.1.symm
  obtain ⟨s₂, o, hs, r⟩ := h T' locs X' N (by simp; omega) (by rw [e']; exact R')
  rw [ea] at hs
  exact ⟨s₂, o, stp _ hs, r⟩
theorem Gd.alen (G : Gd l Z a0 n0 b R cs ss own nm code ml ret Q K) {i : Nat} {ty : FieldType} {vs : List Value} (z : Int32) (hd : decode code pc = .ok (.arraylength, 1)) (hA : A[i]? = some (.inr (ty, vs))) (hz : vs.length.toInt32 = z) (h : K (pc + 1) Ls (.int z :: st) A k n) : K pc Ls (.ref (ad n0 i) :: st) A k n := by
  obtain ⟨p, e, s, m, args, below, meth, c, hx, hby, -, hown, -, hZ, -, -, -, rfl⟩ := G
  intro T locs X N hAl RP
  obtain ⟨-, cl, Ar, es, -, -⟩ := RP.2 i _ hA
  obtain ⟨s₂, o, hs, r⟩ := h T locs X N hAl RP
  refine ⟨s₂, o, X.arraylength hx Ar.1 (State.isArrayOf_alike hZ.alike Ar.2.1) (g := mkF m pc Ls.toArray (.ref (ad n0 i) :: st)) rfl rfl (hb hby hd) _ ?_, r⟩
  have q : cl.slots.size.toInt32 = z := by rw [es]; exact hz
  rw [q]; exact hs
theorem Gd.iald (G : Gd l Z a0 n0 b R cs ss own nm code ml ret Q K) {i : Nat} {vs : List Value} {j : Int32} {x : Int32} (jn : Nat) (hd : decode code pc = .ok (.iaload, 1)) (hA : A[i]? = some (.inr (.int, vs))) (hj : j.toInt = (jn : Int)) (hv : vs[jn]? = some (.int x)) (h : K (pc + 1) Ls (.int x :: st) A k n) : K pc Ls (.int j :: .ref (ad n0 i) :: st) A k n := by
  obtain ⟨p, e, s, m, args, below, meth, c, hx, hby, -, hown, -, hZ, -, -, -, rfl⟩ := G
  intro T locs X N hAl RP
  obtain ⟨-, cl, Ar, es, -, -⟩ := RP.2 i _ hA
  obtain ⟨q1, q2⟩ := idxOk es hj (List.getElem?_eq_some_iff.mp hv).1
  obtain ⟨s₂, o, hs, r⟩ := h T locs X N hAl RP
  exact ⟨s₂, o, X.iaload hx (j := j) (v := .int x) Ar.1 (State.isArrayOf_alike hZ.alike Ar.2.1) Ar.2.2 q1 (by rw [q2, es]; simpa using hv) (g := mkF m pc Ls.toArray (.int j :: .ref (ad n0 i) :: st)) rfl rfl (hb hby hd) _ hs, r⟩
theorem Gd.lald (G : Gd l Z a0 n0 b R cs ss own nm code ml ret Q K) {i : Nat} {vs : List Value} {j : Int32} {x : Int64} (jn : Nat) (hd : decode code pc = .ok (.laload, 1)) (hA : A[i]? = some (.inr (.long, vs))) (hj : j.toInt = (jn : Int)) (hv : vs[jn]? = some (.long x)) (h : K (pc + 1) Ls (.long x :: st) A k n) : K pc Ls (.int j :: .ref (ad n0 i) :: st) A k n := by
  obtain ⟨p, e, s, m, args, below, meth, c, hx, hby, -, hown, -, hZ, -, -, -, rfl⟩ := G
  intro T locs X N hAl RP
  obtain ⟨-, cl, Ar, es, -, -⟩ := RP.2 i _ hA
  obtain ⟨q1, q2⟩ := idxOk es hj (List.getElem?_eq_some_iff.mp hv).1
  obtain ⟨s₂, o, hs, r⟩ := h T locs X N hAl RP
  exact ⟨s₂, o, X.laload hx (j := j) (v := .long x) Ar.1 (State.isArrayOf_alike hZ.alike Ar.2.1) Ar.2.2 q1 (by rw [q2, es]; simpa using hv) (g := mkF m pc Ls.toArray (.int j :: .ref (ad n0 i) :: st)) rfl rfl (hb hby hd) _ hs, r⟩
theorem Gd.bald (G : Gd l Z a0 n0 b R cs ss own nm code ml ret Q K) {i : Nat} {vs : List Value} {j : Int32} {x : Int32} (jn : Nat) (hd : decode code pc = .ok (.baload, 1)) (hA : A[i]? = some (.inr (.byte, vs))) (hj : j.toInt = (jn : Int)) (hv : vs[jn]? = some (.int x)) (h : K (pc + 1) Ls (.int x :: st) A k n) : K pc Ls (.int j :: .ref (ad n0 i) :: st) A k n := by
  obtain ⟨p, e, s, m, args, below, meth, c, hx, hby, -, hown, -, hZ, -, -, -, rfl⟩ := G
  intro T locs X N hAl RP
  obtain ⟨-, cl, Ar, es, -, -⟩ := RP.2 i _ hA
  obtain ⟨q1, q2⟩ := idxOk es hj (List.getElem?_eq_some_iff.mp hv).1
  obtain ⟨s₂, o, hs, r⟩ := h T locs X N hAl RP
  exact ⟨s₂, o, X.baloadBytes hx (j := j) (v := .int x) Ar.1 (State.isArrayOf_alike hZ.alike Ar.2.1) Ar.2.2 q1 (by rw [q2, es]; simpa using hv) (g := mkF m pc Ls.toArray (.int j :: .ref (ad n0 i) :: st)) rfl rfl (hb hby hd) _ hs, r⟩
theorem Gd.zald (G : Gd l Z a0 n0 b R cs ss own nm code ml ret Q K) {i : Nat} {vs : List Value} {j : Int32} {x : Int32} (jn : Nat) (hd : decode code pc = .ok (.baload, 1)) (hA : A[i]? = some (.inr (.boolean, vs))) (hj : j.toInt = (jn : Int)) (hv : vs[jn]? = some (.int x)) (h : K (pc + 1) Ls (.int x :: st) A k n) : K pc Ls (.int j :: .ref (ad n0 i) :: st) A k n := by
  obtain ⟨p, e, s, m, args, below, meth, c, hx, hby, -, hown, -, hZ, -, -, -, rfl⟩ := G
  intro T locs X N hAl RP
  obtain ⟨-, cl, Ar, es, -, -⟩ := RP.2 i _ hA
  obtain ⟨q1, q2⟩ := idxOk es hj (List.getElem?_eq_some_iff.mp hv).1
  obtain ⟨s₂, o, hs, r⟩ := h T locs X N hAl RP
  exact ⟨s₂, o, X.baloadBooleans hx (j := j) (v := .int x) Ar.1 (State.isArrayOf_alike hZ.alike Ar.2.1) Ar.2.2 q1 (by rw [q2, es]; simpa using hv) (g := mkF m pc Ls.toArray (.int j :: .ref (ad n0 i) :: st)) rfl rfl (hb hby hd) _ hs, r⟩
theorem Gd.iast (G : Gd l Z a0 n0 b R cs ss own nm code ml ret Q K) {i : Nat} {vs : List Value} {j : Int32} {x : Int32} (jn : Nat) (hd : decode code pc = .ok (.iastore, 1)) (hA : A[i]? = some (.inr (.int, vs))) (hj : j.toInt = (jn : Int)) (hl : jn < vs.length) (h : K (pc + 1) Ls st (A.set i (.inr (.int, vs.set jn (.int x)))) k n) : K pc Ls (.int x :: .int j :: .ref (ad n0 i) :: st) A k n := by
  obtain ⟨p, e, s, m, args, below, meth, c, hx, hby, -, hown, -, hZ, -, -, -, rfl⟩ := G
  intro T locs X N hAl RP
  obtain ⟨-, cl, Ar, es, -, -⟩ := RP.2 i _ hA
  obtain ⟨q1, q2⟩ := idxOk es hj hl
  obtain ⟨T', h', X', e', W, stp⟩ := stI X hx hZ rfl Ar q1 (g := mkF m pc Ls.toArray (.int x :: .int j :: .ref (ad n0 i) :: st)) rfl rfl (hb hby hd)
  have W' : Wr T.heap h' (ad n0 i) jn (.int x) := by rw [← q2]; exact W
  obtain ⟨s₂, o, hs, r⟩ := h T' _ X' (Fr.snoc X' N (ad_le _ _)) (by rw [List.length_set]; exact hAl) (by rw [e']; exact RP.wr W' ((RP.2 i _ hA).store rfl W'))
  exact ⟨s₂, o, stp _ hs, r⟩
theorem Gd.last (G : Gd l Z a0 n0 b R cs ss own nm code ml ret Q K) {i : Nat} {vs : List Value} {j : Int32} {x : Int64} (jn : Nat) (hd : decode code pc = .ok (.lastore, 1)) (hA : A[i]? = some (.inr (.long, vs))) (hj : j.toInt = (jn : Int)) (hl : jn < vs.length) (h : K (pc + 1) Ls st (A.set i (.inr (.long, vs.set jn (.long x)))) k n) : K pc Ls (.long x :: .int j :: .ref (ad n0 i) :: st) A k n := by
  obtain ⟨p, e, s, m, args, below, meth, c, hx, hby, -, hown, -, hZ, -, -, -, rfl⟩ := G
  intro T locs X N hAl RP
  obtain ⟨-, cl, Ar, es, -, -⟩ := RP.2 i _ hA
  obtain ⟨q1, q2⟩ := idxOk es hj hl
  obtain ⟨T', h', X', e', W, stp⟩ := stJ X hx hZ rfl Ar q1 (g := mkF m pc Ls.toArray (.long x :: .int j :: .ref (ad n0 i) :: st)) rfl rfl (hb hby hd)
  have W' : Wr T.heap h' (ad n0 i) jn (.long x) := by rw [← q2]; exact W
  obtain ⟨s₂, o, hs, r⟩ := h T' _ X' (Fr.snoc X' N (ad_le _ _)) (by rw [List.length_set]; exact hAl) (by rw [e']; exact RP.wr W' ((RP.2 i _ hA).store rfl W'))
  exact ⟨s₂, o, stp _ hs, r⟩
theorem Gd.bast (G : Gd l Z a0 n0 b R cs ss own nm code ml ret Q K) {i : Nat} {vs : List Value} {j : Int32} {x : Int32} (jn : Nat) (hd : decode code pc = .ok (.bastore, 1)) (hA : A[i]? = some (.inr (.byte, vs))) (hj : j.toInt = (jn : Int)) (hl : jn < vs.length) {x8 : Int32} (hx8 : nar .byte x = x8) (hfit : fits .byte (.int x8) = true) (h : K (pc + 1) Ls st (A.set i (.inr (.byte, vs.set jn (.int x8)))) k n) : K pc Ls (.int x :: .int j :: .ref (ad n0 i) :: st) A k n := by
  obtain ⟨p, e, s, m, args, below, meth, c, hx, hby, -, hown, -, hZ, -, -, -, rfl⟩ := G
  intro T locs X N hAl RP
  obtain ⟨-, cl, Ar, es, -, -⟩ := RP.2 i _ hA
  obtain ⟨q1, q2⟩ := idxOk es hj hl
  obtain ⟨T', h', X', e', W, stp⟩ := stB X hx hZ rfl Ar q1 (g := mkF m pc Ls.toArray (.int x :: .int j :: .ref (ad n0 i) :: st)) rfl rfl (hb hby hd)
  have W' : Wr T.heap h' (ad n0 i) jn (.int x8) := by rw [← q2, ← hx8]; exact W
  obtain ⟨s₂, o, hs, r⟩ := h T' _ X' (Fr.snoc X' N (ad_le _ _)) (by rw [List.length_set]; exact hAl) (by rw [e']; exact RP.wr W' ((RP.2 i _ hA).store hfit W'))
  exact ⟨s₂, o, stp _ hs, r⟩
theorem Gd.zast (G : Gd l Z a0 n0 b R cs ss own nm code ml ret Q K) {i : Nat} {vs : List Value} {j : Int32} {x : Int32} (jn : Nat) (hd : decode code pc = .ok (.bastore, 1)) (hA : A[i]? = some (.inr (.boolean, vs))) (hj : j.toInt = (jn : Int)) (hl : jn < vs.length) {x8 : Int32} (hx8 : nar .boolean x = x8) (hfit : fits .boolean (.int x8) = true) (h : K (pc + 1) Ls st (A.set i (.inr (.boolean, vs.set jn (.int x8)))) k n) : K pc Ls (.int x :: .int j :: .ref (ad n0 i) :: st) A k n := by
  obtain ⟨p, e, s, m, args, below, meth, c, hx, hby, -, hown, -, hZ, -, -, -, rfl⟩ := G
  intro T locs X N hAl RP
  obtain ⟨-, cl, Ar, es, -, -⟩ := RP.2 i _ hA
  obtain ⟨q1, q2⟩ := idxOk es hj hl
  obtain ⟨T', h', X', e', W, stp⟩ := stZ X hx hZ rfl Ar q1 (g := mkF m pc Ls.toArray (.int x :: .int j :: .ref (ad n0 i) :: st)) rfl rfl (hb hby hd)
  have W' : Wr T.heap h' (ad n0 i) jn (.int x8) := by rw [← q2, ← hx8]; exact W
  obtain ⟨s₂, o, hs, r⟩ := h T' _ X' (Fr.snoc X' N (ad_le _ _)) (by rw [List.length_set]; exact hAl) (by rw [e']; exact RP.wr W' ((RP.2 i _ hA).store hfit W'))
  exact ⟨s₂, o, stp _ hs, r⟩
theorem Gd.ldcI (G : Gd l Z a0 n0 b R cs ss own nm code ml ret Q K) {idx : Nat} {v : Int32} (hd : decode code pc = .ok (.ldc idx, 2)) (w : (Jvm.Cond.constant own idx v).before a0 Z = true) (h : K (pc + 2) Ls (.int v :: st) A k n) : K pc Ls st A k n := by
  obtain ⟨p, e, s, m, args, below, meth, c, hx, hby, -, hown, -, hZ, -, -, -, rfl⟩ := G
  intro T locs X N hAl RP
  obtain ⟨s₂, o, hs, r⟩ := h T locs X N hAl RP
  exact ⟨s₂, o, X.ldcInt hx hown (mvT hZ w) (g := mkF m pc Ls.toArray st) rfl (hb hby hd) _ hs, r⟩
theorem Gd.ldcwI (G : Gd l Z a0 n0 b R cs ss own nm code ml ret Q K) {idx : Nat} {v : Int32} (hd : decode code pc = .ok (.ldc_w idx, 3)) (w : (Jvm.Cond.constant own idx v).before a0 Z = true) (h : K (pc + 3) Ls (.int v :: st) A k n) : K pc Ls st A k n := by
  obtain ⟨p, e, s, m, args, below, meth, c, hx, hby, -, hown, -, hZ, -, -, -, rfl⟩ := G
  intro T locs X N hAl RP
  obtain ⟨s₂, o, hs, r⟩ := h T locs X N hAl RP
  exact ⟨s₂, o, X.ldcwInt hx hown (mvT hZ w) (g := mkF m pc Ls.toArray st) rfl (hb hby hd) _ hs, r⟩
theorem Gd.ldcL (G : Gd l Z a0 n0 b R cs ss own nm code ml ret Q K) {idx : Nat} {v : Int64} (hd : decode code pc = .ok (.ldc2_w idx, 3)) (w : (Jvm.Cond.constantLong own idx v).before a0 Z = true) (h : K (pc + 3) Ls (.long v :: st) A k n) : K pc Ls st A k n := by
  obtain ⟨p, e, s, m, args, below, meth, c, hx, hby, -, hown, -, hZ, -, -, -, rfl⟩ := G
  intro T locs X N hAl RP
  obtain ⟨s₂, o, hs, r⟩ := h T locs X N hAl RP
  exact ⟨s₂, o, X.ldc2Long hx hown (mvT hZ w) (g := mkF m pc Ls.toArray st) rfl (hb hby hd) _ hs, r⟩
theorem Gd.retV (G : Gd l Z a0 n0 b R cs ss own nm code ml ret Q K) {t : FieldType} {i : Instr} {w : Value} (hret : ret = some t) (hd : decode code pc = .ok (i, 1)) (hn : narrow t w = w)
    (hi : (i = .ireturn ∧ (t = .int ∨ t = .boolean ∨ t = .byte ∨ t = .char ∨ t = .short) ∧ ∃ z, w = .int z) ∨ (i = .lreturn ∧ t = .long ∧ ∃ z, w = .long z) ∨ (i = .dreturn ∧ t = .double ∧ ∃ z, w = .double z) ∨ (i = .freturn ∧ t = .float ∧ ∃ z, w = .float z) ∨ (i = .areturn ∧ t.isReference = true ∧ w.isRef = true))
    (hk : k ≤ cs) (hs : n ≤ ss) (hQ : Q (some w) A) : K pc Ls (w :: st) A k n := by
  obtain ⟨p, e, s, m, args, below, meth, c, hx, hby, -, hown, -, hZ, hrt, hlk, -, rfl⟩ := G
  intro T locs X N hAl RP
  obtain ⟨fs, hr, hrun, hended, hW, hsame⟩ := X.leave (v := some w) (fun q => by rw [hrt, hret] at q; cases q) hlk
  exact ⟨_, _, retOut X hx (hrt.trans hret) hn hi (hb hby hd) hr, hrun, hended, _, locs, rfl, ⟨N, A, hQ, RP⟩, ⟨_, rfl⟩, hW, hsame.mono hk hs⟩
theorem Gd.ireturn (G : Gd l Z a0 n0 b R cs ss own nm code ml ret Q K) {z : Int32} (hret : ret = some .int) (hd : decode code pc = .ok (.ireturn, 1)) (hk : k ≤ cs) (hs : n ≤ ss) (hQ : Q (some (.int z)) A) : K pc Ls (.int z :: st) A k n :=
  G.retV hret hd rfl (Or.inl ⟨rfl, Or.inl rfl, _, rfl⟩) hk hs hQ
theorem Gd.zreturn (G : Gd l Z a0 n0 b R cs ss own nm code ml ret Q K) {z : Int32} (hret : ret = some .boolean) (hd : decode code pc = .ok (.ireturn, 1)) (hz : narrow .boolean (.int z) = .int z) (hk : k ≤ cs) (hs : n ≤ ss) (hQ : Q (some (.int z)) A) : K pc Ls (.int z :: st) A k n :=
  G.retV hret hd hz (Or.inl ⟨rfl, Or.inr (Or.inl rfl), _, rfl⟩) hk hs hQ
theorem Gd.lreturn (G : Gd l Z a0 n0 b R cs ss own nm code ml ret Q K) {z : Int64} (hret : ret = some .long) (hd : decode code pc = .ok (.lreturn, 1)) (hk : k ≤ cs) (hs : n ≤ ss) (hQ : Q (some (.long z)) A) : K pc Ls (.long z :: st) A k n :=
  G.retV hret hd rfl (Or.inr (Or.inl ⟨rfl, rfl, _, rfl⟩)) hk hs hQ
theorem Gd.areturn (G : Gd l Z a0 n0 b R cs ss own nm code ml ret Q K) {t : FieldType} {w : Value} (hret : ret = some t) (hd : decode code pc = .ok (.areturn, 1)) (ht : t.isReference = true) (hw : w.isRef = true) (hn : narrow t w = w) (hk : k ≤ cs) (hs : n ≤ ss) (hQ : Q (some w) A) : K pc Ls (w :: st) A k n :=
  G.retV hret hd hn (Or.inr (Or.inr (Or.inr (Or.inr ⟨rfl, ht, hw⟩)))) hk hs hQ
theorem Gd.vreturn (G : Gd l Z a0 n0 b R cs ss own nm code ml ret Q K) (hret : ret = none) (hd : decode code pc = .ok (.return_, 1)) (hk : k ≤ cs) (hs : n ≤ ss) (hQ : Q none A) : K pc Ls [] A k n := by
  obtain ⟨p, e, s, m, args, below, meth, c, hx, hby, -, hown, -, hZ, hrt, hlk, -, rfl⟩ := G
  intro T locs X N hAl RP
  obtain ⟨fs, hr, hrun, hended, hW, hsame⟩ := X.leave (v := none) (fun _ => rfl) hlk
  exact ⟨_, _, X.returnOut hx (hrt.trans hret) (hb hby hd) hr, hrun, hended, _, locs, rfl, ⟨N, A, hQ, RP⟩, ⟨_, rfl⟩, hW, hsame.mono hk hs⟩
/-- Object's own constructor -/
theorem Gd.initObj (G : Gd l Z a0 n0 b R cs ss own nm code ml ret Q K) {idx : Nat} {a : Addr} (hd : decode code pc = .ok (.invokespecial idx, 3)) (w1 : (Jvm.Cond.methodLink own idx Lib.objectInit).before a0 Z = true) (w2 : (Jvm.Cond.instanceMethod Lib.objectInit).before a0 Z = true) (w3 : (Jvm.Cond.code Lib.objectInit ⟨#[0xb1]⟩ 1 none).before a0 Z = true) (hL : Ls.length = ml) (hf : 1 ≤ R.frames) (hl : (st.map fun v => v.category).sum + 12 ≤ R.locals) (h : K (pc + 3) Ls st A k n) : K pc Ls (.ref a :: st) A k n := by
  obtain ⟨p, e, s, m, args, below, meth, c, hx, hby, hml, hown, -, hZ, -, -, -, rfl⟩ := G
  intro T locs X N hAl RP
  obtain ⟨T', X', e', stp⟩ := initO X hx hZ hown w1 w2 w3 rfl (g := mkF m pc Ls.toArray (.ref a :: st)) rfl (by rw [hml]; simpa using hL) rfl (hb hby hd) hf (W := (st.map fun v => v.category).sum) (by show 2 * 0 + _ ≤ _; omega) hl
  obtain ⟨s₂, o, hs, r⟩ := h T' locs X' N hAl (by rw [e']; exact RP)
  exact ⟨s₂, o, stp _ hs, r⟩
/-- a static method by its contract -/
theorem Gd.scall (G : Gd l Z a0 n0 b R cs ss own nm code ml ret Q K) {idx maxL : Nat} {y : MethodName} {bytes : ByteArray} {rt : Option FieldType} {rm : Room} {Q' : Option Value → AHeap → Prop} {ps : List FieldType} (argsL : List Value) (hst : st' = argsL.reverse ++ st) (hd : decode code pc = .ok (.invokestatic idx, 3)) (w1 : (Jvm.Cond.methodLink own idx y).before a0 Z = true) (w2 : (Jvm.Cond.static y).before a0 Z = true) (w3 : (Jvm.Cond.initialized y.cls).before a0 Z = true) (w4 : (Jvm.Cond.code y bytes maxL rt).before a0 Z = true) (hy : y.cls ≠ "java/lang/invoke/MethodHandle" ∧ y.cls ≠ "java/lang/invoke/VarHandle")
    (hM : Meth l Z a0 [] y bytes maxL rt rm rm.cells rm.slots n0 argsL.toArray A Q') (hpd : parseMethodDescriptor y.desc = some ⟨ps, rt⟩) (hal : argsL.length = ps.length) (hL : Ls.length = ml) (hf : rm.frames + 1 ≤ R.frames) (hl : (st.map fun v => v.category).sum + (maxL + 11) + rm.locals ≤ R.locals) (hc : k + rm.cells ≤ R.cells) (hsl : n + rm.slots ≤ R.slots) (hlen' : ∀ v A', Q' v A' → A'.length = A.length + rm.cells)
    (h : ∀ v A', Q' v A' → K (pc + 3) Ls (v.toList ++ st) A' (k + rm.cells) (n + rm.slots)) : K pc Ls st' A k n := by
  subst hst
  obtain ⟨p, e, s, m, args, below, meth, c, hx, hby, hml, hown, -, hZ, -, -, -, rfl⟩ := G
  intro T locs X N hAl RP
  obtain ⟨v, _, ⟨TB, LB, kB, nB⟩, -, XB, ⟨Lc, hQB, l1, y1, z1⟩, stp⟩ := Jvm.LawKit.callS X hx (y := y) hown (mvT hZ w1) (mvT hZ w2) (mvT hZ w3) (mvT hZ w4) hy (backOf (W := (st.map fun v => v.category).sum) (Q := fun v h L => Fr n0 L ∧ ∃ A', Q' v A' ∧ Rep Z a0 n0 h A') (hM T.heap RP) hZ w4 w3 hf hl) (g := mkF m pc Ls.toArray (argsL.reverse ++ st)) rfl (by rw [hml]; simpa using hL) (argsL := argsL) (rest := st) (lenOf hpd hal) rfl (by show 2 * 0 + _ ≤ _; omega) (hb hby hd) (fun _ _ => ⟨rfl, rfl, hc, hsl⟩)
  dsimp only [Pt.U, Pt.locs, Pt.cells, Pt.slots] at XB l1 y1 z1 stp hQB
  subst l1 y1 z1
  obtain ⟨NB, A', hq, RB⟩ := hQB
  obtain ⟨s₂, o, hs, r⟩ := h _ A' hq TB _ XB (Fr.app N NB) (by rw [hlen' _ _ hq, hAl]; omega) RB
  exact ⟨s₂, o, stp _ hs, r⟩
/-- a constructor by its contract -/
theorem Gd.ncall (G : Gd l Z a0 n0 b R cs ss own nm code ml ret Q K) {idx maxL : Nat} {y : MethodName} {bytes : ByteArray} {rm : Room} {Q' : Option Value → AHeap → Prop} {ps : List FieldType} {a : Addr} (argsL : List Value) (hst : st' = argsL.reverse ++ .ref a :: st) (hd : decode code pc = .ok (.invokespecial idx, 3)) (hy1 : y.name = "<init>") (w1 : (Jvm.Cond.methodLink own idx y).before a0 Z = true) (w2 : (Jvm.Cond.instanceMethod y).before a0 Z = true) (w3 : (Jvm.Cond.initialized y.cls).before a0 Z = true) (w4 : (Jvm.Cond.code y bytes maxL none).before a0 Z = true) (hy : y.cls ≠ "java/lang/invoke/MethodHandle" ∧ y.cls ≠ "java/lang/invoke/VarHandle")
    (hM : Meth l Z a0 [] y bytes maxL none rm rm.cells rm.slots n0 (.ref a :: argsL).toArray A Q') (hpd : parseMethodDescriptor y.desc = some ⟨ps, none⟩) (hal : argsL.length = ps.length) (hL : Ls.length = ml) (hf : rm.frames + 1 ≤ R.frames) (hl : (st.map fun v => v.category).sum + (maxL + 11) + rm.locals ≤ R.locals) (hc : k + rm.cells ≤ R.cells) (hsl : n + rm.slots ≤ R.slots) (hlen' : ∀ v A', Q' v A' → A'.length = A.length + rm.cells)
    (h : ∀ v A', Q' v A' → K (pc + 3) Ls (v.toList ++ st) A' (k + rm.cells) (n + rm.slots)) : K pc Ls st' A k n := by
  subst hst
  obtain ⟨p, e, s, m, args, below, meth, c, hx, hby, hml, hown, -, hZ, -, -, -, rfl⟩ := G
  intro T locs X N hAl RP
  obtain ⟨v, _, ⟨TB, LB, kB, nB⟩, -, XB, ⟨Lc, hQB, l1, y1, z1⟩, stp⟩ := X.specialBack hx (y := y) hy1 hown (mvT hZ w1) (mvT hZ w2) (mvT hZ w4) hy (backOf (W := (st.map fun v => v.category).sum) (Q := fun v h L => Fr n0 L ∧ ∃ A', Q' v A' ∧ Rep Z a0 n0 h A') (hM T.heap RP) hZ w4 w3 hf hl) (g := mkF m pc Ls.toArray (argsL.reverse ++ .ref a :: st)) rfl (by rw [hml]; simpa using hL) (Steps.refl _) (a := a) (argsL := argsL) (rest := st) (lenOf hpd hal) rfl (by show 2 * 0 + _ ≤ _; omega) (hb hby hd) (fun _ _ => ⟨rfl, rfl, hc, hsl⟩)
  dsimp only [Pt.U, Pt.locs, Pt.cells, Pt.slots] at XB l1 y1 z1 stp hQB
  subst l1 y1 z1
  obtain ⟨NB, A', hq, RB⟩ := hQB
  obtain ⟨s₂, o, hs, r⟩ := h _ A' hq TB _ XB (Fr.app N NB) (by rw [hlen' _ _ hq, hAl]; omega) RB
  exact ⟨s₂, o, stp.trans hs, r⟩
/-- an instance method by its contract -/
theorem Gd.vcall (G : Gd l Z a0 n0 b R cs ss own nm code ml ret Q K) {idx maxL i : Nat} {y : MethodName} {bytes : ByteArray} {rt : Option FieldType} {rm : Room} {Q' : Option Value → AHeap → Prop} {ps : List FieldType} {fs : List (String × String × Value)} (argsL : List Value) (hst : st' = argsL.reverse ++ .ref (ad n0 i) :: st) (hd : decode code pc = .ok (.invokevirtual idx, 3)) (w1 : (Jvm.Cond.methodLink own idx y).before a0 Z = true) (w2 : (Jvm.Cond.declares y).before a0 Z = true) (ws : (Jvm.Cond.selects y.cls y y).before a0 Z = true) (wm : (Jvm.Cond.instanceMethod y).before a0 Z = true) (w3 : (Jvm.Cond.initialized y.cls).before a0 Z = true) (w4 : (Jvm.Cond.code y bytes maxL rt).before a0 Z = true) (hy : y.cls ≠ "java/lang/invoke/MethodHandle" ∧ y.cls ≠ "java/lang/invoke/VarHandle") (hA : A[i]? = some (.inl (y.cls, fs)))
    (hM : Meth l Z a0 [] y bytes maxL rt rm rm.cells rm.slots n0 (.ref (ad n0 i) :: argsL).toArray A Q') (hpd : parseMethodDescriptor y.desc = some ⟨ps, rt⟩) (hal : argsL.length = ps.length) (hL : Ls.length = ml) (hf : rm.frames + 1 ≤ R.frames) (hl : (st.map fun v => v.category).sum + (maxL + 11) + rm.locals ≤ R.locals) (hc : k + rm.cells ≤ R.cells) (hsl : n + rm.slots ≤ R.slots) (hlen' : ∀ v A', Q' v A' → A'.length = A.length + rm.cells)
    (h : ∀ v A', Q' v A' → K (pc + 3) Ls (v.toList ++ st) A' (k + rm.cells) (n + rm.slots)) : K pc Ls st' A k n := by
  subst hst
  obtain ⟨p, e, s, m, args, below, meth, c, hx, hby, hml, hown, -, hZ, -, -, -, rfl⟩ := G
  intro T locs X N hAl RP
  obtain ⟨cq, kq, qa, qb, qc⟩ := isOf hZ rfl (RP.2 i _ hA).1
  obtain ⟨v, _, ⟨TB, LB, kB, nB⟩, -, XB, ⟨Lc, hQB, l1, y1, z1⟩, stp⟩ := X.virtualBack hx (y := y) (z := y) hown (mvT hZ w1) (mvT hZ w2) (notFace_of_selects (args := #[]) (mvT hZ ws)) (mvT hZ ws) (mvT hZ wm) hy (backOf (W := (st.map fun v => v.category).sum) (Q := fun v h L => Fr n0 L ∧ ∃ A', Q' v A' ∧ Rep Z a0 n0 h A') (hM T.heap RP) hZ w4 w3 hf hl) qa qc (g := mkF m pc Ls.toArray (argsL.reverse ++ .ref (ad n0 i) :: st)) rfl (by rw [hml]; simpa using hL) (Steps.refl _) (argsL := argsL) (rest := st) (lenOf hpd hal) rfl (by show 2 * 0 + _ ≤ _; omega) (hb hby hd) (fun _ _ => ⟨rfl, rfl, hc, hsl⟩)
  dsimp only [Pt.U, Pt.locs, Pt.cells, Pt.slots] at XB l1 y1 z1 stp hQB
  subst l1 y1 z1
  obtain ⟨NB, A', hq, RB⟩ := hQB
  obtain ⟨s₂, o, hs, r⟩ := h _ A' hq TB _ XB (Fr.app N NB) (by rw [hlen' _ _ hq, hAl]; omega) RB
  exact ⟨s₂, o, stp.trans hs, r⟩
/-- a private instance method by its contract -/
theorem Gd.pcall (G : Gd l Z a0 n0 b R cs ss own nm code ml ret Q K) {idx maxL i : Nat} {y : MethodName} {bytes : ByteArray} {rt : Option FieldType} {rm : Room} {Q' : Option Value → AHeap → Prop} {ps : List FieldType} {fs : List (String × String × Value)} {C : String} (argsL : List Value) (hst : st' = argsL.reverse ++ .ref (ad n0 i) :: st) (hd : decode code pc = .ok (.invokevirtual idx, 3)) (w1 : (Jvm.Cond.methodLink own idx y).before a0 Z = true) (wp : (Jvm.Cond.privateMethod y).before a0 Z = true) (ws : (Jvm.Cond.selects y.cls y y).before a0 Z = true) (wm : (Jvm.Cond.instanceMethod y).before a0 Z = true) (w3 : (Jvm.Cond.initialized y.cls).before a0 Z = true) (w4 : (Jvm.Cond.code y bytes maxL rt).before a0 Z = true) (hy : y.cls ≠ "java/lang/invoke/MethodHandle" ∧ y.cls ≠ "java/lang/invoke/VarHandle") (hA : A[i]? = some (.inl (C, fs)))
    (hM : Meth l Z a0 [] y bytes maxL rt rm rm.cells rm.slots n0 (.ref (ad n0 i) :: argsL).toArray A Q') (hpd : parseMethodDescriptor y.desc = some ⟨ps, rt⟩) (hal : argsL.length = ps.length) (hL : Ls.length = ml) (hf : rm.frames + 1 ≤ R.frames) (hl : (st.map fun v => v.category).sum + (maxL + 11) + rm.locals ≤ R.locals) (hc : k + rm.cells ≤ R.cells) (hsl : n + rm.slots ≤ R.slots) (hlen' : ∀ v A', Q' v A' → A'.length = A.length + rm.cells)
    (h : ∀ v A', Q' v A' → K (pc + 3) Ls (v.toList ++ st) A' (k + rm.cells) (n + rm.slots)) : K pc Ls st' A k n := by
  subst hst
  obtain ⟨p, e, s, m, args, below, meth, c, hx, hby, hml, hown, -, hZ, -, -, -, rfl⟩ := G
  intro T locs X N hAl RP
  obtain ⟨cq, q1, q2⟩ := (RP.2 i _ hA).1.cell
  obtain ⟨v, _, ⟨TB, LB, kB, nB⟩, -, XB, ⟨Lc, hQB, l1, y1, z1⟩, stp⟩ := X.privateBack hx (y := y) hown (mvT hZ w1) (mvT hZ wm) (mvT hZ ws) (Cond.privateMethod_at (mvP hZ wp (args := #[]))) (mvT hZ w4) hy (backOf (W := (st.map fun v => v.category).sum) (Q := fun v h L => Fr n0 L ∧ ∃ A', Q' v A' ∧ Rep Z a0 n0 h A') (hM T.heap RP) hZ w4 w3 hf hl) (g := mkF m pc Ls.toArray (argsL.reverse ++ .ref (ad n0 i) :: st)) rfl (by rw [hml]; simpa using hL) (Steps.refl _) (a := ad n0 i) q1 q2 (argsL := argsL) (rest := st) (lenOf hpd hal) rfl (by show 2 * 0 + _ ≤ _; omega) (hb hby hd) (fun _ _ => ⟨rfl, rfl, hc, hsl⟩)
  dsimp only [Pt.U, Pt.locs, Pt.cells, Pt.slots] at XB l1 y1 z1 stp hQB
  subst l1 y1 z1
  obtain ⟨NB, A', hq, RB⟩ := hQB
  obtain ⟨s₂, o, hs, r⟩ := h _ A' hq TB _ XB (Fr.app N NB) (by rw [hlen' _ _ hq, hAl]; omega) RB
  exact ⟨s₂, o, stp.trans hs, r⟩
end Rules
end Jvm.Pilot.@@N@@
namespace Jvm.Pilot.@@N@@
open Jvm Jvm.ClassFile Sem Op Lib Jvm.Free Jvm.Stand Jvm.LawKit Jvm.RoadKit Bundle Jvm.Pilot.@@N@@.Jvm.D
theorem own_pd0 : parseMethodDescriptor "(C)Z" = some ⟨[.char], some (.boolean)⟩ := by decide +kernel
theorem own_pd1 : parseMethodDescriptor "(III)Z" = some ⟨[.int, .int, .int], some (.boolean)⟩ := by decide +kernel
theorem d1_0 : decode prog_85_method_37_code 0 = .ok (.iload_n 0, 1) := by decide +kernel
theorem d1_1 : decode prog_85_method_37_code 1 = .ok (.sipush 183, 3) := by decide +kernel
theorem d1_4 : decode prog_85_method_37_code 4 = .ok (.if_icmp .eq 31, 3) := by decide +kernel
theorem d1_7 : decode prog_85_method_37_code 7 = .ok (.iload_n 0, 1) := by decide +kernel
theorem d1_8 : decode prog_85_method_37_code 8 = .ok (.sipush 768, 3) := by decide +kernel
theorem d1_11 : decode prog_85_method_37_code 11 = .ok (.if_icmp .lt 10, 3) := by decide +kernel
theorem d1_14 : decode prog_85_method_37_code 14 = .ok (.iload_n 0, 1) := by decide +kernel
theorem d1_15 : decode prog_85_method_37_code 15 = .ok (.sipush 879, 3) := by decide +kernel
theorem d1_18 : decode prog_85_method_37_code 18 = .ok (.if_icmp .le 17, 3) := by decide +kernel
theorem d1_21 : decode prog_85_method_37_code 21 = .ok (.iload_n 0, 1) := by decide +kernel
theorem d1_22 : decode prog_85_method_37_code 22 = .ok (.sipush 8255, 3) := by decide +kernel
theorem d1_25 : decode prog_85_method_37_code 25 = .ok (.if_icmp .lt 14, 3) := by decide +kernel
theorem d1_28 : decode prog_85_method_37_code 28 = .ok (.iload_n 0, 1) := by decide +kernel
theorem d1_29 : decode prog_85_method_37_code 29 = .ok (.sipush 8256, 3) := by decide +kernel
theorem d1_32 : decode prog_85_method_37_code 32 = .ok (.if_icmp .gt 7, 3) := by decide +kernel
theorem d1_35 : decode prog_85_method_37_code 35 = .ok (.iconst 1, 1) := by decide +kernel
theorem d1_36 : decode prog_85_method_37_code 36 = .ok (.goto 4, 3) := by decide +kernel
theorem d1_39 : decode prog_85_method_37_code 39 = .ok (.iconst 0, 1) := by decide +kernel
theorem d1_40 : decode prog_85_method_37_code 40 = .ok (.ireturn, 1) := by decide +kernel
def own_char_21 (l0 : Int32) : Int32 := (if l0 < (8255 : Int32) then (0 : Int32) else (if (8256 : Int32) < l0 then (0 : Int32) else (1 : Int32)))
def own_char (x0 : Int32) : Int32 := (if x0 = (183 : Int32) then (1 : Int32) else (if x0 < (768 : Int32) then own_char_21 x0 else (if (879 : Int32) < x0 then own_char_21 x0 else (1 : Int32))))
theorem own_pn2 : plainName "com/example/sharded_xpath/shardedxpath/store/XmlInput" = true := by first | (simp [plainName, overriddenIn]; done) | decide +kernel
set_option maxRecDepth 65536 in
set_option maxHeartbeats 40000000 in
theorem m_1 (l : Launch) (Z : State) (a0 : Array Value) (hw : ∀ d ∈ tables_1, d.before a0 Z = true) (n0 : Nat) (ws : List Jvm.Cond) (x0 : Int32) (A : AHeap) :
    Meth l Z a0 ws (⟨"com/example/sharded_xpath/shardedxpath/store/XmlInput", "isNameChar", "(C)Z"⟩ : MethodName) prog_85_method_37_code 1 (some (.boolean)) ({ frames := 0, cells := 0, slots := 0, locals := 0 } : Room) 0 0 n0 #[.int x0] A (fun r A' => r = some (.int (own_char x0)) ∧ A' = A) := by
  refine Meth.of own_pn2 (Ls := [.val (.int x0)]) (fun m => by first | rfl | (simp [entryFrame, mkF, argsToLocals, Value.category, maxLocals]; done)) ?_
  intro K G
  have J21 : ∀ (l0 : Int32), own_char x0 = own_char_21 l0 → K 21 [.val (.int l0)] [] A 0 0 := by
    intro l0 he
    refine G.iloadN d1_21 rfl ?_
    refine G.sipush (8255) d1_22 rfl ?_
    refine G.icmp_lt 39 d1_25 (by decide) rfl (fun h25 => ?_) (fun h25 => ?_)
    · replace he := he.trans (if_pos h25)
      refine G.iconst (0) d1_39 rfl ?_
      exact G.zreturn rfl d1_40 rfl (Nat.le_of_ble_eq_true rfl) (Nat.le_of_ble_eq_true rfl) ⟨congrArg (fun z => some (Value.int z)) he.symm, rfl⟩
    · replace he := he.trans (if_neg h25)
      refine G.iloadN d1_28 rfl ?_
      refine G.sipush (8256) d1_29 rfl ?_
      refine G.icmp_gt 39 d1_32 (by decide) rfl (fun h32 => ?_) (fun h32 => ?_)
      · replace he := he.trans (if_pos h32)
        refine G.iconst (0) d1_39 rfl ?_
        exact G.zreturn rfl d1_40 rfl (Nat.le_of_ble_eq_true rfl) (Nat.le_of_ble_eq_true rfl) ⟨congrArg (fun z => some (Value.int z)) he.symm, rfl⟩
      · replace he := he.trans (if_neg h32)
        refine G.iconst (1) d1_35 rfl ?_
        refine G.goto 40 d1_36 (by decide) rfl ?_
        exact G.zreturn rfl d1_40 rfl (Nat.le_of_ble_eq_true rfl) (Nat.le_of_ble_eq_true rfl) ⟨congrArg (fun z => some (Value.int z)) he.symm, rfl⟩
  have he : own_char x0 = own_char x0 := rfl
  refine G.iloadN d1_0 rfl ?_
  refine G.sipush (183) d1_1 rfl ?_
  refine G.icmp_eq 35 d1_4 (by decide) rfl (fun h4 => ?_) (fun h4 => ?_)
  · replace he := he.trans (if_pos h4)
    refine G.iconst (1) d1_35 rfl ?_
    refine G.goto 40 d1_36 (by decide) rfl ?_
    exact G.zreturn rfl d1_40 rfl (Nat.le_of_ble_eq_true rfl) (Nat.le_of_ble_eq_true rfl) ⟨congrArg (fun z => some (Value.int z)) he.symm, rfl⟩
  · replace he := he.trans (if_neg h4)
    refine G.iloadN d1_7 rfl ?_
    refine G.sipush (768) d1_8 rfl ?_
    refine G.icmp_lt 21 d1_11 (by decide) rfl (fun h11 => ?_) (fun h11 => ?_)
    · replace he := he.trans (if_pos h11)
      exact J21 _ he
    · replace he := he.trans (if_neg h11)
      refine G.iloadN d1_14 rfl ?_
      refine G.sipush (879) d1_15 rfl ?_
      refine G.icmp_le 35 d1_18 (by decide) rfl (fun h18 => ?_) (fun h18 => ?_)
      · replace he := he.trans (if_neg h18)
        refine G.iconst (1) d1_35 rfl ?_
        refine G.goto 40 d1_36 (by decide) rfl ?_
        exact G.zreturn rfl d1_40 rfl (Nat.le_of_ble_eq_true rfl) (Nat.le_of_ble_eq_true rfl) ⟨congrArg (fun z => some (Value.int z)) he.symm, rfl⟩
      · replace he := he.trans (if_pos h18)
        exact J21 _ he
theorem d2_0 : decode method_3_code 0 = .ok (.iload_n 0, 1) := by decide +kernel
theorem d2_1 : decode method_3_code 1 = .ok (.iload_n 1, 1) := by decide +kernel
theorem d2_2 : decode method_3_code 2 = .ok (.isub, 1) := by decide +kernel
theorem d2_3 : decode method_3_code 3 = .ok (.istore_n 3, 1) := by decide +kernel
theorem d2_4 : decode method_3_code 4 = .ok (.iload_n 3, 1) := by decide +kernel
theorem d2_5 : decode method_3_code 5 = .ok (.ifCond .lt 12, 3) := by decide +kernel
theorem d2_8 : decode method_3_code 8 = .ok (.iload_n 3, 1) := by decide +kernel
theorem d2_9 : decode method_3_code 9 = .ok (.iload_n 2, 1) := by decide +kernel
theorem d2_10 : decode method_3_code 10 = .ok (.if_icmp .ge 7, 3) := by decide +kernel
theorem d2_13 : decode method_3_code 13 = .ok (.iconst 1, 1) := by decide +kernel
theorem d2_14 : decode method_3_code 14 = .ok (.goto 4, 3) := by decide +kernel
theorem d2_17 : decode method_3_code 17 = .ok (.iconst 0, 1) := by decide +kernel
theorem d2_18 : decode method_3_code 18 = .ok (.ireturn, 1) := by decide +kernel
def own_in (x0 : Int32) (x1 : Int32) (x2 : Int32) : Int32 := (if (x0 - x1) < (0 : Int32) then (0 : Int32) else (if (x0 - x1) < x2 then (1 : Int32) else (0 : Int32)))
theorem own_pn3 : plainName "com/example/sharded_xpath/shardedxpath/store/XmlInputIsNameCharPinLaw" = true := by first | (simp [plainName, overriddenIn]; done) | decide +kernel
set_option maxRecDepth 65536 in
set_option maxHeartbeats 40000000 in
theorem m_2 (l : Launch) (Z : State) (a0 : Array Value) (hw : ∀ d ∈ tables_1, d.before a0 Z = true) (n0 : Nat) (ws : List Jvm.Cond) (x0 : Int32) (x1 : Int32) (x2 : Int32) (A : AHeap) :
    Meth l Z a0 ws (⟨"com/example/sharded_xpath/shardedxpath/store/XmlInputIsNameCharPinLaw", "inRange", "(III)Z"⟩ : MethodName) method_3_code 4 (some (.boolean)) ({ frames := 0, cells := 0, slots := 0, locals := 0 } : Room) 0 0 n0 #[.int x0, .int x1, .int x2] A (fun r A' => r = some (.int (own_in x0 x1 x2)) ∧ A' = A) := by
  refine Meth.of own_pn3 (Ls := [.val (.int x0), .val (.int x1), .val (.int x2), .unset]) (fun m => by first | rfl | (simp [entryFrame, mkF, argsToLocals, Value.category, maxLocals]; done)) ?_
  intro K G
  have he : own_in x0 x1 x2 = own_in x0 x1 x2 := rfl
  refine G.iloadN d2_0 rfl ?_
  refine G.iloadN d2_1 rfl ?_
  refine G.isub d2_2 ?_
  refine G.istoreN3 d2_3 rfl ?_
  refine G.iloadN d2_4 rfl ?_
  refine G.if_lt 17 d2_5 (by decide) rfl (fun h5 => ?_) (fun h5 => ?_)
  · replace he := he.trans (if_pos h5)
    refine G.iconst (0) d2_17 rfl ?_
    exact G.zreturn rfl d2_18 rfl (Nat.le_of_ble_eq_true rfl) (Nat.le_of_ble_eq_true rfl) ⟨congrArg (fun z => some (Value.int z)) he.symm, rfl⟩
  · replace he := he.trans (if_neg h5)
    refine G.iloadN d2_8 rfl ?_
    refine G.iloadN d2_9 rfl ?_
    refine G.icmp_ge 17 d2_10 (by decide) rfl (fun h10 => ?_) (fun h10 => ?_)
    · replace he := he.trans (if_neg h10)
      refine G.iconst (0) d2_17 rfl ?_
      exact G.zreturn rfl d2_18 rfl (Nat.le_of_ble_eq_true rfl) (Nat.le_of_ble_eq_true rfl) ⟨congrArg (fun z => some (Value.int z)) he.symm, rfl⟩
    · replace he := he.trans (if_pos h10)
      refine G.iconst (1) d2_13 rfl ?_
      refine G.goto 18 d2_14 (by decide) rfl ?_
      exact G.zreturn rfl d2_18 rfl (Nat.le_of_ble_eq_true rfl) (Nat.le_of_ble_eq_true rfl) ⟨congrArg (fun z => some (Value.int z)) he.symm, rfl⟩
theorem d3_0 : decode prog_85_method_36_code 0 = .ok (.iload_n 0, 1) := by decide +kernel
theorem d3_1 : decode prog_85_method_36_code 1 = .ok (.sipush 192, 3) := by decide +kernel
theorem d3_4 : decode prog_85_method_36_code 4 = .ok (.if_icmp .lt 10, 3) := by decide +kernel
theorem d3_7 : decode prog_85_method_36_code 7 = .ok (.iload_n 0, 1) := by decide +kernel
theorem d3_8 : decode prog_85_method_36_code 8 = .ok (.sipush 214, 3) := by decide +kernel
theorem d3_11 : decode prog_85_method_36_code 11 = .ok (.if_icmp .le 143, 3) := by decide +kernel
theorem d3_14 : decode prog_85_method_36_code 14 = .ok (.iload_n 0, 1) := by decide +kernel
theorem d3_15 : decode prog_85_method_36_code 15 = .ok (.sipush 216, 3) := by decide +kernel
theorem d3_18 : decode prog_85_method_36_code 18 = .ok (.if_icmp .lt 10, 3) := by decide +kernel
theorem d3_21 : decode prog_85_method_36_code 21 = .ok (.iload_n 0, 1) := by decide +kernel
theorem d3_22 : decode prog_85_method_36_code 22 = .ok (.sipush 246, 3) := by decide +kernel
theorem d3_25 : decode prog_85_method_36_code 25 = .ok (.if_icmp .le 129, 3) := by decide +kernel
theorem d3_28 : decode prog_85_method_36_code 28 = .ok (.iload_n 0, 1) := by decide +kernel
theorem d3_29 : decode prog_85_method_36_code 29 = .ok (.sipush 248, 3) := by decide +kernel
theorem d3_32 : decode prog_85_method_36_code 32 = .ok (.if_icmp .lt 10, 3) := by decide +kernel
theorem d3_35 : decode prog_85_method_36_code 35 = .ok (.iload_n 0, 1) := by decide +kernel
theorem d3_36 : decode prog_85_method_36_code 36 = .ok (.sipush 767, 3) := by decide +kernel
theorem d3_39 : decode prog_85_method_36_code 39 = .ok (.if_icmp .le 115, 3) := by decide +kernel
theorem d3_42 : decode prog_85_method_36_code 42 = .ok (.iload_n 0, 1) := by decide +kernel
theorem d3_43 : decode prog_85_method_36_code 43 = .ok (.sipush 880, 3) := by decide +kernel
theorem d3_46 : decode prog_85_method_36_code 46 = .ok (.if_icmp .lt 10, 3) := by decide +kernel
theorem d3_49 : decode prog_85_method_36_code 49 = .ok (.iload_n 0, 1) := by decide +kernel
theorem d3_50 : decode prog_85_method_36_code 50 = .ok (.sipush 893, 3) := by decide +kernel
theorem d3_53 : decode prog_85_method_36_code 53 = .ok (.if_icmp .le 101, 3) := by decide +kernel
theorem d3_56 : decode prog_85_method_36_code 56 = .ok (.iload_n 0, 1) := by decide +kernel
theorem d3_57 : decode prog_85_method_36_code 57 = .ok (.sipush 895, 3) := by decide +kernel
theorem d3_60 : decode prog_85_method_36_code 60 = .ok (.if_icmp .lt 10, 3) := by decide +kernel
theorem d3_63 : decode prog_85_method_36_code 63 = .ok (.iload_n 0, 1) := by decide +kernel
theorem d3_64 : decode prog_85_method_36_code 64 = .ok (.sipush 8191, 3) := by decide +kernel
theorem d3_67 : decode prog_85_method_36_code 67 = .ok (.if_icmp .le 87, 3) := by decide +kernel
theorem d3_70 : decode prog_85_method_36_code 70 = .ok (.iload_n 0, 1) := by decide +kernel
theorem d3_71 : decode prog_85_method_36_code 71 = .ok (.sipush 8204, 3) := by decide +kernel
theorem d3_74 : decode prog_85_method_36_code 74 = .ok (.if_icmp .lt 10, 3) := by decide +kernel
theorem d3_77 : decode prog_85_method_36_code 77 = .ok (.iload_n 0, 1) := by decide +kernel
theorem d3_78 : decode prog_85_method_36_code 78 = .ok (.sipush 8205, 3) := by decide +kernel
theorem d3_81 : decode prog_85_method_36_code 81 = .ok (.if_icmp .le 73, 3) := by decide +kernel
theorem d3_84 : decode prog_85_method_36_code 84 = .ok (.iload_n 0, 1) := by decide +kernel
theorem d3_85 : decode prog_85_method_36_code 85 = .ok (.sipush 8304, 3) := by decide +kernel
theorem d3_88 : decode prog_85_method_36_code 88 = .ok (.if_icmp .lt 10, 3) := by decide +kernel
theorem d3_91 : decode prog_85_method_36_code 91 = .ok (.iload_n 0, 1) := by decide +kernel
theorem d3_92 : decode prog_85_method_36_code 92 = .ok (.sipush 8591, 3) := by decide +kernel
theorem d3_95 : decode prog_85_method_36_code 95 = .ok (.if_icmp .le 59, 3) := by decide +kernel
theorem d3_98 : decode prog_85_method_36_code 98 = .ok (.iload_n 0, 1) := by decide +kernel
theorem d3_99 : decode prog_85_method_36_code 99 = .ok (.sipush 11264, 3) := by decide +kernel
theorem d3_102 : decode prog_85_method_36_code 102 = .ok (.if_icmp .lt 10, 3) := by decide +kernel
theorem d3_105 : decode prog_85_method_36_code 105 = .ok (.iload_n 0, 1) := by decide +kernel
theorem d3_106 : decode prog_85_method_36_code 106 = .ok (.sipush 12271, 3) := by decide +kernel
theorem d3_109 : decode prog_85_method_36_code 109 = .ok (.if_icmp .le 45, 3) := by decide +kernel
theorem d3_112 : decode prog_85_method_36_code 112 = .ok (.iload_n 0, 1) := by decide +kernel
theorem d3_113 : decode prog_85_method_36_code 113 = .ok (.sipush 12289, 3) := by decide +kernel
theorem d3_116 : decode prog_85_method_36_code 116 = .ok (.if_icmp .lt 10, 3) := by decide +kernel
theorem d3_119 : decode prog_85_method_36_code 119 = .ok (.iload_n 0, 1) := by decide +kernel
theorem d3_120 : decode prog_85_method_36_code 120 = .ok (.ldc_w 384, 3) := by decide +kernel
theorem d3_123 : decode prog_85_method_36_code 123 = .ok (.if_icmp .le 31, 3) := by decide +kernel
theorem d3_126 : decode prog_85_method_36_code 126 = .ok (.iload_n 0, 1) := by decide +kernel
theorem d3_127 : decode prog_85_method_36_code 127 = .ok (.ldc_w 385, 3) := by decide +kernel
theorem d3_130 : decode prog_85_method_36_code 130 = .ok (.if_icmp .lt 10, 3) := by decide +kernel
theorem d3_133 : decode prog_85_method_36_code 133 = .ok (.iload_n 0, 1) := by decide +kernel
theorem d3_134 : decode prog_85_method_36_code 134 = .ok (.ldc_w 386, 3) := by decide +kernel
theorem d3_137 : decode prog_85_method_36_code 137 = .ok (.if_icmp .le 17, 3) := by decide +kernel
theorem d3_140 : decode prog_85_method_36_code 140 = .ok (.iload_n 0, 1) := by decide +kernel
theorem d3_141 : decode prog_85_method_36_code 141 = .ok (.ldc_w 387, 3) := by decide +kernel
theorem d3_144 : decode prog_85_method_36_code 144 = .ok (.if_icmp .lt 14, 3) := by decide +kernel
theorem d3_147 : decode prog_85_method_36_code 147 = .ok (.iload_n 0, 1) := by decide +kernel
theorem d3_148 : decode prog_85_method_36_code 148 = .ok (.ldc_w 388, 3) := by decide +kernel
theorem d3_151 : decode prog_85_method_36_code 151 = .ok (.if_icmp .gt 7, 3) := by decide +kernel
theorem d3_154 : decode prog_85_method_36_code 154 = .ok (.iconst 1, 1) := by decide +kernel
theorem d3_155 : decode prog_85_method_36_code 155 = .ok (.goto 4, 3) := by decide +kernel
theorem d3_158 : decode prog_85_method_36_code 158 = .ok (.iconst 0, 1) := by decide +kernel
theorem d3_159 : decode prog_85_method_36_code 159 = .ok (.ireturn, 1) := by decide +kernel
def own_start_140 (l0 : Int32) : Int32 := (if l0 < (65008 : Int32) then (0 : Int32) else (if (65533 : Int32) < l0 then (0 : Int32) else (1 : Int32)))
def own_start_126 (l0 : Int32) : Int32 := (if l0 < (63744 : Int32) then own_start_140 l0 else (if (64975 : Int32) < l0 then own_start_140 l0 else (1 : Int32)))
def own_start_112 (l0 : Int32) : Int32 := (if l0 < (12289 : Int32) then own_start_126 l0 else (if (55295 : Int32) < l0 then own_start_126 l0 else (1 : Int32)))
def own_start_98 (l0 : Int32) : Int32 := (if l0 < (11264 : Int32) then own_start_112 l0 else (if (12271 : Int32) < l0 then own_start_112 l0 else (1 : Int32)))
def own_start_84 (l0 : Int32) : Int32 := (if l0 < (8304 : Int32) then own_start_98 l0 else (if (8591 : Int32) < l0 then own_start_98 l0 else (1 : Int32)))
def own_start_70 (l0 : Int32) : Int32 := (if l0 < (8204 : Int32) then own_start_84 l0 else (if (8205 : Int32) < l0 then own_start_84 l0 else (1 : Int32)))
def own_start_56 (l0 : Int32) : Int32 := (if l0 < (895 : Int32) then own_start_70 l0 else (if (8191 : Int32) < l0 then own_start_70 l0 else (1 : Int32)))
def own_start_42 (l0 : Int32) : Int32 := (if l0 < (880 : Int32) then own_start_56 l0 else (if (893 : Int32) < l0 then own_start_56 l0 else (1 : Int32)))
def own_start_28 (l0 : Int32) : Int32 := (if l0 < (248 : Int32) then own_start_42 l0 else (if (767 : Int32) < l0 then own_start_42 l0 else (1 : Int32)))
def own_start_14 (l0 : Int32) : Int32 := (if l0 < (216 : Int32) then own_start_28 l0 else (if (246 : Int32) < l0 then own_start_28 l0 else (1 : Int32)))
def own_start (x0 : Int32) : Int32 := (if x0 < (192 : Int32) then own_start_14 x0 else (if (214 : Int32) < x0 then own_start_14 x0 else (1 : Int32)))
set_option maxRecDepth 65536 in
set_option maxHeartbeats 40000000 in
theorem m_3 (l : Launch) (Z : State) (a0 : Array Value) (hw : ∀ d ∈ tables_1, d.before a0 Z = true) (n0 : Nat) (ws : List Jvm.Cond) (x0 : Int32) (A : AHeap) :
    Meth l Z a0 ws (⟨"com/example/sharded_xpath/shardedxpath/store/XmlInput", "isNameStart", "(C)Z"⟩ : MethodName) prog_85_method_36_code 1 (some (.boolean)) ({ frames := 0, cells := 0, slots := 0, locals := 0 } : Room) 0 0 n0 #[.int x0] A (fun r A' => r = some (.int (own_start x0)) ∧ A' = A) := by
  refine Meth.of own_pn2 (Ls := [.val (.int x0)]) (fun m => by first | rfl | (simp [entryFrame, mkF, argsToLocals, Value.category, maxLocals]; done)) ?_
  intro K G
  have J140 : ∀ (l0 : Int32), own_start x0 = own_start_140 l0 → K 140 [.val (.int l0)] [] A 0 0 := by
    intro l0 he
    refine G.iloadN d3_140 rfl ?_
    refine G.ldcwI d3_141 (hw _ (List.mem_of_getElem? (i := 13) rfl)) ?_
    refine G.icmp_lt 158 d3_144 (by decide) rfl (fun h144 => ?_) (fun h144 => ?_)
    · replace he := he.trans (if_pos h144)
      refine G.iconst (0) d3_158 rfl ?_
      exact G.zreturn rfl d3_159 rfl (Nat.le_of_ble_eq_true rfl) (Nat.le_of_ble_eq_true rfl) ⟨congrArg (fun z => some (Value.int z)) he.symm, rfl⟩
    · replace he := he.trans (if_neg h144)
      refine G.iloadN d3_147 rfl ?_
      refine G.ldcwI d3_148 (hw _ (List.mem_of_getElem? (i := 17) rfl)) ?_
      refine G.icmp_gt 158 d3_151 (by decide) rfl (fun h151 => ?_) (fun h151 => ?_)
      · replace he := he.trans (if_pos h151)
        refine G.iconst (0) d3_158 rfl ?_
        exact G.zreturn rfl d3_159 rfl (Nat.le_of_ble_eq_true rfl) (Nat.le_of_ble_eq_true rfl) ⟨congrArg (fun z => some (Value.int z)) he.symm, rfl⟩
      · replace he := he.trans (if_neg h151)
        refine G.iconst (1) d3_154 rfl ?_
        refine G.goto 159 d3_155 (by decide) rfl ?_
        exact G.zreturn rfl d3_159 rfl (Nat.le_of_ble_eq_true rfl) (Nat.le_of_ble_eq_true rfl) ⟨congrArg (fun z => some (Value.int z)) he.symm, rfl⟩
  have J126 : ∀ (l0 : Int32), own_start x0 = own_start_126 l0 → K 126 [.val (.int l0)] [] A 0 0 := by
    intro l0 he
    refine G.iloadN d3_126 rfl ?_
    refine G.ldcwI d3_127 (hw _ (List.mem_of_getElem? (i := 12) rfl)) ?_
    refine G.icmp_lt 140 d3_130 (by decide) rfl (fun h130 => ?_) (fun h130 => ?_)
    · replace he := he.trans (if_pos h130)
      exact J140 _ he
    · replace he := he.trans (if_neg h130)
      refine G.iloadN d3_133 rfl ?_
      refine G.ldcwI d3_134 (hw _ (List.mem_of_getElem? (i := 16) rfl)) ?_
      refine G.icmp_le 154 d3_137 (by decide) rfl (fun h137 => ?_) (fun h137 => ?_)
      · replace he := he.trans (if_neg h137)
        refine G.iconst (1) d3_154 rfl ?_
        refine G.goto 159 d3_155 (by decide) rfl ?_
        exact G.zreturn rfl d3_159 rfl (Nat.le_of_ble_eq_true rfl) (Nat.le_of_ble_eq_true rfl) ⟨congrArg (fun z => some (Value.int z)) he.symm, rfl⟩
      · replace he := he.trans (if_pos h137)
        exact J140 _ he
  have J112 : ∀ (l0 : Int32), own_start x0 = own_start_112 l0 → K 112 [.val (.int l0)] [] A 0 0 := by
    intro l0 he
    refine G.iloadN d3_112 rfl ?_
    refine G.sipush (12289) d3_113 rfl ?_
    refine G.icmp_lt 126 d3_116 (by decide) rfl (fun h116 => ?_) (fun h116 => ?_)
    · replace he := he.trans (if_pos h116)
      exact J126 _ he
    · replace he := he.trans (if_neg h116)
      refine G.iloadN d3_119 rfl ?_
      refine G.ldcwI d3_120 (hw _ (List.mem_of_getElem? (i := 15) rfl)) ?_
      refine G.icmp_le 154 d3_123 (by decide) rfl (fun h123 => ?_) (fun h123 => ?_)
      · replace he := he.trans (if_neg h123)
        refine G.iconst (1) d3_154 rfl ?_
        refine G.goto 159 d3_155 (by decide) rfl ?_
        exact G.zreturn rfl d3_159 rfl (Nat.le_of_ble_eq_true rfl) (Nat.le_of_ble_eq_true rfl) ⟨congrArg (fun z => some (Value.int z)) he.symm, rfl⟩
      · replace he := he.trans (if_pos h123)
        exact J126 _ he
  have J98 : ∀ (l0 : Int32), own_start x0 = own_start_98 l0 → K 98 [.val (.int l0)] [] A 0 0 := by
    intro l0 he
    refine G.iloadN d3_98 rfl ?_
    refine G.sipush (11264) d3_99 rfl ?_
    refine G.icmp_lt 112 d3_102 (by decide) rfl (fun h102 => ?_) (fun h102 => ?_)
    · replace he := he.trans (if_pos h102)
      exact J112 _ he
    · replace he := he.trans (if_neg h102)
      refine G.iloadN d3_105 rfl ?_
      refine G.sipush (12271) d3_106 rfl ?_
      refine G.icmp_le 154 d3_109 (by decide) rfl (fun h109 => ?_) (fun h109 => ?_)
      · replace he := he.trans (if_neg h109)
        refine G.iconst (1) d3_154 rfl ?_
        refine G.goto 159 d3_155 (by decide) rfl ?_
        exact G.zreturn rfl d3_159 rfl (Nat.le_of_ble_eq_true rfl) (Nat.le_of_ble_eq_true rfl) ⟨congrArg (fun z => some (Value.int z)) he.symm, rfl⟩
      · replace he := he.trans (if_pos h109)
        exact J112 _ he
  have J84 : ∀ (l0 : Int32), own_start x0 = own_start_84 l0 → K 84 [.val (.int l0)] [] A 0 0 := by
    intro l0 he
    refine G.iloadN d3_84 rfl ?_
    refine G.sipush (8304) d3_85 rfl ?_
    refine G.icmp_lt 98 d3_88 (by decide) rfl (fun h88 => ?_) (fun h88 => ?_)
    · replace he := he.trans (if_pos h88)
      exact J98 _ he
    · replace he := he.trans (if_neg h88)
      refine G.iloadN d3_91 rfl ?_
      refine G.sipush (8591) d3_92 rfl ?_
      refine G.icmp_le 154 d3_95 (by decide) rfl (fun h95 => ?_) (fun h95 => ?_)
      · replace he := he.trans (if_neg h95)
        refine G.iconst (1) d3_154 rfl ?_
        refine G.goto 159 d3_155 (by decide) rfl ?_
        exact G.zreturn rfl d3_159 rfl (Nat.le_of_ble_eq_true rfl) (Nat.le_of_ble_eq_true rfl) ⟨congrArg (fun z => some (Value.int z)) he.symm, rfl⟩
      · replace he := he.trans (if_pos h95)
        exact J98 _ he
  have J70 : ∀ (l0 : Int32), own_start x0 = own_start_70 l0 → K 70 [.val (.int l0)] [] A 0 0 := by
    intro l0 he
    refine G.iloadN d3_70 rfl ?_
    refine G.sipush (8204) d3_71 rfl ?_
    refine G.icmp_lt 84 d3_74 (by decide) rfl (fun h74 => ?_) (fun h74 => ?_)
    · replace he := he.trans (if_pos h74)
      exact J84 _ he
    · replace he := he.trans (if_neg h74)
      refine G.iloadN d3_77 rfl ?_
      refine G.sipush (8205) d3_78 rfl ?_
      refine G.icmp_le 154 d3_81 (by decide) rfl (fun h81 => ?_) (fun h81 => ?_)
      · replace he := he.trans (if_neg h81)
        refine G.iconst (1) d3_154 rfl ?_
        refine G.goto 159 d3_155 (by decide) rfl ?_
        exact G.zreturn rfl d3_159 rfl (Nat.le_of_ble_eq_true rfl) (Nat.le_of_ble_eq_true rfl) ⟨congrArg (fun z => some (Value.int z)) he.symm, rfl⟩
      · replace he := he.trans (if_pos h81)
        exact J84 _ he
  have J56 : ∀ (l0 : Int32), own_start x0 = own_start_56 l0 → K 56 [.val (.int l0)] [] A 0 0 := by
    intro l0 he
    refine G.iloadN d3_56 rfl ?_
    refine G.sipush (895) d3_57 rfl ?_
    refine G.icmp_lt 70 d3_60 (by decide) rfl (fun h60 => ?_) (fun h60 => ?_)
    · replace he := he.trans (if_pos h60)
      exact J70 _ he
    · replace he := he.trans (if_neg h60)
      refine G.iloadN d3_63 rfl ?_
      refine G.sipush (8191) d3_64 rfl ?_
      refine G.icmp_le 154 d3_67 (by decide) rfl (fun h67 => ?_) (fun h67 => ?_)
      · replace he := he.trans (if_neg h67)
        refine G.iconst (1) d3_154 rfl ?_
        refine G.goto 159 d3_155 (by decide) rfl ?_
        exact G.zreturn rfl d3_159 rfl (Nat.le_of_ble_eq_true rfl) (Nat.le_of_ble_eq_true rfl) ⟨congrArg (fun z => some (Value.int z)) he.symm, rfl⟩
      · replace he := he.trans (if_pos h67)
        exact J70 _ he
  have J42 : ∀ (l0 : Int32), own_start x0 = own_start_42 l0 → K 42 [.val (.int l0)] [] A 0 0 := by
    intro l0 he
    refine G.iloadN d3_42 rfl ?_
    refine G.sipush (880) d3_43 rfl ?_
    refine G.icmp_lt 56 d3_46 (by decide) rfl (fun h46 => ?_) (fun h46 => ?_)
    · replace he := he.trans (if_pos h46)
      exact J56 _ he
    · replace he := he.trans (if_neg h46)
      refine G.iloadN d3_49 rfl ?_
      refine G.sipush (893) d3_50 rfl ?_
      refine G.icmp_le 154 d3_53 (by decide) rfl (fun h53 => ?_) (fun h53 => ?_)
      · replace he := he.trans (if_neg h53)
        refine G.iconst (1) d3_154 rfl ?_
        refine G.goto 159 d3_155 (by decide) rfl ?_
        exact G.zreturn rfl d3_159 rfl (Nat.le_of_ble_eq_true rfl) (Nat.le_of_ble_eq_true rfl) ⟨congrArg (fun z => some (Value.int z)) he.symm, rfl⟩
      · replace he := he.trans (if_pos h53)
        exact J56 _ he
  have J28 : ∀ (l0 : Int32), own_start x0 = own_start_28 l0 → K 28 [.val (.int l0)] [] A 0 0 := by
    intro l0 he
    refine G.iloadN d3_28 rfl ?_
    refine G.sipush (248) d3_29 rfl ?_
    refine G.icmp_lt 42 d3_32 (by decide) rfl (fun h32 => ?_) (fun h32 => ?_)
    · replace he := he.trans (if_pos h32)
      exact J42 _ he
    · replace he := he.trans (if_neg h32)
      refine G.iloadN d3_35 rfl ?_
      refine G.sipush (767) d3_36 rfl ?_
      refine G.icmp_le 154 d3_39 (by decide) rfl (fun h39 => ?_) (fun h39 => ?_)
      · replace he := he.trans (if_neg h39)
        refine G.iconst (1) d3_154 rfl ?_
        refine G.goto 159 d3_155 (by decide) rfl ?_
        exact G.zreturn rfl d3_159 rfl (Nat.le_of_ble_eq_true rfl) (Nat.le_of_ble_eq_true rfl) ⟨congrArg (fun z => some (Value.int z)) he.symm, rfl⟩
      · replace he := he.trans (if_pos h39)
        exact J42 _ he
  have J14 : ∀ (l0 : Int32), own_start x0 = own_start_14 l0 → K 14 [.val (.int l0)] [] A 0 0 := by
    intro l0 he
    refine G.iloadN d3_14 rfl ?_
    refine G.sipush (216) d3_15 rfl ?_
    refine G.icmp_lt 28 d3_18 (by decide) rfl (fun h18 => ?_) (fun h18 => ?_)
    · replace he := he.trans (if_pos h18)
      exact J28 _ he
    · replace he := he.trans (if_neg h18)
      refine G.iloadN d3_21 rfl ?_
      refine G.sipush (246) d3_22 rfl ?_
      refine G.icmp_le 154 d3_25 (by decide) rfl (fun h25 => ?_) (fun h25 => ?_)
      · replace he := he.trans (if_neg h25)
        refine G.iconst (1) d3_154 rfl ?_
        refine G.goto 159 d3_155 (by decide) rfl ?_
        exact G.zreturn rfl d3_159 rfl (Nat.le_of_ble_eq_true rfl) (Nat.le_of_ble_eq_true rfl) ⟨congrArg (fun z => some (Value.int z)) he.symm, rfl⟩
      · replace he := he.trans (if_pos h25)
        exact J28 _ he
  have he : own_start x0 = own_start x0 := rfl
  refine G.iloadN d3_0 rfl ?_
  refine G.sipush (192) d3_1 rfl ?_
  refine G.icmp_lt 14 d3_4 (by decide) rfl (fun h4 => ?_) (fun h4 => ?_)
  · replace he := he.trans (if_pos h4)
    exact J14 _ he
  · replace he := he.trans (if_neg h4)
    refine G.iloadN d3_7 rfl ?_
    refine G.sipush (214) d3_8 rfl ?_
    refine G.icmp_le 154 d3_11 (by decide) rfl (fun h11 => ?_) (fun h11 => ?_)
    · replace he := he.trans (if_neg h11)
      refine G.iconst (1) d3_154 rfl ?_
      refine G.goto 159 d3_155 (by decide) rfl ?_
      exact G.zreturn rfl d3_159 rfl (Nat.le_of_ble_eq_true rfl) (Nat.le_of_ble_eq_true rfl) ⟨congrArg (fun z => some (Value.int z)) he.symm, rfl⟩
    · replace he := he.trans (if_pos h11)
      exact J14 _ he
def own_law_138 (l0 : Int32) (l1 : Int32) (l2 : Int32) (l3 : Int32) (l4 : Int32) (l5 : Int32) (s0 : Int32) : Int32 := (if l5 = s0 then (if l5 = (0 : Int32) then (1 : Int32) else (if (own_start l4) = (0 : Int32) then (1 : Int32) else (0 : Int32))) else (0 : Int32))
def own_law_133 (l0 : Int32) (l1 : Int32) (l2 : Int32) (l3 : Int32) (l4 : Int32) (l5 : Int32) : Int32 := own_law_138 l0 l1 l2 l3 l4 l5 (1 : Int32)
def own_law_74 (l0 : Int32) (l1 : Int32) (l2 : Int32) (l4 : Int32) (s0 : Int32) : Int32 := (if (own_in (s0 + (((l2 &&& (2147483647 : Int32)) % (5 : Int32)) - (2 : Int32))) (183 : Int32) (1 : Int32)) = (0 : Int32) then (if (own_in (s0 + (((l2 &&& (2147483647 : Int32)) % (5 : Int32)) - (2 : Int32))) (768 : Int32) (112 : Int32)) = (0 : Int32) then (if (own_in (s0 + (((l2 &&& (2147483647 : Int32)) % (5 : Int32)) - (2 : Int32))) (8255 : Int32) (2 : Int32)) = (0 : Int32) then own_law_138 l0 l1 l2 (s0 + (((l2 &&& (2147483647 : Int32)) % (5 : Int32)) - (2 : Int32))) ((s0 + (((l2 &&& (2147483647 : Int32)) % (5 : Int32)) - (2 : Int32))).toUInt32.toUInt16.toUInt32.toInt32) (own_char ((s0 + (((l2 &&& (2147483647 : Int32)) % (5 : Int32)) - (2 : Int32))).toUInt32.toUInt16.toUInt32.toInt32)) (0 : Int32) else own_law_133 l0 l1 l2 (s0 + (((l2 &&& (2147483647 : Int32)) % (5 : Int32)) - (2 : Int32))) ((s0 + (((l2 &&& (2147483647 : Int32)) % (5 : Int32)) - (2 : Int32))).toUInt32.toUInt16.toUInt32.toInt32) (own_char ((s0 + (((l2 &&& (2147483647 : Int32)) % (5 : Int32)) - (2 : Int32))).toUInt32.toUInt16.toUInt32.toInt32))) else own_law_133 l0 l1 l2 (s0 + (((l2 &&& (2147483647 : Int32)) % (5 : Int32)) - (2 : Int32))) ((s0 + (((l2 &&& (2147483647 : Int32)) % (5 : Int32)) - (2 : Int32))).toUInt32.toUInt16.toUInt32.toInt32) (own_char ((s0 + (((l2 &&& (2147483647 : Int32)) % (5 : Int32)) - (2 : Int32))).toUInt32.toUInt16.toUInt32.toInt32))) else own_law_133 l0 l1 l2 (s0 + (((l2 &&& (2147483647 : Int32)) % (5 : Int32)) - (2 : Int32))) ((s0 + (((l2 &&& (2147483647 : Int32)) % (5 : Int32)) - (2 : Int32))).toUInt32.toUInt16.toUInt32.toInt32) (own_char ((s0 + (((l2 &&& (2147483647 : Int32)) % (5 : Int32)) - (2 : Int32))).toUInt32.toUInt16.toUInt32.toInt32)))
def own_law (x0 : Int32) (x1 : Int32) (x2 : Int32) : Int32 := (if (x1 &&& (1 : Int32)) = (0 : Int32) then (if (own_in (x0 &&& (65535 : Int32)) (183 : Int32) (1 : Int32)) = (0 : Int32) then (if (own_in (x0 &&& (65535 : Int32)) (768 : Int32) (112 : Int32)) = (0 : Int32) then (if (own_in (x0 &&& (65535 : Int32)) (8255 : Int32) (2 : Int32)) = (0 : Int32) then own_law_138 x0 x1 x2 (x0 &&& (65535 : Int32)) ((x0 &&& (65535 : Int32)).toUInt32.toUInt16.toUInt32.toInt32) (own_char ((x0 &&& (65535 : Int32)).toUInt32.toUInt16.toUInt32.toInt32)) (0 : Int32) else own_law_133 x0 x1 x2 (x0 &&& (65535 : Int32)) ((x0 &&& (65535 : Int32)).toUInt32.toUInt16.toUInt32.toInt32) (own_char ((x0 &&& (65535 : Int32)).toUInt32.toUInt16.toUInt32.toInt32))) else own_law_133 x0 x1 x2 (x0 &&& (65535 : Int32)) ((x0 &&& (65535 : Int32)).toUInt32.toUInt16.toUInt32.toInt32) (own_char ((x0 &&& (65535 : Int32)).toUInt32.toUInt16.toUInt32.toInt32))) else own_law_133 x0 x1 x2 (x0 &&& (65535 : Int32)) ((x0 &&& (65535 : Int32)).toUInt32.toUInt16.toUInt32.toInt32) (own_char ((x0 &&& (65535 : Int32)).toUInt32.toUInt16.toUInt32.toInt32))) else (if (((ushr x1 (1 : Int32)) &&& (2147483647 : Int32)) % (5 : Int32)) = (0 : Int32) then own_law_74 x0 x1 x2 (((ushr x1 (1 : Int32)) &&& (2147483647 : Int32)) % (5 : Int32)) (183 : Int32) else (if (((ushr x1 (1 : Int32)) &&& (2147483647 : Int32)) % (5 : Int32)) = (1 : Int32) then own_law_74 x0 x1 x2 (((ushr x1 (1 : Int32)) &&& (2147483647 : Int32)) % (5 : Int32)) (768 : Int32) else (if (((ushr x1 (1 : Int32)) &&& (2147483647 : Int32)) % (5 : Int32)) = (2 : Int32) then own_law_74 x0 x1 x2 (((ushr x1 (1 : Int32)) &&& (2147483647 : Int32)) % (5 : Int32)) (879 : Int32) else (if (((ushr x1 (1 : Int32)) &&& (2147483647 : Int32)) % (5 : Int32)) = (3 : Int32) then own_law_74 x0 x1 x2 (((ushr x1 (1 : Int32)) &&& (2147483647 : Int32)) % (5 : Int32)) (8255 : Int32) else own_law_74 x0 x1 x2 (((ushr x1 (1 : Int32)) &&& (2147483647 : Int32)) % (5 : Int32)) (8256 : Int32))))))
set_option maxRecDepth 65536 in
set_option maxHeartbeats 40000000 in
theorem m_0 (l : Launch) (Z : State) (a0 : Array Value) (hw : ∀ d ∈ tables_1, d.before a0 Z = true) (n0 : Nat) (ws : List Jvm.Cond) (x0 : Int32) (x1 : Int32) (x2 : Int32)  :
    Meth l Z a0 ws x code maxLocals ret room_1 0 0 n0 #[.int x0, .int x1, .int x2] ([] : AHeap) (fun r A' => r = some (.int (own_law x0 x1 x2)) ∧ A' = ([] : AHeap)) := by
  refine Meth.of own_pn3 (Ls := [.val (.int x0), .val (.int x1), .val (.int x2), .unset, .unset, .unset, .unset]) (fun m => by first | rfl | (simp [entryFrame, mkF, argsToLocals, Value.category, maxLocals]; done)) ?_
  intro K G
  have J138 : ∀ (l0 : Int32) (l1 : Int32) (l2 : Int32) (l3 : Int32) (l4 : Int32) (l5 : Int32) (s0 : Int32), own_law x0 x1 x2 = own_law_138 l0 l1 l2 l3 l4 l5 s0 → K 138 [.val (.int l0), .val (.int l1), .val (.int l2), .val (.int l3), .val (.int l4), .val (.int l5), .unset] [.int s0] ([] : AHeap) 0 0 := by
    intro l0 l1 l2 l3 l4 l5 s0 he
    refine G.istore6 at_138 rfl ?_
    refine G.iload at_140 rfl ?_
    refine G.iload at_142 rfl ?_
    refine G.icmp_ne 164 at_144 (by decide) rfl (fun h144 => ?_) (fun h144 => ?_)
    · replace he := he.trans (if_neg h144)
      refine G.iconst (0) at_164 rfl ?_
      exact G.zreturn rfl at_165 rfl (Nat.le_of_ble_eq_true rfl) (Nat.le_of_ble_eq_true rfl) ⟨congrArg (fun z => some (Value.int z)) he.symm, rfl⟩
    · replace he := he.trans (if_pos h144)
      refine G.iload at_147 rfl ?_
      refine G.if_eq 160 at_149 (by decide) rfl (fun h149 => ?_) (fun h149 => ?_)
      · replace he := he.trans (if_pos h149)
        refine G.iconst (1) at_160 rfl ?_
        refine G.goto 165 at_161 (by decide) rfl ?_
        exact G.zreturn rfl at_165 rfl (Nat.le_of_ble_eq_true rfl) (Nat.le_of_ble_eq_true rfl) ⟨congrArg (fun z => some (Value.int z)) he.symm, rfl⟩
      · replace he := he.trans (if_neg h149)
        refine G.iload at_152 rfl ?_
        refine G.scall [_] rfl at_154 (hw _ (List.mem_of_getElem? (i := 9) rfl)) (hw _ (List.mem_of_getElem? (i := 10) rfl)) (hw _ (List.mem_of_getElem? (i := 3) rfl)) (hw _ (List.mem_of_getElem? (i := 11) rfl)) (by decide) (m_3 l Z a0 hw n0 [] _ ([] : AHeap)) own_pd0 rfl rfl (Nat.le_of_ble_eq_true rfl) (Nat.le_of_ble_eq_true rfl) (Nat.le_of_ble_eq_true rfl) (Nat.le_of_ble_eq_true rfl) (by rintro _ _ ⟨rfl, rfl⟩; rfl) ?_
        rintro _ _ ⟨rfl, rfl⟩
        refine G.if_ne 164 at_157 (by decide) rfl (fun h157 => ?_) (fun h157 => ?_)
        · replace he := he.trans (if_neg h157)
          refine G.iconst (0) at_164 rfl ?_
          exact G.zreturn rfl at_165 rfl (Nat.le_of_ble_eq_true rfl) (Nat.le_of_ble_eq_true rfl) ⟨congrArg (fun z => some (Value.int z)) he.symm, rfl⟩
        · replace he := he.trans (if_pos h157)
          refine G.iconst (1) at_160 rfl ?_
          refine G.goto 165 at_161 (by decide) rfl ?_
          exact G.zreturn rfl at_165 rfl (Nat.le_of_ble_eq_true rfl) (Nat.le_of_ble_eq_true rfl) ⟨congrArg (fun z => some (Value.int z)) he.symm, rfl⟩
  have J133 : ∀ (l0 : Int32) (l1 : Int32) (l2 : Int32) (l3 : Int32) (l4 : Int32) (l5 : Int32), own_law x0 x1 x2 = own_law_133 l0 l1 l2 l3 l4 l5 → K 133 [.val (.int l0), .val (.int l1), .val (.int l2), .val (.int l3), .val (.int l4), .val (.int l5), .unset] [] ([] : AHeap) 0 0 := by
    intro l0 l1 l2 l3 l4 l5 he
    refine G.iconst (1) at_133 rfl ?_
    refine G.goto 138 at_134 (by decide) rfl ?_
    exact J138 _ _ _ _ _ _ _ he
  have J74 : ∀ (l0 : Int32) (l1 : Int32) (l2 : Int32) (l4 : Int32) (s0 : Int32), own_law x0 x1 x2 = own_law_74 l0 l1 l2 l4 s0 → K 74 [.val (.int l0), .val (.int l1), .val (.int l2), .unset, .val (.int l4), .unset, .unset] [.int s0] ([] : AHeap) 0 0 := by
    intro l0 l1 l2 l4 s0 he
    refine G.istore5 at_74 rfl ?_
    refine G.iload at_76 rfl ?_
    refine G.iloadN at_78 rfl ?_
    refine G.ldcI at_79 (hw _ (List.mem_of_getElem? (i := 0) rfl)) ?_
    refine G.iand at_81 ?_
    refine G.iconst (5) at_82 rfl ?_
    refine G.irem at_83 (by decide) ?_
    refine G.iconst (2) at_84 rfl ?_
    refine G.isub at_85 ?_
    refine G.iadd at_86 ?_
    refine G.istoreN3 at_87 rfl ?_
    refine G.iloadN at_88 rfl ?_
    refine G.i2c at_89 ?_
    refine G.istore4 at_90 rfl ?_
    refine G.iload at_92 rfl ?_
    refine G.scall [_] rfl at_94 (hw _ (List.mem_of_getElem? (i := 1) rfl)) (hw _ (List.mem_of_getElem? (i := 2) rfl)) (hw _ (List.mem_of_getElem? (i := 3) rfl)) (hw _ (List.mem_of_getElem? (i := 4) rfl)) (by decide) (m_1 l Z a0 hw n0 [] _ ([] : AHeap)) own_pd0 rfl rfl (Nat.le_of_ble_eq_true rfl) (Nat.le_of_ble_eq_true rfl) (Nat.le_of_ble_eq_true rfl) (Nat.le_of_ble_eq_true rfl) (by rintro _ _ ⟨rfl, rfl⟩; rfl) ?_
    rintro _ _ ⟨rfl, rfl⟩
    refine G.istore5 at_97 rfl ?_
    refine G.iloadN at_99 rfl ?_
    refine G.sipush (183) at_100 rfl ?_
    refine G.iconst (1) at_103 rfl ?_
    refine G.scall [_, _, _] rfl at_104 (hw _ (List.mem_of_getElem? (i := 5) rfl)) (hw _ (List.mem_of_getElem? (i := 6) rfl)) (hw _ (List.mem_of_getElem? (i := 7) rfl)) (hw _ (List.mem_of_getElem? (i := 8) rfl)) (by decide) (m_2 l Z a0 hw n0 [] _ _ _ ([] : AHeap)) own_pd1 rfl rfl (Nat.le_of_ble_eq_true rfl) (Nat.le_of_ble_eq_true rfl) (Nat.le_of_ble_eq_true rfl) (Nat.le_of_ble_eq_true rfl) (by rintro _ _ ⟨rfl, rfl⟩; rfl) ?_
    rintro _ _ ⟨rfl, rfl⟩
    refine G.if_ne 133 at_107 (by decide) rfl (fun h107 => ?_) (fun h107 => ?_)
    · replace he := he.trans (if_neg h107)
      exact J133 _ _ _ _ _ _ he
    · replace he := he.trans (if_pos h107)
      refine G.iloadN at_110 rfl ?_
      refine G.sipush (768) at_111 rfl ?_
      refine G.bipush (112) at_114 rfl ?_
      refine G.scall [_, _, _] rfl at_116 (hw _ (List.mem_of_getElem? (i := 5) rfl)) (hw _ (List.mem_of_getElem? (i := 6) rfl)) (hw _ (List.mem_of_getElem? (i := 7) rfl)) (hw _ (List.mem_of_getElem? (i := 8) rfl)) (by decide) (m_2 l Z a0 hw n0 [] _ _ _ ([] : AHeap)) own_pd1 rfl rfl (Nat.le_of_ble_eq_true rfl) (Nat.le_of_ble_eq_true rfl) (Nat.le_of_ble_eq_true rfl) (Nat.le_of_ble_eq_true rfl) (by rintro _ _ ⟨rfl, rfl⟩; rfl) ?_
      rintro _ _ ⟨rfl, rfl⟩
      refine G.if_ne 133 at_119 (by decide) rfl (fun h119 => ?_) (fun h119 => ?_)
      · replace he := he.trans (if_neg h119)
        exact J133 _ _ _ _ _ _ he
      · replace he := he.trans (if_pos h119)
        refine G.iloadN at_122 rfl ?_
        refine G.sipush (8255) at_123 rfl ?_
        refine G.iconst (2) at_126 rfl ?_
        refine G.scall [_, _, _] rfl at_127 (hw _ (List.mem_of_getElem? (i := 5) rfl)) (hw _ (List.mem_of_getElem? (i := 6) rfl)) (hw _ (List.mem_of_getElem? (i := 7) rfl)) (hw _ (List.mem_of_getElem? (i := 8) rfl)) (by decide) (m_2 l Z a0 hw n0 [] _ _ _ ([] : AHeap)) own_pd1 rfl rfl (Nat.le_of_ble_eq_true rfl) (Nat.le_of_ble_eq_true rfl) (Nat.le_of_ble_eq_true rfl) (Nat.le_of_ble_eq_true rfl) (by rintro _ _ ⟨rfl, rfl⟩; rfl) ?_
        rintro _ _ ⟨rfl, rfl⟩
        refine G.if_eq 137 at_130 (by decide) rfl (fun h130 => ?_) (fun h130 => ?_)
        · replace he := he.trans (if_pos h130)
          refine G.iconst (0) at_137 rfl ?_
          exact J138 _ _ _ _ _ _ _ he
        · replace he := he.trans (if_neg h130)
          exact J133 _ _ _ _ _ _ he
  have he : own_law x0 x1 x2 = own_law x0 x1 x2 := rfl
  refine G.iloadN at_0 rfl ?_
  refine G.iconst (1) at_1 rfl ?_
  refine G.iand at_2 ?_
  refine G.if_ne 14 at_3 (by decide) rfl (fun h3 => ?_) (fun h3 => ?_)
  · replace he := he.trans (if_neg h3)
    refine G.iloadN at_14 rfl ?_
    refine G.iconst (1) at_15 rfl ?_
    refine G.iushr at_16 ?_
    refine G.ldcI at_17 (hw _ (List.mem_of_getElem? (i := 0) rfl)) ?_
    refine G.iand at_19 ?_
    refine G.iconst (5) at_20 rfl ?_
    refine G.irem at_21 (by decide) ?_
    refine G.istore4 at_22 rfl ?_
    refine G.iload at_24 rfl ?_
    refine G.if_ne 35 at_26 (by decide) rfl (fun h26 => ?_) (fun h26 => ?_)
    · replace he := he.trans (if_neg h26)
      refine G.iload at_35 rfl ?_
      refine G.iconst (1) at_37 rfl ?_
      refine G.icmp_ne 47 at_38 (by decide) rfl (fun h38 => ?_) (fun h38 => ?_)
      · replace he := he.trans (if_neg h38)
        refine G.iload at_47 rfl ?_
        refine G.iconst (2) at_49 rfl ?_
        refine G.icmp_ne 59 at_50 (by decide) rfl (fun h50 => ?_) (fun h50 => ?_)
        · replace he := he.trans (if_neg h50)
          refine G.iload at_59 rfl ?_
          refine G.iconst (3) at_61 rfl ?_
          refine G.icmp_ne 71 at_62 (by decide) rfl (fun h62 => ?_) (fun h62 => ?_)
          · replace he := he.trans (if_neg h62)
            refine G.sipush (8256) at_71 rfl ?_
            exact J74 _ _ _ _ _ he
          · replace he := he.trans (if_pos h62)
            refine G.sipush (8255) at_65 rfl ?_
            refine G.goto 74 at_68 (by decide) rfl ?_
            exact J74 _ _ _ _ _ he
        · replace he := he.trans (if_pos h50)
          refine G.sipush (879) at_53 rfl ?_
          refine G.goto 74 at_56 (by decide) rfl ?_
          exact J74 _ _ _ _ _ he
      · replace he := he.trans (if_pos h38)
        refine G.sipush (768) at_41 rfl ?_
        refine G.goto 74 at_44 (by decide) rfl ?_
        exact J74 _ _ _ _ _ he
    · replace he := he.trans (if_pos h26)
      refine G.sipush (183) at_29 rfl ?_
      refine G.goto 74 at_32 (by decide) rfl ?_
      exact J74 _ _ _ _ _ he
  · replace he := he.trans (if_pos h3)
    refine G.iloadN at_6 rfl ?_
    refine G.ldcI at_7 (hw _ (List.mem_of_getElem? (i := 14) rfl)) ?_
    refine G.iand at_9 ?_
    refine G.istoreN3 at_10 rfl ?_
    refine G.goto 88 at_11 (by decide) rfl ?_
    refine G.iloadN at_88 rfl ?_
    refine G.i2c at_89 ?_
    refine G.istore4 at_90 rfl ?_
    refine G.iload at_92 rfl ?_
    refine G.scall [_] rfl at_94 (hw _ (List.mem_of_getElem? (i := 1) rfl)) (hw _ (List.mem_of_getElem? (i := 2) rfl)) (hw _ (List.mem_of_getElem? (i := 3) rfl)) (hw _ (List.mem_of_getElem? (i := 4) rfl)) (by decide) (m_1 l Z a0 hw n0 [] _ ([] : AHeap)) own_pd0 rfl rfl (Nat.le_of_ble_eq_true rfl) (Nat.le_of_ble_eq_true rfl) (Nat.le_of_ble_eq_true rfl) (Nat.le_of_ble_eq_true rfl) (by rintro _ _ ⟨rfl, rfl⟩; rfl) ?_
    rintro _ _ ⟨rfl, rfl⟩
    refine G.istore5 at_97 rfl ?_
    refine G.iloadN at_99 rfl ?_
    refine G.sipush (183) at_100 rfl ?_
    refine G.iconst (1) at_103 rfl ?_
    refine G.scall [_, _, _] rfl at_104 (hw _ (List.mem_of_getElem? (i := 5) rfl)) (hw _ (List.mem_of_getElem? (i := 6) rfl)) (hw _ (List.mem_of_getElem? (i := 7) rfl)) (hw _ (List.mem_of_getElem? (i := 8) rfl)) (by decide) (m_2 l Z a0 hw n0 [] _ _ _ ([] : AHeap)) own_pd1 rfl rfl (Nat.le_of_ble_eq_true rfl) (Nat.le_of_ble_eq_true rfl) (Nat.le_of_ble_eq_true rfl) (Nat.le_of_ble_eq_true rfl) (by rintro _ _ ⟨rfl, rfl⟩; rfl) ?_
    rintro _ _ ⟨rfl, rfl⟩
    refine G.if_ne 133 at_107 (by decide) rfl (fun h107 => ?_) (fun h107 => ?_)
    · replace he := he.trans (if_neg h107)
      exact J133 _ _ _ _ _ _ he
    · replace he := he.trans (if_pos h107)
      refine G.iloadN at_110 rfl ?_
      refine G.sipush (768) at_111 rfl ?_
      refine G.bipush (112) at_114 rfl ?_
      refine G.scall [_, _, _] rfl at_116 (hw _ (List.mem_of_getElem? (i := 5) rfl)) (hw _ (List.mem_of_getElem? (i := 6) rfl)) (hw _ (List.mem_of_getElem? (i := 7) rfl)) (hw _ (List.mem_of_getElem? (i := 8) rfl)) (by decide) (m_2 l Z a0 hw n0 [] _ _ _ ([] : AHeap)) own_pd1 rfl rfl (Nat.le_of_ble_eq_true rfl) (Nat.le_of_ble_eq_true rfl) (Nat.le_of_ble_eq_true rfl) (Nat.le_of_ble_eq_true rfl) (by rintro _ _ ⟨rfl, rfl⟩; rfl) ?_
      rintro _ _ ⟨rfl, rfl⟩
      refine G.if_ne 133 at_119 (by decide) rfl (fun h119 => ?_) (fun h119 => ?_)
      · replace he := he.trans (if_neg h119)
        exact J133 _ _ _ _ _ _ he
      · replace he := he.trans (if_pos h119)
        refine G.iloadN at_122 rfl ?_
        refine G.sipush (8255) at_123 rfl ?_
        refine G.iconst (2) at_126 rfl ?_
        refine G.scall [_, _, _] rfl at_127 (hw _ (List.mem_of_getElem? (i := 5) rfl)) (hw _ (List.mem_of_getElem? (i := 6) rfl)) (hw _ (List.mem_of_getElem? (i := 7) rfl)) (hw _ (List.mem_of_getElem? (i := 8) rfl)) (by decide) (m_2 l Z a0 hw n0 [] _ _ _ ([] : AHeap)) own_pd1 rfl rfl (Nat.le_of_ble_eq_true rfl) (Nat.le_of_ble_eq_true rfl) (Nat.le_of_ble_eq_true rfl) (Nat.le_of_ble_eq_true rfl) (by rintro _ _ ⟨rfl, rfl⟩; rfl) ?_
        rintro _ _ ⟨rfl, rfl⟩
        refine G.if_eq 137 at_130 (by decide) rfl (fun h130 => ?_) (fun h130 => ?_)
        · replace he := he.trans (if_pos h130)
          refine G.iconst (0) at_137 rfl ?_
          exact J138 _ _ _ _ _ _ _ he
        · replace he := he.trans (if_neg h130)
          exact J133 _ _ _ _ _ _ he
theorem own_lt (a b : Int32) : a < b ↔ a.toInt < b.toInt := Int32.lt_iff_toInt_lt
theorem own_eq (a b : Int32) : a = b ↔ a.toInt = b.toInt := Int32.toInt_inj.symm
theorem own_rng (c lo hi n : Int32) (L H : Int) (hL : lo.toInt = L) (hH : hi.toInt = H) : (if c < lo then n else if hi < c then n else 1) = if L ≤ c.toInt ∧ c.toInt ≤ H then 1 else n := by
  subst hL hH
  simp only [Int32.lt_iff_toInt_lt]
  by_cases h1 : c.toInt < lo.toInt
  · rw [if_pos h1, if_neg (by omega)]
  · rw [if_neg h1]
    by_cases h2 : hi.toInt < c.toInt
    · rw [if_pos h2, if_neg (by omega)]
    · rw [if_neg h2, if_pos (by omega)]
theorem own_one (c v n : Int32) (V : Int) (hV : v.toInt = V) : (if c = v then 1 else n) = if c.toInt = V then 1 else n := by
  subst hV
  simp only [← Int32.toInt_inj]
theorem own_hi (c v n : Int32) (V : Int) (hV : v.toInt = V) : (if v < c then n else 1) = if c.toInt ≤ V then 1 else n := by
  subst hV
  simp only [Int32.lt_iff_toInt_lt]
  by_cases h : v.toInt < c.toInt
  · rw [if_pos h, if_neg (by omega)]
  · rw [if_neg h, if_pos (by omega)]
theorem own_lo (c v n : Int32) (V : Int) (hV : v.toInt = V) : (if c < v then n else 1) = if V ≤ c.toInt then 1 else n := by
  subst hV
  simp only [Int32.lt_iff_toInt_lt]
  by_cases h : c.toInt < v.toInt
  · rw [if_pos h, if_neg (by omega)]
  · rw [if_neg h, if_pos (by omega)]
theorem own_i2c (v : Int32) (h0 : 0 ≤ v.toInt) (h1 : v.toInt < 65536) : v.toUInt32.toUInt16.toUInt32.toInt32 = v := by
  have hv : (v.toBitVec.toNat : Int) = v.toInt := by
    have e : v.toInt = v.toBitVec.toInt := rfl
    rw [e, BitVec.toInt_eq_toNat_cond] at h0 h1 ⊢
    split
    · rfl
    · rename_i q; rw [if_neg q] at h0; have := v.toBitVec.isLt; omega
  apply Int32.toBitVec_inj.mp
  apply BitVec.eq_of_toNat_eq
  have e : v.toUInt32.toUInt16.toUInt32.toInt32.toBitVec.toNat = v.toBitVec.toNat % 65536 % 4294967296 := by
    show v.toUInt32.toUInt16.toUInt32.toNat = _
    have q : v.toUInt32.toNat = v.toBitVec.toNat := rfl
    simp
    rw [q]
    omega
  rw [e]
  omega
theorem own_start_eq (c : Int32) : own_start c = if 192 ≤ c.toInt ∧ c.toInt ≤ 214 then 1 else if 216 ≤ c.toInt ∧ c.toInt ≤ 246 then 1 else if 248 ≤ c.toInt ∧ c.toInt ≤ 767 then 1 else if 880 ≤ c.toInt ∧ c.toInt ≤ 893 then 1 else if 895 ≤ c.toInt ∧ c.toInt ≤ 8191 then 1 else if 8204 ≤ c.toInt ∧ c.toInt ≤ 8205 then 1 else if 8304 ≤ c.toInt ∧ c.toInt ≤ 8591 then 1 else if 11264 ≤ c.toInt ∧ c.toInt ≤ 12271 then 1 else if 12289 ≤ c.toInt ∧ c.toInt ≤ 55295 then 1 else if 63744 ≤ c.toInt ∧ c.toInt ≤ 64975 then 1 else if 65008 ≤ c.toInt ∧ c.toInt ≤ 65533 then 1 else 0 := by
  rw [own_start, own_rng _ _ _ _ 192 214 (by decide) (by decide), own_start_14, own_rng _ _ _ _ 216 246 (by decide) (by decide), own_start_28, own_rng _ _ _ _ 248 767 (by decide) (by decide), own_start_42, own_rng _ _ _ _ 880 893 (by decide) (by decide), own_start_56, own_rng _ _ _ _ 895 8191 (by decide) (by decide), own_start_70, own_rng _ _ _ _ 8204 8205 (by decide) (by decide), own_start_84, own_rng _ _ _ _ 8304 8591 (by decide) (by decide), own_start_98, own_rng _ _ _ _ 11264 12271 (by decide) (by decide), own_start_112, own_rng _ _ _ _ 12289 55295 (by decide) (by decide), own_start_126, own_rng _ _ _ _ 63744 64975 (by decide) (by decide), own_start_140, own_rng _ _ _ _ 65008 65533 (by decide) (by decide)]
theorem own_char_eq (c : Int32) : own_char c = if c.toInt = 183 then 1 else if 768 ≤ c.toInt ∧ c.toInt ≤ 879 then 1 else if 8255 ≤ c.toInt ∧ c.toInt ≤ 8256 then 1 else 0 := by
  rw [own_char, own_one _ _ _ 183 (by decide), own_rng _ _ _ _ 768 879 (by decide) (by decide), own_char_21, own_rng _ _ _ _ 8255 8256 (by decide) (by decide)]
theorem own_in_eq (c s n : Int32) (S N : Int) (hS : s.toInt = S) (hN : n.toInt = N) (h0 : 0 ≤ c.toInt) (h1 : c.toInt ≤ 65535) (hs : 0 ≤ S) (hs' : S ≤ 65535) : own_in c s n = if S ≤ c.toInt ∧ c.toInt < S + N then 1 else 0 := by
  subst hS hN
  have e : (c - s).toInt = c.toInt - s.toInt := Jvm.Kit.i32_sub (by omega) (by omega)
  unfold own_in
  simp only [Int32.lt_iff_toInt_lt]
  have z : (0 : Int32).toInt = 0 := by decide
  rw [e, z]
  by_cases q1 : c.toInt - s.toInt < 0
  · rw [if_pos q1, if_neg (by omega)]
  · rw [if_neg q1]
    by_cases q2 : c.toInt - s.toInt < n.toInt
    · rw [if_pos q2, if_pos (by omega)]
    · rw [if_neg q2, if_neg (by omega)]
theorem own_tail (l0 l1 l2 l3 c : Int32) (h0 : 0 ≤ c.toInt) (h1 : c.toInt ≤ 65535) : (if own_in c 183 1 = 0 then (if own_in c 768 112 = 0 then (if own_in c 8255 2 = 0 then own_law_138 l0 l1 l2 l3 c (own_char c) 0 else own_law_133 l0 l1 l2 l3 c (own_char c)) else own_law_133 l0 l1 l2 l3 c (own_char c)) else own_law_133 l0 l1 l2 l3 c (own_char c)) = 1 := by
  rw [own_in_eq c 183 1 183 1 (by decide) (by decide) h0 h1 (by decide) (by decide), own_in_eq c 768 112 768 112 (by decide) (by decide) h0 h1 (by decide) (by decide), own_in_eq c 8255 2 8255 2 (by decide) (by decide) h0 h1 (by decide) (by decide)]
  unfold own_law_133 own_law_138
  by_cases q : c.toInt = 183 ∨ (768 ≤ c.toInt ∧ c.toInt ≤ 879) ∨ (8255 ≤ c.toInt ∧ c.toInt ≤ 8256)
  · have e1 : own_char c = 1 := by
      rw [own_char_eq]
      rcases q with q | q | q <;> (repeat first | rw [if_pos q] | rw [if_neg (by omega)])
    have e2 : own_start c = 0 := by
      rw [own_start_eq]
      rcases q with q | q | q <;> (repeat rw [if_neg (by omega)])
    rw [e1, e2]
    have z : ∀ {P : Prop} [Decidable P], P → (if (if P then (1 : Int32) else 0) = 0 then (0 : Int32) else 1) = 1 := fun p => by rw [if_pos p]; decide
    rcases q with q | q | q
    · rw [if_pos (show (183 : Int) ≤ c.toInt ∧ c.toInt < 183 + 1 by omega)]; rfl
    · rw [if_neg (show ¬ ((183 : Int) ≤ c.toInt ∧ c.toInt < 183 + 1) by omega), if_pos (show (768 : Int) ≤ c.toInt ∧ c.toInt < 768 + 112 by omega)]; rfl
    · rw [if_neg (show ¬ ((183 : Int) ≤ c.toInt ∧ c.toInt < 183 + 1) by omega), if_neg (show ¬ ((768 : Int) ≤ c.toInt ∧ c.toInt < 768 + 112) by omega), if_pos (show (8255 : Int) ≤ c.toInt ∧ c.toInt < 8255 + 2 by omega)]; decide
  · have e1 : own_char c = 0 := by
      rw [own_char_eq, if_neg (by omega), if_neg (by omega), if_neg (by omega)]
    rw [e1, if_neg (show ¬ ((183 : Int) ≤ c.toInt ∧ c.toInt < 183 + 1) by omega), if_neg (show ¬ ((768 : Int) ≤ c.toInt ∧ c.toInt < 768 + 112) by omega), if_neg (show ¬ ((8255 : Int) ≤ c.toInt ∧ c.toInt < 8255 + 2) by omega)]
    rw [if_pos rfl, if_pos rfl, if_pos rfl, if_pos rfl, if_pos rfl]
theorem own_74 (a b c d s : Int32) (hs : 2 ≤ s.toInt) (hs' : s.toInt ≤ 65000) : own_law_74 a b c d s = 1 := by
  unfold own_law_74
  have m : (c &&& 2147483647).toInt = c.toInt % 2 ^ 31 := Jvm.Kit.i32_mask c 2147483647 (k := 31) (by decide) (by decide)
  have r : ((c &&& 2147483647) % 5).toInt = (c &&& 2147483647).toInt % (5 : Int32).toInt := Jvm.Kit.i32_rem_nonneg (by omega)
  have f : (5 : Int32).toInt = 5 := by decide
  rw [f] at r
  have t : (2 : Int32).toInt = 2 := by decide
  have u : (((c &&& 2147483647) % 5) - 2).toInt = ((c &&& 2147483647) % 5).toInt - (2 : Int32).toInt := Jvm.Kit.i32_sub (by omega) (by omega)
  have v : (s + (((c &&& 2147483647) % 5) - 2)).toInt = s.toInt + (((c &&& 2147483647) % 5) - 2).toInt := Jvm.Kit.i32_add (by omega) (by omega)
  rw [own_i2c _ (by omega) (by omega)]
  exact own_tail _ _ _ _ _ (by omega) (by omega)
theorem own_law_one (a b c : Int32) : own_law a b c = 1 := by
  have m : (a &&& 65535).toInt = a.toInt % 2 ^ 16 := Jvm.Kit.i32_mask a 65535 (k := 16) (by decide) (by decide)
  unfold own_law
  rw [own_i2c _ (by omega) (by omega)]
  split
  · exact own_tail _ _ _ _ _ (by omega) (by omega)
  · repeat' split
    all_goals exact own_74 _ _ _ _ _ (by decide) (by decide)
set_option maxRecDepth 65536 in
set_option maxHeartbeats 40000000 in
theorem comes_1 {Post : Tables → Env → Array Value → State → Outcome → State → Prop} (hpost : ∀ tb e args s v u, (limb_1_1.after args s (.returned v) u = true ∧ limb_1_2.after args s (.returned v) u = true ∧ True) → FrameEnd s (.returned v) u (Jvm.fieldLocs frame_1_writes args s ++ Jvm.arrayLocs frame_1_arrays args s ++ Jvm.staticLocs frame_1_statics s) 0 0 → Post tb e args s (.returned v) u) :
    ArmFor flags0 classFile x code maxLocals ret World_1 tables_1 room_1 Calls_1 rest_1 Pre_1 Post := by
  intro l hfl _ _ p e ha hc hk s m args below hf hA hF happ hP
  obtain ⟨hcalls, hrest, hpre⟩ := hP
  obtain ⟨-, -, -, hnamed, -, -, -, hat⟩ := (Spec.applies_iff hf).mp happ
  obtain ⟨hg, hn⟩ := and_e (Cond.before_iff.mp (show (Jvm.Cond.and given_1 narrow_1).before args s = true from hpre))
  obtain ⟨hcnt, g0⟩ := and_e hg
  obtain ⟨w0, w1, w2, rfl⟩ : ∃ w0 w1 w2 : Value, args = #[w0, w1, w2] := by
    have hs : args.size = 3 := by simpa [Cond.value, given_1] using hcnt
    obtain ⟨L⟩ := args
    match L, hs with
    | [w0, w1, w2], _ => exact ⟨w0, w1, w2, rfl⟩
  have hw := fun d (hd : d ∈ tables_1) => atoms_spec (ws := Jvm.Cond.code x code maxLocals ret :: tables_1) hat d (List.mem_cons_of_mem _ hd)
  obtain ⟨t0, g1⟩ := and_e g0
  obtain ⟨i0, ei0⟩ := is_v t0
  obtain rfl : w0 = (.int i0) := Option.some.inj ei0
  obtain ⟨t1, g2⟩ := and_e g1
  obtain ⟨i1, ei1⟩ := is_v t1
  obtain rfl : w1 = (.int i1) := Option.some.inj ei1
  have t2 := g2
  obtain ⟨i2, ei2⟩ := is_v t2
  obtain rfl : w2 = (.int i2) := Option.some.inj ei2
  obtain ⟨n, o, h1, h2, h3, _, L, rfl, ⟨N, A', ⟨e1, -⟩, -⟩, hq⟩ := (m_0 l s _ hw s.heap.size tables_1 i0 i1 i2 ) s.heap (Rep.nil _ _ _) p e ha hc hk s m _ below hf ((Spec.applies_iff_loose hf).mp happ).1 ⟨rfl, State.Warmed39.refl s, rfl⟩ trivial
  rw [own_law_one] at e1
  subst e1
  refine ⟨n, _, h1, h2, h3, hpost _ _ _ _ _ _ ⟨Cond.after_iff.mpr rfl, Cond.after_iff.mpr (eq_i res_at (Term.int_eval (1)) rfl), trivial⟩ ⟨hq.1, hq.2.1, (hq.2.2.sift fun y hy => Or.inr (N y hy)).mono (by decide) (by decide)⟩⟩
theorem main_1_1 : Claimed_1_1 := comes_1 fun _ _ _ _ _ _ h hF => ⟨h.1, hF⟩
theorem main_1_2 : Claimed_1_2 := comes_1 fun _ _ _ _ _ _ h hF => ⟨h.2.1, hF⟩
end Jvm.Pilot.@@N@@
namespace Jvm.Pilot.@@N@@
open Jvm Jvm.ClassFile Sem Op Lib Jvm.Free Jvm.Stand Jvm.Pilot.@@N@@.Jvm.D
/-! MADE BY PROGRAM (witnessworld.py) out of the Statement's table words and the real class files: 9 classes; the members and pool entries that the words name. The judged class is class 1, her method 1. -/
namespace start1
open Jvm.ClassFile
def u (s : String) : CpInfo := .utf8 (stringToUtf16 s)
/-- a pool by its gaps: so many unusable entries, then the entry; so many at the end -/
def gap : Nat → List CpInfo → List CpInfo
  | 0, r => r
  | n + 1, r => .unusable :: gap n r
def poolList (es : List (Nat × CpInfo)) (last : Nat) : List CpInfo := es.foldr (fun e r => gap e.1 (e.2 :: r)) (gap last [])
def pool (es : List (Nat × CpInfo)) (last : Nat) : Array CpInfo := ⟨poolList es last⟩
def fileOf (pool : Array CpInfo) (this : Nat) (attrs : Array Attribute := #[]) (ms : Array MethodInfo := #[]) (fl : Nat := 33) (sup : Nat := 0) (ifs : Array Nat := #[]) (fds : Array FieldInfo := #[]) : ClassFile where
  minorVersion := 0
  majorVersion := 65
  constantPool := pool
  accessFlags := fl
  thisClass := this
  superClass := sup
  interfaces := ifs
  fields := fds
  methods := ms
  attributes := attrs
def plain (name : String) (sup : Option ClassId) : Class where
  name := name
  kind := .ordinary
  loader := none
  accessFlags := 33
  super := sup
  interfaces := #[]
  cf := none
  fields := #[]
  methods := #[]
  instanceTypes := #[]
  staticTypes := #[]
  resolved := #[]
  callSites := []
  init := .initialized
  statics := none
  mirror := none

def pool0 : Array CpInfo := pool [(5, u "<init>"), (0, u "()V"), (1, .class_ 10), (1, u "java/lang/Object")] 113

def k0m0 : Method := { name := "<init>", desc := "()V", sig := { parameters := [], returnType := none }, accessFlags := 1, code := none }
/-- java/lang/Object -/
def k0 : Class := { plain "java/lang/Object" none with
  accessFlags := 33
  interfaces := #[]
  cf := some (fileOf pool0 8 #[] #[{ accessFlags := 1, nameIndex := 5, descriptorIndex := 6, attributes := #[] }] 33 0 #[] #[])
  fields := #[]
  methods := #[k0m0]
  instanceTypes := #[]
  staticTypes := #[]
  resolved := Array.replicate 124 none
  statics := none }

def pool1 : Array CpInfo := pool [(2, .class_ 4), (1, u "java/lang/Object"), (0, u "<init>"), (0, u "()V"), (0, .integer 65535), (0, .integer 2147483647), (0, .methodref 10 11), (0, .class_ 12), (0, .nameAndType 13 14), (0, u "com/example/sharded_xpath/shardedxpath/store/XmlInput"), (0, u "isNameChar"), (0, u "(C)Z"), (0, .methodref 16 17), (0, .class_ 18), (0, .nameAndType 19 20), (0, u "com/example/sharded_xpath/shardedxpath/store/XmlInputIsNameCharPinLaw"), (0, u "inRange"), (0, u "(III)Z"), (0, .methodref 10 22), (0, .nameAndType 23 14), (0, u "isNameStart"), (2, u "law")] 3

def k1m0 : Method := { name := "<init>", desc := "()V", sig := { parameters := [], returnType := none }, accessFlags := 1, code := none }
def k1c1 : Code := { maxStack := 3, maxLocals := 7, code := code, exceptionTable := #[], attributes := #[] }
def k1m1 : Method := { name := "law", desc := "(III)Z", sig := { parameters := [.int, .int, .int], returnType := some .boolean }, accessFlags := 9, code := some k1c1 }
def k1c2 : Code := { maxStack := 2, maxLocals := 4, code := method_3_code, exceptionTable := #[], attributes := #[] }
def k1m2 : Method := { name := "inRange", desc := "(III)Z", sig := { parameters := [.int, .int, .int], returnType := some .boolean }, accessFlags := 10, code := some k1c2 }
/-- com/example/sharded_xpath/shardedxpath/store/XmlInputIsNameCharPinLaw -/
def k1 : Class := { plain "com/example/sharded_xpath/shardedxpath/store/XmlInputIsNameCharPinLaw" (some 0) with
  accessFlags := 49
  interfaces := #[]
  cf := some (fileOf pool1 16 #[] #[{ accessFlags := 1, nameIndex := 5, descriptorIndex := 6, attributes := #[] }, { accessFlags := 9, nameIndex := 26, descriptorIndex := 20, attributes := #[] }, { accessFlags := 10, nameIndex := 19, descriptorIndex := 20, attributes := #[] }] 49 2 #[] #[])
  fields := #[]
  methods := #[k1m0, k1m1, k1m2]
  instanceTypes := #[]
  staticTypes := #[]
  resolved := Array.replicate 30 none
  statics := none }

def pool2 : Array CpInfo := pool [(2, .class_ 4), (1, u "java/lang/Object"), (2, .class_ 8), (0, u "com/example/sharded_xpath/shardedxpath/store/XmlInput"), (3, u "chars"), (0, u "[C"), (2, u "mark"), (0, u "I"), (0, .class_ 19), (0, u "com/example/sharded_xpath/shardedxpath/store/XmlInput$Source"), (3, u "sources"), (0, u "[Lcom/example/sharded_xpath/shardedxpath/store/XmlInput$Source;"), (2, u "readLimit"), (2, u "invalid"), (0, .class_ 32), (0, u "com/example/sharded_xpath/shardedxpath/store/XmlInput$Name"), (2, u "names"), (0, u "[Lcom/example/sharded_xpath/shardedxpath/store/XmlInput$Name;"), (2, u "referred"), (2, u "document"), (0, u "Ljava/io/Reader;"), (2, u "entities"), (0, u "Lcom/example/sharded_xpath/shardedxpath/store/EntityDeclarations;"), (2, u "allowance"), (0, u "J"), (2, u "pos"), (2, u "limit"), (36, u "(C)Z"), (29, u "ASCII_NAMES"), (0, u "[B"), (6, u "isNameStart"), (2, u "isNameChar"), (49, u "Ljava/lang/String;"), (27, u "expandedReferences"), (2, u "expandedCharacters"), (11, u "depth"), (76, u "VALUE_STOPS"), (0, u "[Z"), (2, u "open"), (0, u "Z"), (1, .class_ 314), (1, u "com/example/sharded_xpath/shardedxpath/store/XmlInput$Markup"), (3, u "ended"), (31, u "xml11"), (2, u "lines"), (30, .integer 55295), (0, .integer 63744), (0, .integer 64975), (0, .integer 65008), (0, .integer 65533), (28, u "held"), (0, u "C"), (12, u "afterReturn"), (4, u "columnBefore"), (17, u "XML_NAMESPACE"), (3, u "XMLNS_NAMESPACE"), (2, u "CACHED_NAME_CHARS"), (1, u "VALUE_HEAP_CHARS"), (0, u "DOCUMENT_CHARS"), (0, u "ENTITY_CHARS"), (1, u "NAME_CACHE"), (0, u "NEL"), (1, u "LS")] 81

def k2c0 : Code := { maxStack := 2, maxLocals := 1, code := prog_85_method_36_code, exceptionTable := #[], attributes := #[] }
def k2m0 : Method := { name := "isNameStart", desc := "(C)Z", sig := { parameters := [.char], returnType := some .boolean }, accessFlags := 8, code := some k2c0 }
def k2c1 : Code := { maxStack := 2, maxLocals := 1, code := prog_85_method_37_code, exceptionTable := #[], attributes := #[] }
def k2m1 : Method := { name := "isNameChar", desc := "(C)Z", sig := { parameters := [.char], returnType := some .boolean }, accessFlags := 8, code := some k2c1 }
/-- com/example/sharded_xpath/shardedxpath/store/XmlInput -/
def k2 : Class := { plain "com/example/sharded_xpath/shardedxpath/store/XmlInput" (some 0) with
  accessFlags := 32
  interfaces := #[]
  cf := some (fileOf pool2 7 #[.nestMembers #[18, 31, 312]] #[{ accessFlags := 8, nameIndex := 132, descriptorIndex := 94, attributes := #[] }, { accessFlags := 8, nameIndex := 135, descriptorIndex := 94, attributes := #[] }] 32 2 #[] #[{ accessFlags := 24, nameIndex := 454, descriptorIndex := 185, attributes := #[] }, { accessFlags := 24, nameIndex := 458, descriptorIndex := 185, attributes := #[] }, { accessFlags := 24, nameIndex := 461, descriptorIndex := 17, attributes := #[] }, { accessFlags := 24, nameIndex := 463, descriptorIndex := 17, attributes := #[] }, { accessFlags := 26, nameIndex := 464, descriptorIndex := 17, attributes := #[] }, { accessFlags := 26, nameIndex := 465, descriptorIndex := 17, attributes := #[] }, { accessFlags := 26, nameIndex := 467, descriptorIndex := 17, attributes := #[] }, { accessFlags := 26, nameIndex := 468, descriptorIndex := 418, attributes := #[] }, { accessFlags := 26, nameIndex := 470, descriptorIndex := 418, attributes := #[] }, { accessFlags := 26, nameIndex := 124, descriptorIndex := 125, attributes := #[] }, { accessFlags := 26, nameIndex := 305, descriptorIndex := 306, attributes := #[] }, { accessFlags := 18, nameIndex := 42, descriptorIndex := 43, attributes := #[] }, { accessFlags := 18, nameIndex := 46, descriptorIndex := 47, attributes := #[] }, { accessFlags := 18, nameIndex := 50, descriptorIndex := 51, attributes := #[] }, { accessFlags := 2, nameIndex := 12, descriptorIndex := 13, attributes := #[] }, { accessFlags := 2, nameIndex := 54, descriptorIndex := 17, attributes := #[] }, { accessFlags := 2, nameIndex := 57, descriptorIndex := 17, attributes := #[] }, { accessFlags := 2, nameIndex := 16, descriptorIndex := 17, attributes := #[] }, { accessFlags := 2, nameIndex := 23, descriptorIndex := 24, attributes := #[] }, { accessFlags := 2, nameIndex := 228, descriptorIndex := 17, attributes := #[] }, { accessFlags := 2, nameIndex := 27, descriptorIndex := 17, attributes := #[] }, { accessFlags := 2, nameIndex := 350, descriptorIndex := 310, attributes := #[] }, { accessFlags := 2, nameIndex := 318, descriptorIndex := 310, attributes := #[] }, { accessFlags := 2, nameIndex := 431, descriptorIndex := 310, attributes := #[] }, { accessFlags := 2, nameIndex := 417, descriptorIndex := 418, attributes := #[] }, { accessFlags := 2, nameIndex := 30, descriptorIndex := 17, attributes := #[] }, { accessFlags := 2, nameIndex := 353, descriptorIndex := 51, attributes := #[] }, { accessFlags := 2, nameIndex := 436, descriptorIndex := 51, attributes := #[] }, { accessFlags := 2, nameIndex := 216, descriptorIndex := 51, attributes := #[] }, { accessFlags := 2, nameIndex := 213, descriptorIndex := 51, attributes := #[] }, { accessFlags := 2, nameIndex := 309, descriptorIndex := 310, attributes := #[] }, { accessFlags := 18, nameIndex := 35, descriptorIndex := 36, attributes := #[] }, { accessFlags := 18, nameIndex := 39, descriptorIndex := 13, attributes := #[] }])
  fields := #[{ name := "XML_NAMESPACE", type := (.object "java/lang/String"), accessFlags := 24, slot := 0, constantValue := 0 }, { name := "XMLNS_NAMESPACE", type := (.object "java/lang/String"), accessFlags := 24, slot := 1, constantValue := 0 }, { name := "CACHED_NAME_CHARS", type := .int, accessFlags := 24, slot := 2, constantValue := 0 }, { name := "VALUE_HEAP_CHARS", type := .int, accessFlags := 24, slot := 3, constantValue := 0 }, { name := "DOCUMENT_CHARS", type := .int, accessFlags := 26, slot := 4, constantValue := 0 }, { name := "ENTITY_CHARS", type := .int, accessFlags := 26, slot := 5, constantValue := 0 }, { name := "NAME_CACHE", type := .int, accessFlags := 26, slot := 6, constantValue := 0 }, { name := "NEL", type := .char, accessFlags := 26, slot := 7, constantValue := 0 }, { name := "LS", type := .char, accessFlags := 26, slot := 8, constantValue := 0 }, { name := "ASCII_NAMES", type := (.array .byte), accessFlags := 26, slot := 9, constantValue := 0 }, { name := "VALUE_STOPS", type := (.array .boolean), accessFlags := 26, slot := 10, constantValue := 0 }, { name := "document", type := (.object "java/io/Reader"), accessFlags := 18, slot := 0, constantValue := 0 }, { name := "entities", type := (.object "com/example/sharded_xpath/shardedxpath/store/EntityDeclarations"), accessFlags := 18, slot := 1, constantValue := 0 }, { name := "allowance", type := .long, accessFlags := 18, slot := 2, constantValue := 0 }, { name := "chars", type := (.array .char), accessFlags := 2, slot := 3, constantValue := 0 }, { name := "pos", type := .int, accessFlags := 2, slot := 4, constantValue := 0 }, { name := "limit", type := .int, accessFlags := 2, slot := 5, constantValue := 0 }, { name := "mark", type := .int, accessFlags := 2, slot := 6, constantValue := 0 }, { name := "sources", type := (.array (.object "com/example/sharded_xpath/shardedxpath/store/XmlInput$Source")), accessFlags := 2, slot := 7, constantValue := 0 }, { name := "depth", type := .int, accessFlags := 2, slot := 8, constantValue := 0 }, { name := "readLimit", type := .int, accessFlags := 2, slot := 9, constantValue := 0 }, { name := "xml11", type := .boolean, accessFlags := 2, slot := 10, constantValue := 0 }, { name := "ended", type := .boolean, accessFlags := 2, slot := 11, constantValue := 0 }, { name := "afterReturn", type := .boolean, accessFlags := 2, slot := 12, constantValue := 0 }, { name := "held", type := .char, accessFlags := 2, slot := 13, constantValue := 0 }, { name := "invalid", type := .int, accessFlags := 2, slot := 14, constantValue := 0 }, { name := "lines", type := .long, accessFlags := 2, slot := 15, constantValue := 0 }, { name := "columnBefore", type := .long, accessFlags := 2, slot := 16, constantValue := 0 }, { name := "expandedCharacters", type := .long, accessFlags := 2, slot := 17, constantValue := 0 }, { name := "expandedReferences", type := .long, accessFlags := 2, slot := 18, constantValue := 0 }, { name := "open", type := .boolean, accessFlags := 2, slot := 19, constantValue := 0 }, { name := "names", type := (.array (.object "com/example/sharded_xpath/shardedxpath/store/XmlInput$Name")), accessFlags := 18, slot := 20, constantValue := 0 }, { name := "referred", type := (.array .char), accessFlags := 18, slot := 21, constantValue := 0 }]
  methods := #[k2m0, k2m1]
  instanceTypes := #[(.object "java/io/Reader"), (.object "com/example/sharded_xpath/shardedxpath/store/EntityDeclarations"), .long, (.array .char), .int, .int, .int, (.array (.object "com/example/sharded_xpath/shardedxpath/store/XmlInput$Source")), .int, .int, .boolean, .boolean, .boolean, .char, .int, .long, .long, .long, .long, .boolean, (.array (.object "com/example/sharded_xpath/shardedxpath/store/XmlInput$Name")), (.array .char)]
  staticTypes := #[(.object "java/lang/String"), (.object "java/lang/String"), .int, .int, .int, .int, .int, .char, .char, (.array .byte), (.array .boolean)]
  resolved := Array.replicate 552 none
  statics := none }

def pool3 : Array CpInfo := pool [(1, u "java/lang/Cloneable"), (0, .class_ 1), (0, u "java/lang/Object"), (0, .class_ 3)] 3

/-- java/lang/Cloneable -/
def k3 : Class := { plain "java/lang/Cloneable" (some 0) with
  accessFlags := 1537
  interfaces := #[]
  cf := some (fileOf pool3 2 #[] #[] 1537 4 #[] #[])
  fields := #[]
  methods := #[]
  instanceTypes := #[]
  staticTypes := #[]
  resolved := Array.replicate 8 none
  statics := none }

def pool4 : Array CpInfo := pool [(1, u "java/io/Serializable"), (0, .class_ 1), (0, u "java/lang/Object"), (0, .class_ 3)] 3

/-- java/io/Serializable -/
def k4 : Class := { plain "java/io/Serializable" (some 0) with
  accessFlags := 1537
  interfaces := #[]
  cf := some (fileOf pool4 2 #[] #[] 1537 4 #[] #[])
  fields := #[]
  methods := #[]
  instanceTypes := #[]
  staticTypes := #[]
  resolved := Array.replicate 8 none
  statics := none }

/-- the primitive byte -/
def k5 : Class := { plain "byte" none with kind := .primitive 'B', accessFlags := 0x411 }
/-- [B -/
def k6 : Class := { plain "[B" (some 0) with kind := .array 5 .byte, interfaces := #[3, 4], accessFlags := 1041 }

/-- the primitive int -/
def k7 : Class := { plain "int" none with kind := .primitive 'I', accessFlags := 0x411 }
/-- [I -/
def k8 : Class := { plain "[I" (some 0) with kind := .array 7 .int, interfaces := #[3, 4], accessFlags := 1041 }

def heap : Heap := #[]
def classes : Array Class := #[k0, k1, k2, k3, k4, k5, k6, k7, k8]
def interned : List (Array UInt16 × Addr) := []
def slotsUsed : Nat := 0
def theMethod : MethodId := ⟨1, 1⟩
def args0 : Array Value := #[.int 500, .int 4, .int 9]
def aboutOver (below : List Frame) : State where
  vm := { classes := classes, interned := interned.toArray }
  heap := heap
  slotsUsed := slotsUsed
  threads := #[{ frames := .invoking theMethod args0 :: below }]
def below0 : List Frame := [.native { method := ⟨0, 0⟩, args := #[] }]
def about1 : State := aboutOver below0
def p0 : Program := .bare "" "" ""
def e0 : Env := launch0.env 0 0 0
theorem w_frames : about1.frames = Frame.invoking theMethod args0 :: below0 := rfl
set_option maxRecDepth 65536 in
theorem w_args : argsFit about1.vm theMethod args0 = true := by decide +kernel
set_option maxRecDepth 65536 in
theorem w_heap : heapFits about1 = true := by decide +kernel
set_option maxRecDepth 65536 in
theorem w_runnable : about1.curStatus? = some .runnable := by decide +kernel
set_option maxRecDepth 65536 in
theorem w_alone : about1.alone = true := by decide +kernel
set_option maxRecDepth 65536 in
theorem w_named : about1.methodNamed? x = some theMethod := by decide +kernel
set_option maxRecDepth 65536 in
theorem w_hears : about1.hears theMethod below0 = true := by decide +kernel
set_option maxRecDepth 65536 in
theorem w_ripe : about1.ripe theMethod args0 below0 = true := by decide +kernel
theorem w_running : about1.status = .running := rfl
set_option maxRecDepth 65536 in
theorem w_room : about1.hasRoom e0.platform room_1 = true :=
  launch0.hasRoom_least _ room_1 (by decide +kernel) (by decide +kernel) (by decide +kernel) (by decide +kernel) (by decide +kernel) (by decide +kernel)
theorem allAtoms_all (ts : List Jvm.Cond) (a : Array Jvm.Value) (st : Jvm.State) : (allAtoms ts).before a st = ts.all (fun c => c.before a st) := by
  induction ts with
  | nil => rfl
  | cons c t ih =>
    show (Jvm.Cond.and c (allAtoms t)).before a st = _
    rw [Jvm.Cond.before_and, ih, List.all_cons]
def words1 : List Jvm.Cond := Jvm.Cond.code x code maxLocals ret :: tables_1
/-- a 'code' word, met by the world's own term for the bytes: nothing is compared byte by byte -/
theorem code_word {y : MethodName} {bytes : ByteArray} {mx : Nat} {rt : Option FieldType} {a : Array Value} {s : State} {m : MethodId} {meth : Method} {c : Code} (h1 : s.methodNamed? y = some m) (h2 : s.vm.method? m = some meth) (h3 : meth.code = some c) (h4 : c.code = bytes)
    (h5 : (c.maxLocals == mx && c.exceptionTable.isEmpty && decide (c.maxStack ≤ mostOperands) && decide (meth.sig.returnType = rt) && !meth.locks && decide (parseMethodDescriptor y.desc = some meth.sig)) = true) : (Jvm.Cond.code y bytes mx rt).before a s = true := by
  simp only [Bool.and_eq_true, beq_iff_eq, Bool.not_eq_true', decide_eq_true_eq] at h5
  obtain ⟨⟨⟨⟨⟨g1, g2⟩, g3⟩, g4⟩, g5⟩, g6⟩ := h5
  simp [Cond.before, Cond.holds, Cond.value, h1, h2, h3, h4, g1, g2, g3, g4, g5, g6]
def isCode : Jvm.Cond → Bool
  | .code _ _ _ _ => true
  | _ => false
theorem all_split {L : List Jvm.Cond} {P : Jvm.Cond → Bool} (h1 : L.all (fun c => isCode c || P c) = true) (h2 : ∀ c ∈ L.filter isCode, P c = true) : L.all P = true := by
  refine List.all_eq_true.mpr fun c hc => ?_
  have h := List.all_eq_true.mp h1 c hc
  rcases Bool.eq_false_or_eq_true (isCode c) with hi | hi
  · exact h2 c (List.mem_filter.mpr ⟨hc, hi⟩)
  · simpa [hi] using h
set_option maxRecDepth 65536 in
theorem w_c0 : (Jvm.Cond.code x code maxLocals ret).before args0 about1 = true := code_word (m := ⟨1, 1⟩) (meth := k1m1) (c := k1c1) (by decide +kernel) rfl rfl rfl (by decide +kernel)
set_option maxRecDepth 65536 in
theorem w_c1 : (Jvm.Cond.code ({ cls := "com/example/sharded_xpath/shardedxpath/store/XmlInput", name := "isNameChar", desc := "(C)Z" } : Jvm.MethodName) prog_85_method_37_code (1 : Nat) (Option.some Jvm.ClassFile.FieldType.boolean)).before args0 about1 = true := code_word (m := ⟨2, 1⟩) (meth := k2m1) (c := k2c1) (by decide +kernel) rfl rfl rfl (by decide +kernel)
set_option maxRecDepth 65536 in
theorem w_c2 : (Jvm.Cond.code ({ cls := "com/example/sharded_xpath/shardedxpath/store/XmlInputIsNameCharPinLaw", name := "inRange", desc := "(III)Z" } : Jvm.MethodName) method_3_code (4 : Nat) (Option.some Jvm.ClassFile.FieldType.boolean)).before args0 about1 = true := code_word (m := ⟨1, 2⟩) (meth := k1m2) (c := k1c2) (by decide +kernel) rfl rfl rfl (by decide +kernel)
set_option maxRecDepth 65536 in
theorem w_c3 : (Jvm.Cond.code ({ cls := "com/example/sharded_xpath/shardedxpath/store/XmlInput", name := "isNameStart", desc := "(C)Z" } : Jvm.MethodName) prog_85_method_36_code (1 : Nat) (Option.some Jvm.ClassFile.FieldType.boolean)).before args0 about1 = true := code_word (m := ⟨2, 0⟩) (meth := k2m0) (c := k2c0) (by decide +kernel) rfl rfl rfl (by decide +kernel)
def codes1 : List Jvm.Cond := [Jvm.Cond.code x code maxLocals ret, Jvm.Cond.code ({ cls := "com/example/sharded_xpath/shardedxpath/store/XmlInput", name := "isNameChar", desc := "(C)Z" } : Jvm.MethodName) prog_85_method_37_code (1 : Nat) (Option.some Jvm.ClassFile.FieldType.boolean), Jvm.Cond.code ({ cls := "com/example/sharded_xpath/shardedxpath/store/XmlInputIsNameCharPinLaw", name := "inRange", desc := "(III)Z" } : Jvm.MethodName) method_3_code (4 : Nat) (Option.some Jvm.ClassFile.FieldType.boolean), Jvm.Cond.code ({ cls := "com/example/sharded_xpath/shardedxpath/store/XmlInput", name := "isNameStart", desc := "(C)Z" } : Jvm.MethodName) prog_85_method_36_code (1 : Nat) (Option.some Jvm.ClassFile.FieldType.boolean)]
set_option maxRecDepth 65536 in
theorem codes_eq : words1.filter isCode = codes1 := rfl
theorem w_codes : ∀ c ∈ words1.filter isCode, c.before args0 about1 = true := by
  rw [codes_eq]
  intro c hc
  simp only [codes1, List.mem_cons, List.not_mem_nil, or_false] at hc
  rcases hc with rfl | rfl | rfl | rfl
  · exact w_c0
  · exact w_c1
  · exact w_c2
  · exact w_c3
set_option maxRecDepth 65536 in
theorem w_t1 : words1.all (fun c => isCode c || c.before args0 about1) = true := by decide +kernel
theorem w_tables : (allAtoms (Jvm.Cond.code x code maxLocals ret :: tables_1)).before args0 about1 = true := by
  rw [allAtoms_all]
  show words1.all (fun c => c.before args0 about1) = true
  refine all_split ?_ w_codes
  rw [w_t1]
set_option maxRecDepth 65536 in
theorem w_case : (Jvm.Cond.and given_1 narrow_1).before args0 about1 = true := by decide +kernel
theorem w_applies : (headSpec (Jvm.Cond.code x code maxLocals ret :: tables_1) room_1).applies x e0.platform about1 = true :=
  (Spec.applies_iff w_frames).mpr ⟨w_running, w_runnable, w_alone, w_named, w_hears, w_ripe, w_room, w_tables⟩
theorem atStart : AtStart classFile x code maxLocals ret World_1 tables_1 room_1 Calls_1 rest_1 Pre_1 launch0 p0 e0 about1 theMethod args0 below0 :=
  ⟨lists_1, trivial, launch0.admits_env _ _ _, launch0.least_env, fairChoices_fair.cas, fairChoices_fair.clock, w_frames, w_args, w_heap, w_applies, trivial, trivial, w_case⟩
end start1
theorem witness_1 : WitnessClaimed_1 := ⟨start1.p0, start1.e0, start1.about1, start1.theMethod, start1.args0, start1.below0, start1.atStart⟩
end Jvm.Pilot.@@N@@
