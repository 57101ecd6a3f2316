import JvmDerived
import JvmDerived.Pilot.@@N@@Statement
import JvmDerived.Pilot.@@N@@Code
set_option linter.unusedVariables false
set_option linter.unusedSimpArgs false
@@BLOCK:NumsL.lean.txt@@
namespace Jvm.Pilot.@@N@@
open Jvm Jvm.ClassFile Sem Op Lib Jvm.Free Jvm.Stand Jvm.LawKit Jvm.RoadKit Bundle Jvm.Pilot.@@N@@.Jvm.D
/-! A small calculus over the library's laws: the cells that the walk itself has made stand in a list (an object: its class and fields; an array: its kind and elements); K pc locals stack cells .. says that the run from there ends as the contract says. -/
abbrev ACell := (String × List (String × String × Value)) ⊕ (FieldType × List Value)
abbrev AHeap := List ACell
def ad (n0 i : Nat) : Addr := n0 + i
theorem ad_le (n0 i : Nat) : n0 ≤ ad n0 i := Nat.le_add_right _ _
theorem ad_ne {n0 i j : Nat} (h : i ≠ j) : ad n0 i ≠ ad n0 j := fun e => h (Nat.add_left_cancel e)
def COk (Z : State) (a0 : Array Value) (h : Heap) (a : Addr) : ACell → Prop
  | .inl (C, fs) => Exa Z h a C ∧ (fs.map Prod.fst).Nodup ∧ ∀ (j : Nat) (n d : String) (v : Value), fs[j]? = some (n, d, v) → Fld Z h a C n d v ∧ Laid Z a0 C C n d ∧ ∃ t, parseFieldDescriptor d = some t
  | .inr (ty, vs) => Exa Z h a ("[" ++ ty.toString) ∧ ∃ c : Cell, Arr Z h a c ty ∧ c.slots = vs.toArray ∧ vs.length < 2147483648 ∧ ∀ v ∈ vs, fits ty v = true
def Rep (Z : State) (a0 : Array Value) (n0 : Nat) (h : Heap) (A : AHeap) : Prop := h.size = n0 + A.length ∧ ∀ (i : Nat) (c : ACell), A[i]? = some c → COk Z a0 h (ad n0 i) c
section Reps
variable {Z : State} {a0 : Array Value} {n0 : Nat} {h h' : Heap} {A : AHeap}
theorem COk.ext {a : Addr} {c : ACell} (E : Ext h h') (H : COk Z a0 h a c) : COk Z a0 h' a c := by
  match c, H with
  | .inl (C, fs), ⟨h1, h2, h3⟩ => exact ⟨h1.ext E, h2, fun j n d v hj => ⟨(h3 j n d v hj).1.ext E, (h3 j n d v hj).2⟩⟩
  | .inr (ty, vs), ⟨h0, c, h1, h2⟩ => exact ⟨h0.ext E, c, h1.ext E, h2⟩
theorem COk.other {a b : Addr} {sl : Nat} {v : Value} {c : ACell} (W : Wr h h' a sl v) (ne : b ≠ a) (H : COk Z a0 h b c) : COk Z a0 h' b c := by
  match c, H with
  | .inl (C, fs), ⟨h1, h2, h3⟩ => exact ⟨h1.wr W, h2, fun j n d v hj => ⟨(h3 j n d v hj).1.other W (Or.inl ne), (h3 j n d v hj).2⟩⟩
  | .inr (ty, vs), ⟨h0, c, h1, h2⟩ => exact ⟨h0.wr W, c, h1.other W ne, h2⟩
theorem Rep.nil (Z : State) (a0 : Array Value) (h : Heap) : Rep Z a0 h.size h [] := ⟨rfl, fun i c hi => by simp at hi⟩
theorem Rep.push {c : ACell} (H : Rep Z a0 n0 h A) (E : Ext h h') (hs : h'.size = h.size + 1) (hc : COk Z a0 h' h.size c) : Rep Z a0 n0 h' (A ++ [c]) := by
  refine ⟨by rw [hs, H.1]; simp [Nat.add_assoc], fun i d hi => ?_⟩
  rcases Nat.lt_or_ge i A.length with q | q
  · rw [List.getElem?_append_left q] at hi
    exact (H.2 i d hi).ext E
  · rw [List.getElem?_append_right q] at hi
    have hz : i - A.length = 0 := by
      rcases Nat.eq_zero_or_pos (i - A.length) with z | z
      · exact z
      · rw [List.getElem?_eq_none (by simp; omega)] at hi; cases hi
    rw [hz] at hi
    cases hi
    have : ad n0 i = h.size := by rw [H.1]; show n0 + i = _; omega
    rw [this]; exact hc
theorem Rep.wr {i : Nat} {sl : Nat} {v : Value} {c : ACell} (H : Rep Z a0 n0 h A) (W : Wr h h' (ad n0 i) sl v) (hc : COk Z a0 h' (ad n0 i) c) : Rep Z a0 n0 h' (A.set i c) := by
  refine ⟨by rw [W.size, H.1]; simp, fun j d hj => ?_⟩
  rw [List.getElem?_set] at hj
  split at hj
  · rename_i e
    subst e
    split at hj
    · cases hj; exact hc
    · cases hj
  · rename_i ne
    exact (H.2 j d hj).other W (ad_ne fun e => ne e.symm)
theorem nodup_at {L : List String} {i j : Nat} {x : String} (hn : L.Nodup) (hi : L[i]? = some x) (hj : L[j]? = some x) : i = j :=
  (List.getElem?_inj (List.getElem?_eq_some_iff.mp hi).1 hn).mp (hi.trans hj.symm)
theorem COk.put {a : Addr} {C n d : String} {v old : Value} {fs : List (String × String × Value)} {j : Nat} (H : COk Z a0 h a (.inl (C, fs))) (hj : fs[j]? = some (n, d, old)) (W : Wr h h' a (Jvm.RoadKit.slotOf Z C n d) v) : COk Z a0 h' a (.inl (C, fs.set j (n, d, v))) := by
  obtain ⟨h1, h2, h3⟩ := H
  have hm : (fs.set j (n, d, v)).map Prod.fst = fs.map Prod.fst := by
    rw [List.map_set]
    obtain ⟨hl, e⟩ := List.getElem?_eq_some_iff.mp hj
    apply List.ext_getElem?
    intro k
    rw [List.getElem?_set]
    split
    · rename_i e2; subst e2; simp [hl, e]
    · rfl
  refine ⟨h1.wr W, by rw [hm]; exact h2, fun k n' d' v' hk => ?_⟩
  rw [List.getElem?_set] at hk
  split at hk
  · rename_i e; subst e
    split at hk
    · cases hk; exact ⟨(h3 j n d old hj).1.same W, (h3 j n d old hj).2⟩
    · cases hk
  · rename_i ne
    have q := h3 k n' d' v' hk
    obtain ⟨q1, q2, t', q3⟩ := q
    obtain ⟨-, p2, t, p3⟩ := h3 j n d old hj
    refine ⟨q1.other W (Or.inr (slot_ne q2 p2 ?_ q3 p3)), q2, t', q3⟩
    intro e
    subst e
    exact ne (nodup_at h2 (i := j) (j := k) (x := n') (by simp [hj]) (by simp [hk]))
theorem COk.store {a : Addr} {ty : FieldType} {vs : List Value} {v : Value} {j : Nat} (H : COk Z a0 h a (.inr (ty, vs))) (hf : fits ty v = true) (W : Wr h h' a j v) : COk Z a0 h' a (.inr (ty, vs.set j v)) := by
  obtain ⟨h0, c, h1, h2, h3, h4⟩ := H
  refine ⟨h0.wr W, _, h1.same W, ?_, by simpa using h3, fun w hw => ?_⟩
  · show c.slots.setIfInBounds j v = _
    rw [h2]; simp
  · rcases List.mem_or_eq_of_mem_set hw with q | rfl
    · exact h4 w q
    · exact hf
def FOk (Z : State) (a0 : Array Value) (C : String) (fs : List (String × String × Value)) : Prop := (fs.map Prod.fst).Nodup ∧ ∀ f ∈ fs, Laid Z a0 C C f.1 f.2.1 ∧ ∃ t, parseFieldDescriptor f.2.1 = some t ∧ defaultValue t = f.2.2
theorem FOk.nil (C : String) : FOk Z a0 C [] := ⟨List.nodup_nil, fun f hf => nomatch hf⟩
theorem FOk.cons {C n d : String} {t : FieldType} {fs : List (String × String × Value)} (H : FOk Z a0 C fs) (L : Laid Z a0 C C n d) (ht : parseFieldDescriptor d = some t) (hn : n ∉ fs.map Prod.fst) : FOk Z a0 C ((n, d, defaultValue t) :: fs) := by
  refine ⟨by simp only [List.map_cons]; exact List.nodup_cons.mpr ⟨hn, H.1⟩, fun f hf => ?_⟩
  rcases List.mem_cons.mp hf with rfl | q
  · exact ⟨L, t, ht, rfl⟩
  · exact H.2 f q
theorem set_at {i : Nat} {c X : ACell} (h : A[i]? = some c) : (A.set i X)[i]? = some X := by
  obtain ⟨hl, -⟩ := List.getElem?_eq_some_iff.mp h
  simp [hl]
theorem set_ne {i j : Nat} {c X : ACell} (ne : i ≠ j) (h : A[j]? = some c) : (A.set i X)[j]? = some c := by
  rw [List.getElem?_set_ne ne]; exact h
end Reps
/-- Java's x >>> y -/
def ushr (x y : Int32) : Int32 := (x.toUInt32 >>> (y &&& 31).toUInt32).toInt32
def ushrL (x : Int64) (y : Int32) : Int64 := (x.toUInt64 >>> (y &&& 0x3f).toInt64.toUInt64).toInt64
abbrev KK := Nat → List Slot → List Value → AHeap → Nat → Nat → Prop
def Gd (l : Launch) (Z : State) (a0 : Array Value) (n0 b : Nat) (R : Room) (cs ss : Nat) (own nm : String) (code : ByteArray) (ml : Nat) (ret : Option FieldType) (Q : Option Value → AHeap → Prop) (K : KK) : Prop :=
  ∃ (p : Program) (e : Env) (s : State) (m : MethodId) (args : Array Value) (below : List Frame) (meth : Method) (c : Code),
    p.tables.exec = Jvm.exec ∧ c.code = code ∧ c.maxLocals = ml ∧ s.vm.findClass own = some m.cls ∧ meth.name = nm ∧ Z.Warmed39 s.vm ∧ meth.sig.returnType = ret ∧ meth.locks = false ∧ s.heap.size = n0 + b ∧
    K = fun pc Ls st A k n => ∀ (T : State) (locs : List Loc), Stand p l e R s m args below meth c T locs k n → Fr n0 locs → A.length = b + k → Rep Z a0 n0 T.heap A →
      ∃ s₂ o, Steps p.tables e below (T.setTop (mkF m pc Ls.toArray st)) s₂ ∧ s₂.status = .running ∧ Ended s₂ below o ∧ ∃ v L, o = .returned v ∧ (Fr n0 L ∧ ∃ A', Q v A' ∧ Rep Z a0 n0 s₂.heap A') ∧ FrameEnd s o s₂ L cs ss
def Meth (l : Launch) (Z : State) (a0 : Array Value) (ws : List Jvm.Cond) (y : MethodName) (bytes : ByteArray) (maxL : Nat) (ret : Option FieldType) (rm : Room) (cs ss : Nat) (n0 : Nat) (as : Array Value) (A : AHeap) (Q : Option Value → AHeap → Prop) : Prop :=
  ∀ h0, Rep Z a0 n0 h0 A → MetFree l y (head1 (Jvm.Cond.code y bytes maxL ret :: ws) rm) (fun a U => a = as ∧ Z.Warmed39 U.vm ∧ U.heap = h0) (fun _ _ _ _ _ => True)
    (fun _ U o U' => ∃ v L, o = .returned v ∧ (Fr n0 L ∧ ∃ A', Q v A' ∧ Rep Z a0 n0 U'.heap A') ∧ FrameEnd U o U' L cs ss)
section Rules
variable {l : Launch} {Z : State} {a0 : Array Value} {n0 b : Nat} {R : Room} {cs ss : Nat} {own nm : String} {code : ByteArray} {ml : Nat} {ret : Option FieldType} {Q : Option Value → AHeap → Prop} {K : KK} {pc pc' : Nat} {Ls Ls' : List Slot} {st st' : List Value} {A A' : AHeap} {k n k' n' : Nat}
theorem Meth.of {ws : List Jvm.Cond} {y : MethodName} {as : Array Value} (hp : plainName y.cls = true) (he : ∀ m : MethodId, entryFrame m as ml = mkF m 0 Ls.toArray []) (body : ∀ K, Gd l Z a0 n0 A.length R cs ss y.cls y.name code ml ret Q K → K 0 Ls [] A 0 0) : Meth l Z a0 ws y code ml ret R cs ss n0 as A Q := by
  intro h0 hR
  refine MetFree.of_bodySF (plainFor_of_name hp) hisR ?_
  intro p e s m args below meth c s₁ Bd hml0 hP hK
  obtain ⟨rfl, hZ, hh⟩ := hP
  have X0 : Stand p l e R s m args below meth c s₁ [] 0 0 := Stand.of_body Bd
  have e0 : s₁.heap = h0 := by rw [← hh, Bd.state]; rfl
  have q := body _ ⟨p, e, s, m, args, below, meth, c, Bd.exec, Bd.bytes, hml0, findClass_of_methodNamed Bd.named, (name_of_methodNamed Bd.named Bd.method).1, hZ, Bd.returns, Bd.notSynchronized, by rw [hh]; exact hR.1, rfl⟩ s₁ [] X0 (Fr.nil n0) rfl (by rw [e0]; exact hR)
  obtain ⟨s₂, o, h1, h2, h3, h4⟩ := q
  exact ⟨s₂, o, castTop (he m) h1, h2, h3, h4⟩
theorem Gd.run1 (G : Gd l Z a0 n0 b R cs ss own nm code ml ret Q K) (hst : ∀ (p : Program) (e : Env) (below : List Frame) (T target : State) (m : MethodId) (c : Code), p.tables.exec = Jvm.exec → c.code = code → At T m c below → Steps p.tables e below (T.setTop (mkF m pc' Ls'.toArray st')) target → Steps p.tables e below (T.setTop (mkF m pc Ls.toArray st)) target) (h : K pc' Ls' st' A k n) : K pc Ls st A k n := by
  obtain ⟨p, e, s, m, args, below, meth, c, hx, hby, -, -, -, -, -, -, -, rfl⟩ := G
  intro T locs X N hA RP
  obtain ⟨s₂, o, hs, r⟩ := h T locs X N hA RP
  exact ⟨s₂, o, hst p e below T s₂ m c hx hby X.here hs, r⟩
/-- the count of slots may grow -/
theorem Gd.more (G : Gd l Z a0 n0 b R cs ss own nm code ml ret Q K) (hn : n ≤ n') (h : K pc Ls st A k n') : K pc Ls st A k n := by
  obtain ⟨p, e, s, m, args, below, meth, c, hx, hby, -, -, -, -, -, -, -, rfl⟩ := G
  intro T locs X N hA RP
  exact h T locs (X.more (Nat.le_refl _) hn) N hA RP
theorem lat {L : List Slot} {i : Nat} {o : Slot} (h : L[i]? = some o) : L.toArray[i]? = some o := by simpa using h
theorem Gd.iloadN (G : Gd l Z a0 n0 b R cs ss own nm code ml ret Q K) {i : Fin 4} {v : Int32} (hd : decode code pc = .ok (.iload_n i, 1)) (hl : Ls[i.val]? = some (.val (.int v))) (h : K (pc + 1) Ls (.int v :: st) A k n) : K pc Ls st A k n :=
  G.run1 (fun _ _ _ _ _ _ _ hx hby hA r => XS.iloadN hA hx rfl (hb hby hd) (lat hl) r) h
theorem Gd.iload (G : Gd l Z a0 n0 b R cs ss own nm code ml ret Q K) {i : Nat} {v : Int32} (hd : decode code pc = .ok (.iload i, 2)) (hl : Ls[i]? = some (.val (.int v))) (h : K (pc + 2) Ls (.int v :: st) A k n) : K pc Ls st A k n :=
  G.run1 (fun _ _ _ _ _ _ _ hx hby hA r => XS.iload hA hx rfl (hb hby hd) (lat hl) r) h
theorem Gd.lloadN (G : Gd l Z a0 n0 b R cs ss own nm code ml ret Q K) {i : Fin 4} {v : Int64} (hd : decode code pc = .ok (.lload_n i, 1)) (hl : Ls[i.val]? = some (.val (.long v))) (h : K (pc + 1) Ls (.long v :: st) A k n) : K pc Ls st A k n :=
  G.run1 (fun _ _ _ _ _ _ _ hx hby hA r => XS.lloadN hA hx rfl (hb hby hd) (lat hl) r) h
theorem Gd.lload (G : Gd l Z a0 n0 b R cs ss own nm code ml ret Q K) {i : Nat} {v : Int64} (hd : decode code pc = .ok (.lload i, 2)) (hl : Ls[i]? = some (.val (.long v))) (h : K (pc + 2) Ls (.long v :: st) A k n) : K pc Ls st A k n :=
  G.run1 (fun _ _ _ _ _ _ _ hx hby hA r => XS.lload hA hx rfl (hb hby hd) (lat hl) r) h
theorem Gd.aloadN (G : Gd l Z a0 n0 b R cs ss own nm code ml ret Q K) {i : Fin 4} {v : Value} (hd : decode code pc = .ok (.aload_n i, 1)) (hl : Ls[i.val]? = some (.val v)) (hv : v.isRef = true) (h : K (pc + 1) Ls (v :: st) A k n) : K pc Ls st A k n :=
  G.run1 (fun _ _ _ _ _ _ _ hx hby hA r => XS.aloadN hA hx rfl (hb hby hd) (lat hl) hv r) h
theorem Gd.aload (G : Gd l Z a0 n0 b R cs ss own nm code ml ret Q K) {i : Nat} {v : Value} (hd : decode code pc = .ok (.aload i, 2)) (hl : Ls[i]? = some (.val v)) (hv : v.isRef = true) (h : K (pc + 2) Ls (v :: st) A k n) : K pc Ls st A k n :=
  G.run1 (fun _ _ _ _ _ _ _ hx hby hA r => XS.aload hA hx rfl (hb hby hd) (lat hl) hv r) h
theorem Gd.iconst (G : Gd l Z a0 n0 b R cs ss own nm code ml ret Q K) {i : Int} (z : Int32) (hd : decode code pc = .ok (.iconst i, 1)) (hz : Int32.ofInt i = z) (h : K (pc + 1) Ls (.int z :: st) A k n) : K pc Ls st A k n :=
  G.run1 (fun _ _ _ _ _ _ _ hx hby hA r => XS.iconst hA hx rfl (hb hby hd) (by rw [hz]; exact r)) h
theorem Gd.bipush (G : Gd l Z a0 n0 b R cs ss own nm code ml ret Q K) {i : Int} (z : Int32) (hd : decode code pc = .ok (.bipush i, 2)) (hz : (Int8.ofInt i).toInt32 = z) (h : K (pc + 2) Ls (.int z :: st) A k n) : K pc Ls st A k n :=
  G.run1 (fun _ _ _ _ _ _ _ hx hby hA r => XS.bipush hA hx rfl (hb hby hd) (by rw [hz]; exact r)) h
theorem Gd.sipush (G : Gd l Z a0 n0 b R cs ss own nm code ml ret Q K) {i : Int} (z : Int32) (hd : decode code pc = .ok (.sipush i, 3)) (hz : (Int16.ofInt i).toInt32 = z) (h : K (pc + 3) Ls (.int z :: st) A k n) : K pc Ls st A k n :=
  G.run1 (fun _ _ _ _ _ _ _ hx hby hA r => XS.sipush hA hx rfl (hb hby hd) (by rw [hz]; exact r)) h
theorem Gd.lconst (G : Gd l Z a0 n0 b R cs ss own nm code ml ret Q K) {i : Fin 2} (z : Int64) (hd : decode code pc = .ok (.lconst i, 1)) (hz : Int64.ofNat i = z) (h : K (pc + 1) Ls (.long z :: st) A k n) : K pc Ls st A k n :=
  G.run1 (fun _ _ _ _ _ _ _ hx hby hA r => XS.lconst hA hx rfl (hb hby hd) (by rw [hz]; exact r)) h
theorem Gd.aconstNull (G : Gd l Z a0 n0 b R cs ss own nm code ml ret Q K) (hd : decode code pc = .ok (.aconst_null, 1)) (h : K (pc + 1) Ls (.null :: st) A k n) : K pc Ls st A k n :=
  G.run1 (fun _ _ _ _ _ _ _ hx hby hA r => XS.aconstNull hA hx rfl (hb hby hd) r) h
theorem Gd.iadd (G : Gd l Z a0 n0 b R cs ss own nm code ml ret Q K) {x y : Int32} (hd : decode code pc = .ok (.iadd, 1)) (h : K (pc + 1) Ls (.int (x + y) :: st) A k n) : K pc Ls (.int y :: .int x :: st) A k n :=
  G.run1 (fun _ _ _ _ _ _ _ hx hby hA r => XS.iadd hA hx rfl (hb hby hd) rfl r) h
theorem Gd.isub (G : Gd l Z a0 n0 b R cs ss own nm code ml ret Q K) {x y : Int32} (hd : decode code pc = .ok (.isub, 1)) (h : K (pc + 1) Ls (.int (x - y) :: st) A k n) : K pc Ls (.int y :: .int x :: st) A k n :=
  G.run1 (fun _ _ _ _ _ _ _ hx hby hA r => XS.isub hA hx rfl (hb hby hd) rfl r) h
theorem Gd.imul (G : Gd l Z a0 n0 b R cs ss own nm code ml ret Q K) {x y : Int32} (hd : decode code pc = .ok (.imul, 1)) (h : K (pc + 1) Ls (.int (x * y) :: st) A k n) : K pc Ls (.int y :: .int x :: st) A k n :=
  G.run1 (fun _ _ _ _ _ _ _ hx hby hA r => XS.imul hA hx rfl (hb hby hd) rfl r) h
theorem Gd.iand (G : Gd l Z a0 n0 b R cs ss own nm code ml ret Q K) {x y : Int32} (hd : decode code pc = .ok (.iand, 1)) (h : K (pc + 1) Ls (.int (x &&& y) :: st) A k n) : K pc Ls (.int y :: .int x :: st) A k n :=
  G.run1 (fun _ _ _ _ _ _ _ hx hby hA r => XS.iand hA hx rfl (hb hby hd) rfl r) h
theorem Gd.ior (G : Gd l Z a0 n0 b R cs ss own nm code ml ret Q K) {x y : Int32} (hd : decode code pc = .ok (.ior, 1)) (h : K (pc + 1) Ls (.int (x ||| y) :: st) A k n) : K pc Ls (.int y :: .int x :: st) A k n :=
  G.run1 (fun _ _ _ _ _ _ _ hx hby hA r => XS.ior hA hx rfl (hb hby hd) rfl r) h
theorem Gd.ixor (G : Gd l Z a0 n0 b R cs ss own nm code ml ret Q K) {x y : Int32} (hd : decode code pc = .ok (.ixor, 1)) (h : K (pc + 1) Ls (.int (x ^^^ y) :: st) A k n) : K pc Ls (.int y :: .int x :: st) A k n :=
  G.run1 (fun _ _ _ _ _ _ _ hx hby hA r => XS.ixor hA hx rfl (hb hby hd) rfl r) h
theorem Gd.ishl (G : Gd l Z a0 n0 b R cs ss own nm code ml ret Q K) {x y : Int32} (hd : decode code pc = .ok (.ishl, 1)) (h : K (pc + 1) Ls (.int (x <<< (y &&& 31)) :: st) A k n) : K pc Ls (.int y :: .int x :: st) A k n :=
  G.run1 (fun _ _ _ _ _ _ _ hx hby hA r => XS.ishl hA hx rfl (hb hby hd) rfl r) h
theorem Gd.ishr (G : Gd l Z a0 n0 b R cs ss own nm code ml ret Q K) {x y : Int32} (hd : decode code pc = .ok (.ishr, 1)) (h : K (pc + 1) Ls (.int (x >>> (y &&& 31)) :: st) A k n) : K pc Ls (.int y :: .int x :: st) A k n :=
  G.run1 (fun _ _ _ _ _ _ _ hx hby hA r => XS.ishr hA hx rfl (hb hby hd) rfl r) h
theorem Gd.iushr (G : Gd l Z a0 n0 b R cs ss own nm code ml ret Q K) {x y : Int32} (hd : decode code pc = .ok (.iushr, 1)) (h : K (pc + 1) Ls (.int (ushr x y) :: st) A k n) : K pc Ls (.int y :: .int x :: st) A k n :=
  G.run1 (fun _ _ _ _ _ _ _ hx hby hA r => XS.iushr hA hx rfl (hb hby hd) rfl r) h
theorem Gd.ladd (G : Gd l Z a0 n0 b R cs ss own nm code ml ret Q K) {x y : Int64} (hd : decode code pc = .ok (.ladd, 1)) (h : K (pc + 1) Ls (.long (x + y) :: st) A k n) : K pc Ls (.long y :: .long x :: st) A k n :=
  G.run1 (fun _ _ _ _ _ _ _ hx hby hA r => XS.ladd hA hx rfl (hb hby hd) rfl r) h
theorem Gd.lsub (G : Gd l Z a0 n0 b R cs ss own nm code ml ret Q K) {x y : Int64} (hd : decode code pc = .ok (.lsub, 1)) (h : K (pc + 1) Ls (.long (x - y) :: st) A k n) : K pc Ls (.long y :: .long x :: st) A k n :=
  G.run1 (fun _ _ _ _ _ _ _ hx hby hA r => XS.lsub hA hx rfl (hb hby hd) rfl r) h
theorem Gd.lmul (G : Gd l Z a0 n0 b R cs ss own nm code ml ret Q K) {x y : Int64} (hd : decode code pc = .ok (.lmul, 1)) (h : K (pc + 1) Ls (.long (x * y) :: st) A k n) : K pc Ls (.long y :: .long x :: st) A k n :=
  G.run1 (fun _ _ _ _ _ _ _ hx hby hA r => XS.lmul hA hx rfl (hb hby hd) rfl r) h
theorem Gd.land (G : Gd l Z a0 n0 b R cs ss own nm code ml ret Q K) {x y : Int64} (hd : decode code pc = .ok (.land, 1)) (h : K (pc + 1) Ls (.long (x &&& y) :: st) A k n) : K pc Ls (.long y :: .long x :: st) A k n :=
  G.run1 (fun _ _ _ _ _ _ _ hx hby hA r => XS.land hA hx rfl (hb hby hd) rfl r) h
theorem Gd.lor (G : Gd l Z a0 n0 b R cs ss own nm code ml ret Q K) {x y : Int64} (hd : decode code pc = .ok (.lor, 1)) (h : K (pc + 1) Ls (.long (x ||| y) :: st) A k n) : K pc Ls (.long y :: .long x :: st) A k n :=
  G.run1 (fun _ _ _ _ _ _ _ hx hby hA r => XS.lor hA hx rfl (hb hby hd) rfl r) h
theorem Gd.lxor (G : Gd l Z a0 n0 b R cs ss own nm code ml ret Q K) {x y : Int64} (hd : decode code pc = .ok (.lxor, 1)) (h : K (pc + 1) Ls (.long (x ^^^ y) :: st) A k n) : K pc Ls (.long y :: .long x :: st) A k n :=
  G.run1 (fun _ _ _ _ _ _ _ hx hby hA r => XS.lxor hA hx rfl (hb hby hd) rfl r) h
theorem Gd.lshl (G : Gd l Z a0 n0 b R cs ss own nm code ml ret Q K) {x : Int64} {y : Int32} (hd : decode code pc = .ok (.lshl, 1)) (h : K (pc + 1) Ls (.long (x <<< (y &&& 0x3f).toInt64) :: st) A k n) : K pc Ls (.int y :: .long x :: st) A k n :=
  G.run1 (fun _ _ _ _ _ _ _ hx hby hA r => XS.lshl hA hx rfl (hb hby hd) rfl r) h
theorem Gd.lshr (G : Gd l Z a0 n0 b R cs ss own nm code ml ret Q K) {x : Int64} {y : Int32} (hd : decode code pc = .ok (.lshr, 1)) (h : K (pc + 1) Ls (.long (x >>> (y &&& 0x3f).toInt64) :: st) A k n) : K pc Ls (.int y :: .long x :: st) A k n :=
  G.run1 (fun _ _ _ _ _ _ _ hx hby hA r => XS.lshr hA hx rfl (hb hby hd) rfl r) h
theorem Gd.lushr (G : Gd l Z a0 n0 b R cs ss own nm code ml ret Q K) {x : Int64} {y : Int32} (hd : decode code pc = .ok (.lushr, 1)) (h : K (pc + 1) Ls (.long (ushrL x y) :: st) A k n) : K pc Ls (.int y :: .long x :: st) A k n :=
  G.run1 (fun _ _ _ _ _ _ _ hx hby hA r => XS.lushr hA hx rfl (hb hby hd) rfl r) h
theorem Gd.ineg (G : Gd l Z a0 n0 b R cs ss own nm code ml ret Q K) {x : Int32} (hd : decode code pc = .ok (.ineg, 1)) (h : K (pc + 1) Ls (.int (-x) :: st) A k n) : K pc Ls (.int x :: st) A k n :=
  G.run1 (fun _ _ _ _ _ _ _ hx hby hA r => XS.ineg hA hx rfl (hb hby hd) rfl r) h
theorem Gd.lneg (G : Gd l Z a0 n0 b R cs ss own nm code ml ret Q K) {x : Int64} (hd : decode code pc = .ok (.lneg, 1)) (h : K (pc + 1) Ls (.long (-x) :: st) A k n) : K pc Ls (.long x :: st) A k n :=
  G.run1 (fun _ _ _ _ _ _ _ hx hby hA r => XS.lneg hA hx rfl (hb hby hd) rfl r) h
theorem Gd.i2l (G : Gd l Z a0 n0 b R cs ss own nm code ml ret Q K) {x : Int32} (hd : decode code pc = .ok (.i2l, 1)) (h : K (pc + 1) Ls (.long (x.toInt64) :: st) A k n) : K pc Ls (.int x :: st) A k n :=
  G.run1 (fun _ _ _ _ _ _ _ hx hby hA r => XS.i2l hA hx rfl (hb hby hd) rfl r) h
theorem Gd.l2i (G : Gd l Z a0 n0 b R cs ss own nm code ml ret Q K) {x : Int64} (hd : decode code pc = .ok (.l2i, 1)) (h : K (pc + 1) Ls (.int (x.toInt32) :: st) A k n) : K pc Ls (.long x :: st) A k n :=
  G.run1 (fun _ _ _ _ _ _ _ hx hby hA r => XS.l2i hA hx rfl (hb hby hd) rfl r) h
theorem Gd.i2b (G : Gd l Z a0 n0 b R cs ss own nm code ml ret Q K) {x : Int32} (hd : decode code pc = .ok (.i2b, 1)) (h : K (pc + 1) Ls (.int (x.toInt8.toInt32) :: st) A k n) : K pc Ls (.int x :: st) A k n :=
  G.run1 (fun _ _ _ _ _ _ _ hx hby hA r => XS.i2b hA hx rfl (hb hby hd) rfl r) h
theorem Gd.i2c (G : Gd l Z a0 n0 b R cs ss own nm code ml ret Q K) {x : Int32} (hd : decode code pc = .ok (.i2c, 1)) (h : K (pc + 1) Ls (.int (x.toUInt32.toUInt16.toUInt32.toInt32) :: st) A k n) : K pc Ls (.int x :: st) A k n :=
  G.run1 (fun _ _ _ _ _ _ _ hx hby hA r => XS.i2c hA hx rfl (hb hby hd) rfl r) h
theorem Gd.i2s (G : Gd l Z a0 n0 b R cs ss own nm code ml ret Q K) {x : Int32} (hd : decode code pc = .ok (.i2s, 1)) (h : K (pc + 1) Ls (.int (x.toInt16.toInt32) :: st) A k n) : K pc Ls (.int x :: st) A k n :=
  G.run1 (fun _ _ _ _ _ _ _ hx hby hA r => XS.i2s hA hx rfl (hb hby hd) rfl r) h
theorem Gd.irem (G : Gd l Z a0 n0 b R cs ss own nm code ml ret Q K) {x y : Int32} (hd : decode code pc = .ok (.irem, 1)) (hy : y ≠ 0) (h : K (pc + 1) Ls (.int (x % y) :: st) A k n) : K pc Ls (.int y :: .int x :: st) A k n :=
  G.run1 (fun _ _ _ _ _ _ _ hx hby hA r => XS.irem hA hx rfl (hb hby hd) rfl hy (by have q : x - x / y * y = x % y := irem_eq_mod x y; rw [q]; exact r)) h
theorem Gd.lcmp (G : Gd l Z a0 n0 b R cs ss own nm code ml ret Q K) {x y : Int64} (hd : decode code pc = .ok (.lcmp, 1)) (h : K (pc + 1) Ls (.int (lcmpW x y) :: st) A k n) : K pc Ls (.long y :: .long x :: st) A k n :=
  G.run1 (fun _ _ _ _ _ _ _ hx hby hA r => XS.lcmp hA hx rfl (hb hby hd) rfl r) h
theorem Gd.dup (G : Gd l Z a0 n0 b R cs ss own nm code ml ret Q K) {x : Value} (hd : decode code pc = .ok (.dup, 1)) (hc : x.category = 1) (h : K (pc + 1) Ls (x :: x :: st) A k n) : K pc Ls (x :: st) A k n :=
  G.run1 (fun _ _ _ _ _ _ _ hx hby hA r => XS.dup hA hx rfl (hb hby hd) rfl hc r) h
theorem Gd.pop (G : Gd l Z a0 n0 b R cs ss own nm code ml ret Q K) {x : Value} (hd : decode code pc = .ok (.pop, 1)) (hc : x.category = 1) (h : K (pc + 1) Ls st A k n) : K pc Ls (x :: st) A k n :=
  G.run1 (fun _ _ _ _ _ _ _ hx hby hA r => XS.pop hA hx rfl (hb hby hd) rfl hc r) h
theorem Gd.dupX1 (G : Gd l Z a0 n0 b R cs ss own nm code ml ret Q K) {x y : Value} (hd : decode code pc = .ok (.dup_x1, 1)) (hc : x.category = 1) (hc' : y.category = 1) (h : K (pc + 1) Ls (x :: y :: x :: st) A k n) : K pc Ls (x :: y :: st) A k n :=
  G.run1 (fun _ _ _ _ _ _ _ hx hby hA r => XS.dupX1 hA hx rfl (hb hby hd) rfl hc hc' r) h
theorem Gd.dup2 (G : Gd l Z a0 n0 b R cs ss own nm code ml ret Q K) {x y : Value} (hd : decode code pc = .ok (.dup2, 1)) (hc : x.category = 1) (hc' : y.category = 1) (h : K (pc + 1) Ls (x :: y :: x :: y :: st) A k n) : K pc Ls (x :: y :: st) A k n :=
  G.run1 (fun _ _ _ _ _ _ _ hx hby hA r => Jvm.Free.XT.dup2 hA hx rfl (hb hby hd) rfl hc hc' r) h
theorem Gd.astore9 (G : Gd l Z a0 n0 b R cs ss own nm code ml ret Q K) {u0 u1 u2 u3 u4 u5 u6 u7 u8 o : Slot} {r : List Slot} {x : Value} (hd : decode code pc = .ok (.astore 9, 2)) (hv : x.isRef = true) (hl : storeLocals (u0 :: u1 :: u2 :: u3 :: u4 :: u5 :: u6 :: u7 :: u8 :: o :: r).toArray 9 (x) = some (u0 :: u1 :: u2 :: u3 :: u4 :: u5 :: u6 :: u7 :: u8 :: .val x :: r).toArray) (h : K (pc + 2) (u0 :: u1 :: u2 :: u3 :: u4 :: u5 :: u6 :: u7 :: u8 :: .val x :: r) st A k n) : K pc (u0 :: u1 :: u2 :: u3 :: u4 :: u5 :: u6 :: u7 :: u8 :: o :: r) (x :: st) A k n :=
  G.run1 (fun _ _ _ _ _ _ _ hx hby hA r => XS.astore hA hx rfl (hb hby hd) rfl hv hl r) h
theorem Gd.astore10 (G : Gd l Z a0 n0 b R cs ss own nm code ml ret Q K) {u0 u1 u2 u3 u4 u5 u6 u7 u8 u9 o : Slot} {r : List Slot} {x : Value} (hd : decode code pc = .ok (.astore 10, 2)) (hv : x.isRef = true) (hl : storeLocals (u0 :: u1 :: u2 :: u3 :: u4 :: u5 :: u6 :: u7 :: u8 :: u9 :: o :: r).toArray 10 (x) = some (u0 :: u1 :: u2 :: u3 :: u4 :: u5 :: u6 :: u7 :: u8 :: u9 :: .val x :: r).toArray) (h : K (pc + 2) (u0 :: u1 :: u2 :: u3 :: u4 :: u5 :: u6 :: u7 :: u8 :: u9 :: .val x :: r) st A k n) : K pc (u0 :: u1 :: u2 :: u3 :: u4 :: u5 :: u6 :: u7 :: u8 :: u9 :: o :: r) (x :: st) A k n :=
  G.run1 (fun _ _ _ _ _ _ _ hx hby hA r => XS.astore hA hx rfl (hb hby hd) rfl hv hl r) h
theorem Gd.istore5 (G : Gd l Z a0 n0 b R cs ss own nm code ml ret Q K) {u0 u1 u2 u3 u4 o : Slot} {r : List Slot} {x : Int32} (hd : decode code pc = .ok (.istore 5, 2)) (hl : storeLocals (u0 :: u1 :: u2 :: u3 :: u4 :: o :: r).toArray 5 (.int x) = some (u0 :: u1 :: u2 :: u3 :: u4 :: .val (.int x) :: r).toArray) (h : K (pc + 2) (u0 :: u1 :: u2 :: u3 :: u4 :: .val (.int x) :: r) st A k n) : K pc (u0 :: u1 :: u2 :: u3 :: u4 :: o :: r) (.int x :: st) A k n :=
  G.run1 (fun _ _ _ _ _ _ _ hx hby hA r => XS.istore hA hx rfl (hb hby hd) rfl hl r) h
theorem Gd.istore6 (G : Gd l Z a0 n0 b R cs ss own nm code ml ret Q K) {u0 u1 u2 u3 u4 u5 o : Slot} {r : List Slot} {x : Int32} (hd : decode code pc = .ok (.istore 6, 2)) (hl : storeLocals (u0 :: u1 :: u2 :: u3 :: u4 :: u5 :: o :: r).toArray 6 (.int x) = some (u0 :: u1 :: u2 :: u3 :: u4 :: u5 :: .val (.int x) :: r).toArray) (h : K (pc + 2) (u0 :: u1 :: u2 :: u3 :: u4 :: u5 :: .val (.int x) :: r) st A k n) : K pc (u0 :: u1 :: u2 :: u3 :: u4 :: u5 :: o :: r) (.int x :: st) A k n :=
  G.run1 (fun _ _ _ _ _ _ _ hx hby hA r => XS.istore hA hx rfl (hb hby hd) rfl hl r) h
theorem Gd.istore7 (G : Gd l Z a0 n0 b R cs ss own nm code ml ret Q K) {u0 u1 u2 u3 u4 u5 u6 o : Slot} {r : List Slot} {x : Int32} (hd : decode code pc = .ok (.istore 7, 2)) (hl : storeLocals (u0 :: u1 :: u2 :: u3 :: u4 :: u5 :: u6 :: o :: r).toArray 7 (.int x) = some (u0 :: u1 :: u2 :: u3 :: u4 :: u5 :: u6 :: .val (.int x) :: r).toArray) (h : K (pc + 2) (u0 :: u1 :: u2 :: u3 :: u4 :: u5 :: u6 :: .val (.int x) :: r) st A k n) : K pc (u0 :: u1 :: u2 :: u3 :: u4 :: u5 :: u6 :: o :: r) (.int x :: st) A k n :=
  G.run1 (fun _ _ _ _ _ _ _ hx hby hA r => XS.istore hA hx rfl (hb hby hd) rfl hl r) h
theorem Gd.istore8 (G : Gd l Z a0 n0 b R cs ss own nm code ml ret Q K) {u0 u1 u2 u3 u4 u5 u6 u7 o : Slot} {r : List Slot} {x : Int32} (hd : decode code pc = .ok (.istore 8, 2)) (hl : storeLocals (u0 :: u1 :: u2 :: u3 :: u4 :: u5 :: u6 :: u7 :: o :: r).toArray 8 (.int x) = some (u0 :: u1 :: u2 :: u3 :: u4 :: u5 :: u6 :: u7 :: .val (.int x) :: r).toArray) (h : K (pc + 2) (u0 :: u1 :: u2 :: u3 :: u4 :: u5 :: u6 :: u7 :: .val (.int x) :: r) st A k n) : K pc (u0 :: u1 :: u2 :: u3 :: u4 :: u5 :: u6 :: u7 :: o :: r) (.int x :: st) A k n :=
  G.run1 (fun _ _ _ _ _ _ _ hx hby hA r => XS.istore hA hx rfl (hb hby hd) rfl hl r) h
theorem Gd.istore11 (G : Gd l Z a0 n0 b R cs ss own nm code ml ret Q K) {u0 u1 u2 u3 u4 u5 u6 u7 u8 u9 u10 o : Slot} {r : List Slot} {x : Int32} (hd : decode code pc = .ok (.istore 11, 2)) (hl : storeLocals (u0 :: u1 :: u2 :: u3 :: u4 :: u5 :: u6 :: u7 :: u8 :: u9 :: u10 :: o :: r).toArray 11 (.int x) = some (u0 :: u1 :: u2 :: u3 :: u4 :: u5 :: u6 :: u7 :: u8 :: u9 :: u10 :: .val (.int x) :: r).toArray) (h : K (pc + 2) (u0 :: u1 :: u2 :: u3 :: u4 :: u5 :: u6 :: u7 :: u8 :: u9 :: u10 :: .val (.int x) :: r) st A k n) : K pc (u0 :: u1 :: u2 :: u3 :: u4 :: u5 :: u6 :: u7 :: u8 :: u9 :: u10 :: o :: r) (.int x :: st) A k n :=
  G.run1 (fun _ _ _ _ _ _ _ hx hby hA r => XS.istore hA hx rfl (hb hby hd) rfl hl r) h
theorem Gd.istore12 (G : Gd l Z a0 n0 b R cs ss own nm code ml ret Q K) {u0 u1 u2 u3 u4 u5 u6 u7 u8 u9 u10 u11 o : Slot} {r : List Slot} {x : Int32} (hd : decode code pc = .ok (.istore 12, 2)) (hl : storeLocals (u0 :: u1 :: u2 :: u3 :: u4 :: u5 :: u6 :: u7 :: u8 :: u9 :: u10 :: u11 :: o :: r).toArray 12 (.int x) = some (u0 :: u1 :: u2 :: u3 :: u4 :: u5 :: u6 :: u7 :: u8 :: u9 :: u10 :: u11 :: .val (.int x) :: r).toArray) (h : K (pc + 2) (u0 :: u1 :: u2 :: u3 :: u4 :: u5 :: u6 :: u7 :: u8 :: u9 :: u10 :: u11 :: .val (.int x) :: r) st A k n) : K pc (u0 :: u1 :: u2 :: u3 :: u4 :: u5 :: u6 :: u7 :: u8 :: u9 :: u10 :: u11 :: o :: r) (.int x :: st) A k n :=
  G.run1 (fun _ _ _ _ _ _ _ hx hby hA r => XS.istore hA hx rfl (hb hby hd) rfl hl r) h
theorem Gd.istore13 (G : Gd l Z a0 n0 b R cs ss own nm code ml ret Q K) {u0 u1 u2 u3 u4 u5 u6 u7 u8 u9 u10 u11 u12 o : Slot} {r : List Slot} {x : Int32} (hd : decode code pc = .ok (.istore 13, 2)) (hl : storeLocals (u0 :: u1 :: u2 :: u3 :: u4 :: u5 :: u6 :: u7 :: u8 :: u9 :: u10 :: u11 :: u12 :: o :: r).toArray 13 (.int x) = some (u0 :: u1 :: u2 :: u3 :: u4 :: u5 :: u6 :: u7 :: u8 :: u9 :: u10 :: u11 :: u12 :: .val (.int x) :: r).toArray) (h : K (pc + 2) (u0 :: u1 :: u2 :: u3 :: u4 :: u5 :: u6 :: u7 :: u8 :: u9 :: u10 :: u11 :: u12 :: .val (.int x) :: r) st A k n) : K pc (u0 :: u1 :: u2 :: u3 :: u4 :: u5 :: u6 :: u7 :: u8 :: u9 :: u10 :: u11 :: u12 :: o :: r) (.int x :: st) A k n :=
  G.run1 (fun _ _ _ _ _ _ _ hx hby hA r => XS.istore hA hx rfl (hb hby hd) rfl hl r) h
theorem Gd.istoreN3 (G : Gd l Z a0 n0 b R cs ss own nm code ml ret Q K) {u0 u1 u2 o : Slot} {r : List Slot} {x : Int32} (hd : decode code pc = .ok (.istore_n ⟨3, by decide⟩, 1)) (hl : storeLocals (u0 :: u1 :: u2 :: o :: r).toArray 3 (.int x) = some (u0 :: u1 :: u2 :: .val (.int x) :: r).toArray) (h : K (pc + 1) (u0 :: u1 :: u2 :: .val (.int x) :: r) st A k n) : K pc (u0 :: u1 :: u2 :: o :: r) (.int x :: st) A k n :=
  G.run1 (fun _ _ _ _ _ _ _ hx hby hA r => XS.istoreN hA hx rfl (hb hby hd) rfl hl r) h
theorem Gd.goto (G : Gd l Z a0 n0 b R cs ss own nm code ml ret Q K) {o : Int} (pc' : Nat) (hd : decode code pc = .ok (.goto o, 3)) (ho : 0 ≤ (pc : Int) + o) (hp : ((pc : Int) + o).toNat = pc') (h : K pc' Ls st A k n) : K pc Ls st A k n :=
  G.run1 (fun _ _ _ _ _ _ _ hx hby hA r => XS.goto hA hx rfl rfl (hb hby hd) ho hp r) h
theorem Gd.icmp (G : Gd l Z a0 n0 b R cs ss own nm code ml ret Q K) {cd : ClassFile.Cond} {o : Int} {x y : Int32} (pc' : Nat) (hd : decode code pc = .ok (.if_icmp cd o, 3)) (ho : 0 ≤ (pc : Int) + o) (hp : ((pc : Int) + o).toNat = pc') (h1 : if_icmp.holds cd x y = true → K pc' Ls st A k n) (h2 : if_icmp.holds cd x y = false → K (pc + 3) Ls st A k n) : K pc Ls (.int y :: .int x :: st) A k n := by
  cases q : if_icmp.holds cd x y with
  | true => exact G.run1 (fun _ _ _ _ _ _ _ hx hby hA r => XS.icmpYes hA hx rfl rfl (hb hby hd) rfl q ho hp r) (h1 q)
  | false => exact G.run1 (fun _ _ _ _ _ _ _ hx hby hA r => XS.icmpNo hA hx rfl (hb hby hd) rfl q r) (h2 q)
theorem Gd.ifc (G : Gd l Z a0 n0 b R cs ss own nm code ml ret Q K) {cd : ClassFile.Cond} {o : Int} {x : Int32} (pc' : Nat) (hd : decode code pc = .ok (.ifCond cd o, 3)) (ho : 0 ≤ (pc : Int) + o) (hp : ((pc : Int) + o).toNat = pc') (h1 : if_icmp.holds cd x 0 = true → K pc' Ls st A k n) (h2 : if_icmp.holds cd x 0 = false → K (pc + 3) Ls st A k n) : K pc Ls (.int x :: st) A k n := by
  cases q : if_icmp.holds cd x 0 with
  | true => exact G.run1 (fun _ _ _ _ _ _ _ hx hby hA r => XS.ifYes hA hx rfl rfl (hb hby hd) rfl ((if0 _ _).trans q) ho hp r) (h1 q)
  | false => exact G.run1 (fun _ _ _ _ _ _ _ hx hby hA r => XS.ifNo hA hx rfl (hb hby hd) rfl ((if0 _ _).trans q) r) (h2 q)
theorem hI_eq {x y : Int32} : (if_icmp.holds .eq x y = true → x = y) ∧ (if_icmp.holds .eq x y = false → ¬ x = y) := by simp [if_icmp.holds, Int32.not_lt, Int32.not_le]
theorem Gd.icmp_eq (G : Gd l Z a0 n0 b R cs ss own nm code ml ret Q K) {o : Int} {x y : Int32} (pc' : Nat) (hd : decode code pc = .ok (.if_icmp .eq o, 3)) (ho : 0 ≤ (pc : Int) + o) (hp : ((pc : Int) + o).toNat = pc') (h1 : x = y → K pc' Ls st A k n) (h2 : ¬ x = y → K (pc + 3) Ls st A k n) : K pc Ls (.int y :: .int x :: st) A k n :=
  G.icmp pc' hd ho hp (fun q => h1 (hI_eq.1 q)) (fun q => h2 (hI_eq.2 q))
theorem Gd.if_eq (G : Gd l Z a0 n0 b R cs ss own nm code ml ret Q K) {o : Int} {x : Int32} (pc' : Nat) (hd : decode code pc = .ok (.ifCond .eq o, 3)) (ho : 0 ≤ (pc : Int) + o) (hp : ((pc : Int) + o).toNat = pc') (h1 : x = 0 → K pc' Ls st A k n) (h2 : ¬ x = 0 → K (pc + 3) Ls st A k n) : K pc Ls (.int x :: st) A k n :=
  G.ifc pc' hd ho hp (fun q => h1 (hI_eq.1 q)) (fun q => h2 (hI_eq.2 q))
theorem hI_ne {x y : Int32} : (if_icmp.holds .ne x y = true → ¬ x = y) ∧ (if_icmp.holds .ne x y = false → x = y) := by simp [if_icmp.holds, Int32.not_lt, Int32.not_le]
theorem Gd.icmp_ne (G : Gd l Z a0 n0 b R cs ss own nm code ml ret Q K) {o : Int} {x y : Int32} (pc' : Nat) (hd : decode code pc = .ok (.if_icmp .ne o, 3)) (ho : 0 ≤ (pc : Int) + o) (hp : ((pc : Int) + o).toNat = pc') (h1 : ¬ x = y → K pc' Ls st A k n) (h2 : x = y → K (pc + 3) Ls st A k n) : K pc Ls (.int y :: .int x :: st) A k n :=
  G.icmp pc' hd ho hp (fun q => h1 (hI_ne.1 q)) (fun q => h2 (hI_ne.2 q))
theorem Gd.if_ne (G : Gd l Z a0 n0 b R cs ss own nm code ml ret Q K) {o : Int} {x : Int32} (pc' : Nat) (hd : decode code pc = .ok (.ifCond .ne o, 3)) (ho : 0 ≤ (pc : Int) + o) (hp : ((pc : Int) + o).toNat = pc') (h1 : ¬ x = 0 → K pc' Ls st A k n) (h2 : x = 0 → K (pc + 3) Ls st A k n) : K pc Ls (.int x :: st) A k n :=
  G.ifc pc' hd ho hp (fun q => h1 (hI_ne.1 q)) (fun q => h2 (hI_ne.2 q))
theorem hI_lt {x y : Int32} : (if_icmp.holds .lt x y = true → x < y) ∧ (if_icmp.holds .lt x y = false → ¬ x < y) := by simp [if_icmp.holds, Int32.not_lt, Int32.not_le]
theorem Gd.icmp_lt (G : Gd l Z a0 n0 b R cs ss own nm code ml ret Q K) {o : Int} {x y : Int32} (pc' : Nat) (hd : decode code pc = .ok (.if_icmp .lt o, 3)) (ho : 0 ≤ (pc : Int) + o) (hp : ((pc : Int) + o).toNat = pc') (h1 : x < y → K pc' Ls st A k n) (h2 : ¬ x < y → K (pc + 3) Ls st A k n) : K pc Ls (.int y :: .int x :: st) A k n :=
  G.icmp pc' hd ho hp (fun q => h1 (hI_lt.1 q)) (fun q => h2 (hI_lt.2 q))
theorem Gd.if_lt (G : Gd l Z a0 n0 b R cs ss own nm code ml ret Q K) {o : Int} {x : Int32} (pc' : Nat) (hd : decode code pc = .ok (.ifCond .lt o, 3)) (ho : 0 ≤ (pc : Int) + o) (hp : ((pc : Int) + o).toNat = pc') (h1 : x < 0 → K pc' Ls st A k n) (h2 : ¬ x < 0 → K (pc + 3) Ls st A k n) : K pc Ls (.int x :: st) A k n :=
  G.ifc pc' hd ho hp (fun q => h1 (hI_lt.1 q)) (fun q => h2 (hI_lt.2 q))
theorem hI_ge {x y : Int32} : (if_icmp.holds .ge x y = true → ¬ x < y) ∧ (if_icmp.holds .ge x y = false → x < y) := by simp [if_icmp.holds, Int32.not_lt, Int32.not_le]
theorem Gd.icmp_ge (G : Gd l Z a0 n0 b R cs ss own nm code ml ret Q K) {o : Int} {x y : Int32} (pc' : Nat) (hd : decode code pc = .ok (.if_icmp .ge o, 3)) (ho : 0 ≤ (pc : Int) + o) (hp : ((pc : Int) + o).toNat = pc') (h1 : ¬ x < y → K pc' Ls st A k n) (h2 : x < y → K (pc + 3) Ls st A k n) : K pc Ls (.int y :: .int x :: st) A k n :=
  G.icmp pc' hd ho hp (fun q => h1 (hI_ge.1 q)) (fun q => h2 (hI_ge.2 q))
theorem Gd.if_ge (G : Gd l Z a0 n0 b R cs ss own nm code ml ret Q K) {o : Int} {x : Int32} (pc' : Nat) (hd : decode code pc = .ok (.ifCond .ge o, 3)) (ho : 0 ≤ (pc : Int) + o) (hp : ((pc : Int) + o).toNat = pc') (h1 : ¬ x < 0 → K pc' Ls st A k n) (h2 : x < 0 → K (pc + 3) Ls st A k n) : K pc Ls (.int x :: st) A k n :=
  G.ifc pc' hd ho hp (fun q => h1 (hI_ge.1 q)) (fun q => h2 (hI_ge.2 q))
theorem hI_gt {x y : Int32} : (if_icmp.holds .gt x y = true → y < x) ∧ (if_icmp.holds .gt x y = false → ¬ y < x) := by simp [if_icmp.holds, Int32.not_lt, Int32.not_le]
theorem Gd.icmp_gt (G : Gd l Z a0 n0 b R cs ss own nm code ml ret Q K) {o : Int} {x y : Int32} (pc' : Nat) (hd : decode code pc = .ok (.if_icmp .gt o, 3)) (ho : 0 ≤ (pc : Int) + o) (hp : ((pc : Int) + o).toNat = pc') (h1 : y < x → K pc' Ls st A k n) (h2 : ¬ y < x → K (pc + 3) Ls st A k n) : K pc Ls (.int y :: .int x :: st) A k n :=
  G.icmp pc' hd ho hp (fun q => h1 (hI_gt.1 q)) (fun q => h2 (hI_gt.2 q))
theorem Gd.if_gt (G : Gd l Z a0 n0 b R cs ss own nm code ml ret Q K) {o : Int} {x : Int32} (pc' : Nat) (hd : decode code pc = .ok (.ifCond .gt o, 3)) (ho : 0 ≤ (pc : Int) + o) (hp : ((pc : Int) + o).toNat = pc') (h1 : 0 < x → K pc' Ls st A k n) (h2 : ¬ 0 < x → K (pc + 3) Ls st A k n) : K pc Ls (.int x :: st) A k n :=
  G.ifc pc' hd ho hp (fun q => h1 (hI_gt.1 q)) (fun q => h2 (hI_gt.2 q))
theorem hI_le {x y : Int32} : (if_icmp.holds .le x y = true → ¬ y < x) ∧ (if_icmp.holds .le x y = false → y < x) := by simp [if_icmp.holds, Int32.not_lt, Int32.not_le]
theorem Gd.icmp_le (G : Gd l Z a0 n0 b R cs ss own nm code ml ret Q K) {o : Int} {x y : Int32} (pc' : Nat) (hd : decode code pc = .ok (.if_icmp .le o, 3)) (ho : 0 ≤ (pc : Int) + o) (hp : ((pc : Int) + o).toNat = pc') (h1 : ¬ y < x → K pc' Ls st A k n) (h2 : y < x → K (pc + 3) Ls st A k n) : K pc Ls (.int y :: .int x :: st) A k n :=
  G.icmp pc' hd ho hp (fun q => h1 (hI_le.1 q)) (fun q => h2 (hI_le.2 q))
theorem Gd.if_le (G : Gd l Z a0 n0 b R cs ss own nm code ml ret Q K) {o : Int} {x : Int32} (pc' : Nat) (hd : decode code pc = .ok (.ifCond .le o, 3)) (ho : 0 ≤ (pc : Int) + o) (hp : ((pc : Int) + o).toNat = pc') (h1 : ¬ 0 < x → K pc' Ls st A k n) (h2 : 0 < x → K (pc + 3) Ls st A k n) : K pc Ls (.int x :: st) A k n :=
  G.ifc pc' hd ho hp (fun q => h1 (hI_le.1 q)) (fun q => h2 (hI_le.2 q))
theorem Gd.ifnonnullR (G : Gd l Z a0 n0 b R cs ss own nm code ml ret Q K) {o : Int} {b : Addr} (pc' : Nat) (hd : decode code pc = .ok (.ifnonnull o, 3)) (ho : 0 ≤ (pc : Int) + o) (hp : ((pc : Int) + o).toNat = pc') (h : K pc' Ls st A k n) : K pc Ls (.ref b :: st) A k n :=
  G.run1 (fun _ _ _ _ _ _ _ hx hby hA r => XS.ifnonnullYes hA hx rfl rfl (hb hby hd) rfl ho hp r) h
theorem idxOk {c : Cell} {vs : List Value} {j : Int32} {jn : Nat} (e : c.slots = vs.toArray) (hj : j.toInt = (jn : Int)) (hl : jn < vs.length) : ¬ (j < 0 ∨ c.slots.size ≤ j.toNatClampNeg) ∧ j.toNatClampNeg = jn := by
  have h1 : j.toNatClampNeg = jn := by
    show j.toInt.toNat = jn
    rw [hj]; rfl
  refine ⟨?_, h1⟩
  rintro (q | q)
  · rw [Int32.lt_iff_toInt_lt] at q
    have : (0 : Int32).toInt = 0 := by decide
    omega
  · rw [h1, e] at q
    simp at q
    omega
theorem Gd.getf (G : Gd l Z a0 n0 b R cs ss own nm code ml ret Q K) {idx i j : Nat} {C fn d host : String} {fs : List (String × String × Value)} {v : Value} (hd : decode code pc = .ok (.getfield idx, 3)) (w : (Jvm.Cond.fieldLink own idx C fn d).before a0 Z = true ∨ (Jvm.Cond.fieldLinkNest own idx C fn d host).before a0 Z = true) (hA : A[i]? = some (.inl (C, fs))) (hf : fs[j]? = some (fn, d, v)) (h : K (pc + 3) Ls (v :: st) A k n) : K pc Ls (.ref (ad n0 i) :: st) A k n := by
  obtain ⟨p, e, s, m, args, below, meth, c, hx, hby, -, hown, -, hZ, -, -, -, rfl⟩ := G
  intro T locs X N hAl RP
  obtain ⟨T', X', e', stp⟩ := getF X hx hZ hown w Via.refl rfl ((RP.2 i _ hA).2.2 j _ _ _ hf).1 (g := mkF m pc Ls.toArray (.ref (ad n0 i) :: st)) rfl rfl (hb hby hd)
  obtain ⟨s₂, o, hs, r⟩ := h T' locs X' N hAl (by rw [e']; exact RP)
  exact ⟨s₂, o, stp _ hs, r⟩
theorem Gd.putf (G : Gd l Z a0 n0 b R cs ss own nm code ml ret Q K) {idx i j kk : Nat} {C fn d host : String} {fs : List (String × String × Value)} {v old : Value} {ty : FieldType} (hd : decode code pc = .ok (.putfield idx, 3)) (w : (Jvm.Cond.fieldLink own idx C fn d).before a0 Z = true ∨ (Jvm.Cond.fieldLinkNest own idx C fn d host).before a0 Z = true) (L : (Jvm.Cond.lays C C fn d).before a0 Z = true ∨ ((Jvm.Cond.laysFinal C C fn d).before a0 Z = true ∧ own = C ∧ nm = "<init>")) (wi : (Jvm.Cond.instantiable C kk).before a0 Z = true)
    (hty : parseFieldDescriptor d = some ty) (hn : narrow ty v = v) (hv : fits ty v = true) (hA : A[i]? = some (.inl (C, fs))) (hf : fs[j]? = some (fn, d, old)) (h : K (pc + 3) Ls st (A.set i (.inl (C, fs.set j (fn, d, v)))) k n) : K pc Ls (v :: .ref (ad n0 i) :: st) A k n := by
  obtain ⟨p, e, s, m, args, below, meth, c, hx, hby, -, hown, hnm, hZ, -, -, -, rfl⟩ := G
  intro T locs X N hAl RP
  have F := ((RP.2 i _ hA).2.2 j _ _ _ hf).1
  obtain ⟨T', h', X', e', W, stp⟩ := putF X hx hZ hown w Via.refl rfl F (RP.2 i _ hA).1 (by rcases L with L | ⟨L1, L2, L3⟩; exact Or.inl L; exact Or.inr ⟨L1, L2, hnm.trans L3⟩) wi hty hn hv (g := mkF m pc Ls.toArray (v :: .ref (ad n0 i) :: st)) rfl rfl (hb hby hd)
  obtain ⟨s₂, o, hs, r⟩ := h T' _ X' (Fr.snoc X' N (ad_le _ _)) (by rw [List.length_set]; exact hAl) (by rw [e']; exact RP.wr W ((RP.2 i _ hA).put hf W))
  exact ⟨s₂, o, stp _ hs, r⟩
/-- a field whose pool entry is resolved already -/
theorem Gd.getfR (G : Gd l Z a0 n0 b R cs ss own nm code ml ret Q K) {idx i j : Nat} {C fn d : String} {fs : List (String × String × Value)} {v : Value} (hd : decode code pc = .ok (.getfield idx, 3)) (w : (Jvm.Cond.fieldRef own idx C fn d).before a0 Z = true) (hA : A[i]? = some (.inl (C, fs))) (hf : fs[j]? = some (fn, d, v)) (h : K (pc + 3) Ls (v :: st) A k n) : K pc Ls (.ref (ad n0 i) :: st) A k n := by
  obtain ⟨p, e, s, m, args, below, meth, c, hx, hby, -, hown, -, hZ, -, -, -, rfl⟩ := G
  intro T locs X N hAl RP
  obtain ⟨cell, cf, kf, fi, f, h1, h2, h3, h4, h5, h6, h7⟩ := ((RP.2 i _ hA).2.2 j _ _ _ hf).1
  have hZT : Z.Warmed39 T.vm := wtrans hZ X.warmed
  have hown' : (Z.setVm T.vm).vm.findClass own = some m.cls := by show T.vm.findClass own = _; rw [X.warmed.alike.findClass]; exact hown
  obtain ⟨c3, k3, i3, f3, hi3, hr⟩ := Cond.fieldRef_spec (s := Z.setVm T.vm) hown' (Cond.fieldRef_warmed39 hZT w)
  obtain ⟨k', hi', -⟩ := State.fieldFound?_setVm (s := Z) hZT.alike h2
  cases hi3.symm.trans hi'
  have hr' : T.vm.fieldReady m.cls idx cf f := hr
  obtain ⟨s₂, o, hs, r⟩ := h T locs X N hAl RP
  refine ⟨s₂, o, ?_, r⟩
  show Steps p.tables e below (T.setTop { method := m, pc := pc, locals := Ls.toArray, stack := .ref (ad n0 i) :: st, locked := none }) _
  jvm_step X.here [hx, hb hby hd, getfield.wp_ready (e := e) (s := T) (f := { method := m, pc := pc, locals := Ls.toArray, stack := .ref (ad n0 i) :: st, locked := none }) X.here.top hr' h3 rfl h1 h4 h7]
  exact hs
theorem Gd.putfR (G : Gd l Z a0 n0 b R cs ss own nm code ml ret Q K) {idx i j kk : Nat} {C fn d : String} {fs : List (String × String × Value)} {v old : Value} {ty : FieldType} (hd : decode code pc = .ok (.putfield idx, 3)) (w : (Jvm.Cond.fieldRef own idx C fn d).before a0 Z = true) (L : (Jvm.Cond.lays C C fn d).before a0 Z = true) (wi : (Jvm.Cond.instantiable C kk).before a0 Z = true)
    (hty : parseFieldDescriptor d = some ty) (hn : narrow ty v = v) (hv : fits ty v = true) (hA : A[i]? = some (.inl (C, fs))) (hf : fs[j]? = some (fn, d, old)) (h : K (pc + 3) Ls st (A.set i (.inl (C, fs.set j (fn, d, v)))) k n) : K pc Ls (v :: .ref (ad n0 i) :: st) A k n := by
  obtain ⟨p, e, s, m, args, below, meth, c, hx, hby, -, hown, -, hZ, -, -, -, rfl⟩ := G
  intro T locs X N hAl RP
  obtain ⟨cell, cf, kf, fi, f, h1, h2, h3, h4, h5, h6, h7⟩ := ((RP.2 i _ hA).2.2 j _ _ _ hf).1
  obtain ⟨cell', kc, e1, e2, e3, -⟩ := (RP.2 i _ hA).1
  cases h1.symm.trans e1
  obtain ⟨c1, k1, cf1, kf1, i1, f1, a1, a2, a3, -, a5, -, a7, -⟩ := Cond.lays_spec L
  cases h2.symm.trans a3
  cases e2.symm.trans a1
  obtain ⟨c2, k2, i1', i2, i3, -⟩ := Cond.instantiable_spec wi
  cases e2.symm.trans i1'
  cases a2.symm.trans i2
  have ht := (State.fieldFound?_type h2 hty).2
  have hlt := (Array.getElem?_eq_some_iff.mp h7).1
  have hfitZ : Z.fitsSlot cell.cls cell.vm f.slot v = true := by
    have q : Z.slotType? cell.cls cell.vm f.slot = some ty := by
      simp only [State.slotType?, a2, Option.bind_eq_bind, Option.bind_some, i3]
      cases hq : cell.vm <;> first | (rw [hq] at h5; exact Bool.noConfusion h5) | (rw [a7, ht])
    simp [State.fitsSlot, q, hv]
  have hZT : Z.Warmed39 T.vm := wtrans hZ X.warmed
  have hfitT : T.fitsSlot cell.cls cell.vm f.slot v = true := by rw [← State.fitsSlot_setVm hZT.alike] at hfitZ; exact hfitZ
  have hown' : (Z.setVm T.vm).vm.findClass own = some m.cls := by show T.vm.findClass own = _; rw [X.warmed.alike.findClass]; exact hown
  obtain ⟨c3, k3, i3', f3, hi3, hr⟩ := Cond.fieldRef_spec (s := Z.setVm T.vm) hown' (Cond.fieldRef_warmed39 hZT w)
  obtain ⟨k', hi', -⟩ := State.fieldFound?_setVm (s := Z) hZT.alike h2
  cases hi3.symm.trans hi'
  have hr' : T.vm.fieldReady m.cls idx cf f := hr
  have X' := X.stored h1 f.slot v
  have es : Jvm.RoadKit.slotOf Z C fn d = f.slot := by simp [Jvm.RoadKit.slotOf, h2]
  have W : Wr T.heap (T.setCell (ad n0 i) (cell.setSlot f.slot v)).heap (ad n0 i) (Jvm.RoadKit.slotOf Z C fn d) v := by rw [es]; exact ⟨cell, h1, h5, hlt, rfl⟩
  obtain ⟨s₂, o, hs, r⟩ := h _ _ X' (Fr.snoc X' N (ad_le _ _)) (by rw [List.length_set]; exact hAl) (RP.wr W ((RP.2 i _ hA).put hf W))
  refine ⟨s₂, o, ?_, r⟩
  have hnar : narrow f.type v = v := by rw [ht]; exact hn
  show Steps p.tables e below (T.setTop { method := m, pc := pc, locals := Ls.toArray, stack := v :: .ref (ad n0 i) :: st, locked := none }) _
  jvm_step X.here [hx, hb hby hd, putfield.wp_ready (e := e) (s := T) (f := { method := m, pc := pc, locals := Ls.toArray, stack := v :: .ref (ad n0 i) :: st, locked := none }) X.here.top hr' h3 a5 rfl h1 h4, hnar]
  exact ⟨hlt, hfitT, hs⟩
theorem Gd.newo (G : Gd l Z a0 n0 b R cs ss own nm code ml ret Q K) {idx sl : Nat} {C : String} {fs : List (String × String × Value)} (hd : decode code pc = .ok (.new idx, 3)) (w : (Jvm.Cond.classLink own idx C).before a0 Z = true) (wi : (Jvm.Cond.instantiable C sl).before a0 Z = true) (wz : (Jvm.Cond.initialized C).before a0 Z = true) (hf : FOk Z a0 C fs) (hc : k + 1 ≤ R.cells) (hl : n + sl ≤ R.slots) (h : K (pc + 3) Ls (.ref (ad n0 A.length) :: st) (A ++ [.inl (C, fs)]) (k + 1) (n + sl)) : K pc Ls st A k n := by
  obtain ⟨p, e, s, m, args, below, meth, c, hx, hby, -, hown, hnm, hZ, -, -, hb0, rfl⟩ := G
  intro T locs X N hAl RP
  obtain ⟨T', h', X', e', E, Ex, D, -, stp⟩ := newO X hx hZ hown w wi wz rfl (g := mkF m pc Ls.toArray st) rfl (hb hby hd) hc hl
  have hsz : h'.size = T.heap.size + 1 := by
    have q1 := X'.heapSize
    have q2 : T.heap.size < h'.size := Ex.lt
    rw [e'] at q1
    have q3 := RP.1
    omega
  have R' : Rep Z a0 n0 h' (A ++ [.inl (C, fs)]) := RP.push E hsz ⟨Ex, hf.1, fun j fn d v hj => by
    obtain ⟨L, t, ht, hv⟩ := hf.2 _ (List.mem_of_getElem? hj)
    exact ⟨by have := D L ht; rw [hv] at this; exact this, L, t, ht⟩⟩
  have ea : ad n0 A.length = T.heap.size := RP.1.symm
  obtain ⟨s₂, o, hs, r⟩ := h T' locs X' N (by simp; omega) (by rw [e']; exact R')
  rw [ea] at hs
  exact ⟨s₂, o, stp _ hs, r⟩
theorem Gd.newarr (G : Gd l Z a0 n0 b R cs ss own nm code ml ret Q K) {aty : ArrayType} {z : Int32} (zn cap : Nat) (hd : decode code pc = .ok (.newarray aty, 2)) (w : (Jvm.Cond.arrayClass (newarray.typeOf aty)).before a0 Z = true) (hz : z.toInt = (zn : Int)) (hcap : zn ≤ cap) (hb0 : cap * 8 ≤ 536870912) (hc : k + 1 ≤ R.cells) (hl : n + cap ≤ R.slots) (hfit : fits (newarray.typeOf aty) (defaultValue (newarray.typeOf aty)) = true) (h : K (pc + 2) Ls (.ref (ad n0 A.length) :: st) (A ++ [.inr (newarray.typeOf aty, List.replicate zn (defaultValue (newarray.typeOf aty)))]) (k + 1) (n + cap)) : K pc Ls (.int z :: st) A k n := by
  obtain ⟨p, e, s, m, args, below, meth, c, hx, hby, -, hown, hnm, hZ, -, -, hsb, rfl⟩ := G
  intro T locs X N hAl RP
  have hz0 : ¬ z < 0 := by
    rw [Int32.lt_iff_toInt_lt]
    have : (0 : Int32).toInt = 0 := by decide
    omega
  have hzn : z.toNatClampNeg = zn := by show z.toInt.toNat = zn; rw [hz]; rfl
  obtain ⟨T', h', cA, X', e', E, Ar, Ex, stp⟩ := newPE X hx hZ w rfl (g := mkF m pc Ls.toArray (.int z :: st)) rfl (hb hby hd) rfl hz0 (cap := cap) (by rw [hzn]; exact hcap) hb0 hc hl (ad := "[" ++ (newarray.typeOf aty).toString) rfl
  have hsz : h'.size = T.heap.size + 1 := by
    have q1 := X'.heapSize
    have q2 : T.heap.size < h'.size := Ex.lt
    rw [e'] at q1
    have q3 := RP.1
    omega
  have R' : Rep Z a0 n0 h' (A ++ [.inr (newarray.typeOf aty, List.replicate zn (defaultValue (newarray.typeOf aty)))]) := RP.push E hsz ⟨Ex, _, Ar, by simp [newA, hzn], by simp; have := z.toInt_lt; omega, fun v hv => by rw [List.eq_of_mem_replicate hv]; exact hfit⟩
  have ea : ad n0 A.length = T.heap.size := RP.1.symm
  obtain ⟨s₂, o, hs, r⟩ := h T' locs X' N (by simp; omega) (by rw [e']; exact R')
  rw [ea] at hs
  exact ⟨s₂, o, stp _ hs, r⟩
theorem Gd.alen (G : Gd l Z a0 n0 b R cs ss own nm code ml ret Q K) {i : Nat} {ty : FieldType} {vs : List Value} (z : Int32) (hd : decode code pc = .ok (.arraylength, 1)) (hA : A[i]? = some (.inr (ty, vs))) (hz : vs.length.toInt32 = z) (h : K (pc + 1) Ls (.int z :: st) A k n) : K pc Ls (.ref (ad n0 i) :: st) A k n := by
  obtain ⟨p, e, s, m, args, below, meth, c, hx, hby, -, hown, -, hZ, -, -, -, rfl⟩ := G
  intro T locs X N hAl RP
  obtain ⟨-, cl, Ar, es, -, -⟩ := RP.2 i _ hA
  obtain ⟨s₂, o, hs, r⟩ := h T locs X N hAl RP
  refine ⟨s₂, o, X.arraylength hx Ar.1 (State.isArrayOf_alike hZ.alike Ar.2.1) (g := mkF m pc Ls.toArray (.ref (ad n0 i) :: st)) rfl rfl (hb hby hd) _ ?_, r⟩
  have q : cl.slots.size.toInt32 = z := by rw [es]; exact hz
  rw [q]; exact hs
theorem Gd.iald (G : Gd l Z a0 n0 b R cs ss own nm code ml ret Q K) {i : Nat} {vs : List Value} {j : Int32} {x : Int32} (jn : Nat) (hd : decode code pc = .ok (.iaload, 1)) (hA : A[i]? = some (.inr (.int, vs))) (hj : j.toInt = (jn : Int)) (hv : vs[jn]? = some (.int x)) (h : K (pc + 1) Ls (.int x :: st) A k n) : K pc Ls (.int j :: .ref (ad n0 i) :: st) A k n := by
  obtain ⟨p, e, s, m, args, below, meth, c, hx, hby, -, hown, -, hZ, -, -, -, rfl⟩ := G
  intro T locs X N hAl RP
  obtain ⟨-, cl, Ar, es, -, -⟩ := RP.2 i _ hA
  obtain ⟨q1, q2⟩ := idxOk es hj (List.getElem?_eq_some_iff.mp hv).1
  obtain ⟨s₂, o, hs, r⟩ := h T locs X N hAl RP
  exact ⟨s₂, o, X.iaload hx (j := j) (v := .int x) Ar.1 (State.isArrayOf_alike hZ.alike Ar.2.1) Ar.2.2 q1 (by rw [q2, es]; simpa using hv) (g := mkF m pc Ls.toArray (.int j :: .ref (ad n0 i) :: st)) rfl rfl (hb hby hd) _ hs, r⟩
theorem Gd.lald (G : Gd l Z a0 n0 b R cs ss own nm code ml ret Q K) {i : Nat} {vs : List Value} {j : Int32} {x : Int64} (jn : Nat) (hd : decode code pc = .ok (.laload, 1)) (hA : A[i]? = some (.inr (.long, vs))) (hj : j.toInt = (jn : Int)) (hv : vs[jn]? = some (.long x)) (h : K (pc + 1) Ls (.long x :: st) A k n) : K pc Ls (.int j :: .ref (ad n0 i) :: st) A k n := by
  obtain ⟨p, e, s, m, args, below, meth, c, hx, hby, -, hown, -, hZ, -, -, -, rfl⟩ := G
  intro T locs X N hAl RP
  obtain ⟨-, cl, Ar, es, -, -⟩ := RP.2 i _ hA
  obtain ⟨q1, q2⟩ := idxOk es hj (List.getElem?_eq_some_iff.mp hv).1
  obtain ⟨s₂, o, hs, r⟩ := h T locs X N hAl RP
  exact ⟨s₂, o, X.laload hx (j := j) (v := .long x) Ar.1 (State.isArrayOf_alike hZ.alike Ar.2.1) Ar.2.2 q1 (by rw [q2, es]; simpa using hv) (g := mkF m pc Ls.toArray (.int j :: .ref (ad n0 i) :: st)) rfl rfl (hb hby hd) _ hs, r⟩
theorem Gd.bald (G : Gd l Z a0 n0 b R cs ss own nm code ml ret Q K) {i : Nat} {vs : List Value} {j : Int32} {x : Int32} (jn : Nat) (hd : decode code pc = .ok (.baload, 1)) (hA : A[i]? = some (.inr (.byte, vs))) (hj : j.toInt = (jn : Int)) (hv : vs[jn]? = some (.int x)) (h : K (pc + 1) Ls (.int x :: st) A k n) : K pc Ls (.int j :: .ref (ad n0 i) :: st) A k n := by
  obtain ⟨p, e, s, m, args, below, meth, c, hx, hby, -, hown, -, hZ, -, -, -, rfl⟩ := G
  intro T locs X N hAl RP
  obtain ⟨-, cl, Ar, es, -, -⟩ := RP.2 i _ hA
  obtain ⟨q1, q2⟩ := idxOk es hj (List.getElem?_eq_some_iff.mp hv).1
  obtain ⟨s₂, o, hs, r⟩ := h T locs X N hAl RP
  exact ⟨s₂, o, X.baloadBytes hx (j := j) (v := .int x) Ar.1 (State.isArrayOf_alike hZ.alike Ar.2.1) Ar.2.2 q1 (by rw [q2, es]; simpa using hv) (g := mkF m pc Ls.toArray (.int j :: .ref (ad n0 i) :: st)) rfl rfl (hb hby hd) _ hs, r⟩
theorem Gd.zald (G : Gd l Z a0 n0 b R cs ss own nm code ml ret Q K) {i : Nat} {vs : List Value} {j : Int32} {x : Int32} (jn : Nat) (hd : decode code pc = .ok (.baload, 1)) (hA : A[i]? = some (.inr (.boolean, vs))) (hj : j.toInt = (jn : Int)) (hv : vs[jn]? = some (.int x)) (h : K (pc + 1) Ls (.int x :: st) A k n) : K pc Ls (.int j :: .ref (ad n0 i) :: st) A k n := by
  obtain ⟨p, e, s, m, args, below, meth, c, hx, hby, -, hown, -, hZ, -, -, -, rfl⟩ := G
  intro T locs X N hAl RP
  obtain ⟨-, cl, Ar, es, -, -⟩ := RP.2 i _ hA
  obtain ⟨q1, q2⟩ := idxOk es hj (List.getElem?_eq_some_iff.mp hv).1
  obtain ⟨s₂, o, hs, r⟩ := h T locs X N hAl RP
  exact ⟨s₂, o, X.baloadBooleans hx (j := j) (v := .int x) Ar.1 (State.isArrayOf_alike hZ.alike Ar.2.1) Ar.2.2 q1 (by rw [q2, es]; simpa using hv) (g := mkF m pc Ls.toArray (.int j :: .ref (ad n0 i) :: st)) rfl rfl (hb hby hd) _ hs, r⟩
theorem Gd.iast (G : Gd l Z a0 n0 b R cs ss own nm code ml ret Q K) {i : Nat} {vs : List Value} {j : Int32} {x : Int32} (jn : Nat) (hd : decode code pc = .ok (.iastore, 1)) (hA : A[i]? = some (.inr (.int, vs))) (hj : j.toInt = (jn : Int)) (hl : jn < vs.length) (h : K (pc + 1) Ls st (A.set i (.inr (.int, vs.set jn (.int x)))) k n) : K pc Ls (.int x :: .int j :: .ref (ad n0 i) :: st) A k n := by
  obtain ⟨p, e, s, m, args, below, meth, c, hx, hby, -, hown, -, hZ, -, -, -, rfl⟩ := G
  intro T locs X N hAl RP
  obtain ⟨-, cl, Ar, es, -, -⟩ := RP.2 i _ hA
  obtain ⟨q1, q2⟩ := idxOk es hj hl
  obtain ⟨T', h', X', e', W, stp⟩ := stI X hx hZ rfl Ar q1 (g := mkF m pc Ls.toArray (.int x :: .int j :: .ref (ad n0 i) :: st)) rfl rfl (hb hby hd)
  have W' : Wr T.heap h' (ad n0 i) jn (.int x) := by rw [← q2]; exact W
  obtain ⟨s₂, o, hs, r⟩ := h T' _ X' (Fr.snoc X' N (ad_le _ _)) (by rw [List.length_set]; exact hAl) (by rw [e']; exact RP.wr W' ((RP.2 i _ hA).store rfl W'))
  exact ⟨s₂, o, stp _ hs, r⟩
theorem Gd.last (G : Gd l Z a0 n0 b R cs ss own nm code ml ret Q K) {i : Nat} {vs : List Value} {j : Int32} {x : Int64} (jn : Nat) (hd : decode code pc = .ok (.lastore, 1)) (hA : A[i]? = some (.inr (.long, vs))) (hj : j.toInt = (jn : Int)) (hl : jn < vs.length) (h : K (pc + 1) Ls st (A.set i (.inr (.long, vs.set jn (.long x)))) k n) : K pc Ls (.long x :: .int j :: .ref (ad n0 i) :: st) A k n := by
  obtain ⟨p, e, s, m, args, below, meth, c, hx, hby, -, hown, -, hZ, -, -, -, rfl⟩ := G
  intro T locs X N hAl RP
  obtain ⟨-, cl, Ar, es, -, -⟩ := RP.2 i _ hA
  obtain ⟨q1, q2⟩ := idxOk es hj hl
  obtain ⟨T', h', X', e', W, stp⟩ := stJ X hx hZ rfl Ar q1 (g := mkF m pc Ls.toArray (.long x :: .int j :: .ref (ad n0 i) :: st)) rfl rfl (hb hby hd)
  have W' : Wr T.heap h' (ad n0 i) jn (.long x) := by rw [← q2]; exact W
  obtain ⟨s₂, o, hs, r⟩ := h T' _ X' (Fr.snoc X' N (ad_le _ _)) (by rw [List.length_set]; exact hAl) (by rw [e']; exact RP.wr W' ((RP.2 i _ hA).store rfl W'))
  exact ⟨s₂, o, stp _ hs, r⟩
theorem Gd.bast (G : Gd l Z a0 n0 b R cs ss own nm code ml ret Q K) {i : Nat} {vs : List Value} {j : Int32} {x : Int32} (jn : Nat) (hd : decode code pc = .ok (.bastore, 1)) (hA : A[i]? = some (.inr (.byte, vs))) (hj : j.toInt = (jn : Int)) (hl : jn < vs.length) {x8 : Int32} (hx8 : nar .byte x = x8) (hfit : fits .byte (.int x8) = true) (h : K (pc + 1) Ls st (A.set i (.inr (.byte, vs.set jn (.int x8)))) k n) : K pc Ls (.int x :: .int j :: .ref (ad n0 i) :: st) A k n := by
  obtain ⟨p, e, s, m, args, below, meth, c, hx, hby, -, hown, -, hZ, -, -, -, rfl⟩ := G
  intro T locs X N hAl RP
  obtain ⟨-, cl, Ar, es, -, -⟩ := RP.2 i _ hA
  obtain ⟨q1, q2⟩ := idxOk es hj hl
  obtain ⟨T', h', X', e', W, stp⟩ := stB X hx hZ rfl Ar q1 (g := mkF m pc Ls.toArray (.int x :: .int j :: .ref (ad n0 i) :: st)) rfl rfl (hb hby hd)
  have W' : Wr T.heap h' (ad n0 i) jn (.int x8) := by rw [← q2, ← hx8]; exact W
  obtain ⟨s₂, o, hs, r⟩ := h T' _ X' (Fr.snoc X' N (ad_le _ _)) (by rw [List.length_set]; exact hAl) (by rw [e']; exact RP.wr W' ((RP.2 i _ hA).store hfit W'))
  exact ⟨s₂, o, stp _ hs, r⟩
theorem Gd.zast (G : Gd l Z a0 n0 b R cs ss own nm code ml ret Q K) {i : Nat} {vs : List Value} {j : Int32} {x : Int32} (jn : Nat) (hd : decode code pc = .ok (.bastore, 1)) (hA : A[i]? = some (.inr (.boolean, vs))) (hj : j.toInt = (jn : Int)) (hl : jn < vs.length) {x8 : Int32} (hx8 : nar .boolean x = x8) (hfit : fits .boolean (.int x8) = true) (h : K (pc + 1) Ls st (A.set i (.inr (.boolean, vs.set jn (.int x8)))) k n) : K pc Ls (.int x :: .int j :: .ref (ad n0 i) :: st) A k n := by
  obtain ⟨p, e, s, m, args, below, meth, c, hx, hby, -, hown, -, hZ, -, -, -, rfl⟩ := G
  intro T locs X N hAl RP
  obtain ⟨-, cl, Ar, es, -, -⟩ := RP.2 i _ hA
  obtain ⟨q1, q2⟩ := idxOk es hj hl
  obtain ⟨T', h', X', e', W, stp⟩ := stZ X hx hZ rfl Ar q1 (g := mkF m pc Ls.toArray (.int x :: .int j :: .ref (ad n0 i) :: st)) rfl rfl (hb hby hd)
  have W' : Wr T.heap h' (ad n0 i) jn (.int x8) := by rw [← q2, ← hx8]; exact W
  obtain ⟨s₂, o, hs, r⟩ := h T' _ X' (Fr.snoc X' N (ad_le _ _)) (by rw [List.length_set]; exact hAl) (by rw [e']; exact RP.wr W' ((RP.2 i _ hA).store hfit W'))
  exact ⟨s₂, o, stp _ hs, r⟩
def AI (N : Nat) (vs : List Value) : Prop := vs.length = N ∧ ∀ v ∈ vs, ∃ x : Int32, v = .int x
theorem AI.rep (N : Nat) : AI N (List.replicate N (.int 0)) := ⟨by simp, fun v hv => ⟨0, List.eq_of_mem_replicate hv⟩⟩
theorem AI.at {N j : Nat} {vs : List Value} (h : AI N vs) (hj : j < N) : ∃ x : Int32, vs[j]? = some (.int x) := by
  have hl : j < vs.length := by rw [h.1]; exact hj
  obtain ⟨x, e⟩ := h.2 _ (List.getElem_mem hl)
  exact ⟨x, by rw [List.getElem?_eq_getElem hl, e]⟩
theorem AI.set {N : Nat} {vs : List Value} (h : AI N vs) (j : Nat) (x : Int32) : AI N (vs.set j (.int x)) :=
  ⟨by rw [List.length_set]; exact h.1, fun v hv => by
    rcases List.mem_or_eq_of_mem_set hv with q | rfl
    · exact h.2 v q
    · exact ⟨x, rfl⟩⟩
/-- a store into the only cell, an int[] of which no more is kept in mind than that it holds ints -/
theorem Gd.iastA (G : Gd l Z a0 n0 b R cs ss own nm code ml ret Q K) {N : Nat} {vs : List Value} {j x : Int32} (jn : Nat) (hd : decode code pc = .ok (.iastore, 1)) (hv : AI N vs) (hj : j.toInt = (jn : Int)) (hl : jn < N) (h : ∀ vs', AI N vs' → K (pc + 1) Ls st [.inr (.int, vs')] k n) : K pc Ls (.int x :: .int j :: .ref (ad n0 0) :: st) [.inr (.int, vs)] k n :=
  G.iast jn hd rfl hj (by rw [hv.1]; exact hl) (h _ (hv.set jn x))
theorem Gd.ldcI (G : Gd l Z a0 n0 b R cs ss own nm code ml ret Q K) {idx : Nat} {v : Int32} (hd : decode code pc = .ok (.ldc idx, 2)) (w : (Jvm.Cond.constant own idx v).before a0 Z = true) (h : K (pc + 2) Ls (.int v :: st) A k n) : K pc Ls st A k n := by
  obtain ⟨p, e, s, m, args, below, meth, c, hx, hby, -, hown, -, hZ, -, -, -, rfl⟩ := G
  intro T locs X N hAl RP
  obtain ⟨s₂, o, hs, r⟩ := h T locs X N hAl RP
  exact ⟨s₂, o, X.ldcInt hx hown (mvT hZ w) (g := mkF m pc Ls.toArray st) rfl (hb hby hd) _ hs, r⟩
theorem Gd.ldcwI (G : Gd l Z a0 n0 b R cs ss own nm code ml ret Q K) {idx : Nat} {v : Int32} (hd : decode code pc = .ok (.ldc_w idx, 3)) (w : (Jvm.Cond.constant own idx v).before a0 Z = true) (h : K (pc + 3) Ls (.int v :: st) A k n) : K pc Ls st A k n := by
  obtain ⟨p, e, s, m, args, below, meth, c, hx, hby, -, hown, -, hZ, -, -, -, rfl⟩ := G
  intro T locs X N hAl RP
  obtain ⟨s₂, o, hs, r⟩ := h T locs X N hAl RP
  exact ⟨s₂, o, X.ldcwInt hx hown (mvT hZ w) (g := mkF m pc Ls.toArray st) rfl (hb hby hd) _ hs, r⟩
theorem Gd.ldcL (G : Gd l Z a0 n0 b R cs ss own nm code ml ret Q K) {idx : Nat} {v : Int64} (hd : decode code pc = .ok (.ldc2_w idx, 3)) (w : (Jvm.Cond.constantLong own idx v).before a0 Z = true) (h : K (pc + 3) Ls (.long v :: st) A k n) : K pc Ls st A k n := by
  obtain ⟨p, e, s, m, args, below, meth, c, hx, hby, -, hown, -, hZ, -, -, -, rfl⟩ := G
  intro T locs X N hAl RP
  obtain ⟨s₂, o, hs, r⟩ := h T locs X N hAl RP
  exact ⟨s₂, o, X.ldc2Long hx hown (mvT hZ w) (g := mkF m pc Ls.toArray st) rfl (hb hby hd) _ hs, r⟩
theorem Gd.retV (G : Gd l Z a0 n0 b R cs ss own nm code ml ret Q K) {t : FieldType} {i : Instr} {w : Value} (hret : ret = some t) (hd : decode code pc = .ok (i, 1)) (hn : narrow t w = w)
    (hi : (i = .ireturn ∧ (t = .int ∨ t = .boolean ∨ t = .byte ∨ t = .char ∨ t = .short) ∧ ∃ z, w = .int z) ∨ (i = .lreturn ∧ t = .long ∧ ∃ z, w = .long z) ∨ (i = .dreturn ∧ t = .double ∧ ∃ z, w = .double z) ∨ (i = .freturn ∧ t = .float ∧ ∃ z, w = .float z) ∨ (i = .areturn ∧ t.isReference = true ∧ w.isRef = true))
    (hk : k ≤ cs) (hs : n ≤ ss) (hQ : Q (some w) A) : K pc Ls (w :: st) A k n := by
  obtain ⟨p, e, s, m, args, below, meth, c, hx, hby, -, hown, -, hZ, hrt, hlk, -, rfl⟩ := G
  intro T locs X N hAl RP
  obtain ⟨fs, hr, hrun, hended, hW, hsame⟩ := X.leave (v := some w) (fun q => by rw [hrt, hret] at q; cases q) hlk
  exact ⟨_, _, retOut X hx (hrt.trans hret) hn hi (hb hby hd) hr, hrun, hended, _, locs, rfl, ⟨N, A, hQ, RP⟩, ⟨_, rfl⟩, hW, hsame.mono hk hs⟩
theorem Gd.ireturn (G : Gd l Z a0 n0 b R cs ss own nm code ml ret Q K) {z : Int32} (hret : ret = some .int) (hd : decode code pc = .ok (.ireturn, 1)) (hk : k ≤ cs) (hs : n ≤ ss) (hQ : Q (some (.int z)) A) : K pc Ls (.int z :: st) A k n :=
  G.retV hret hd rfl (Or.inl ⟨rfl, Or.inl rfl, _, rfl⟩) hk hs hQ
theorem Gd.zreturn (G : Gd l Z a0 n0 b R cs ss own nm code ml ret Q K) {z : Int32} (hret : ret = some .boolean) (hd : decode code pc = .ok (.ireturn, 1)) (hz : narrow .boolean (.int z) = .int z) (hk : k ≤ cs) (hs : n ≤ ss) (hQ : Q (some (.int z)) A) : K pc Ls (.int z :: st) A k n :=
  G.retV hret hd hz (Or.inl ⟨rfl, Or.inr (Or.inl rfl), _, rfl⟩) hk hs hQ
theorem Gd.lreturn (G : Gd l Z a0 n0 b R cs ss own nm code ml ret Q K) {z : Int64} (hret : ret = some .long) (hd : decode code pc = .ok (.lreturn, 1)) (hk : k ≤ cs) (hs : n ≤ ss) (hQ : Q (some (.long z)) A) : K pc Ls (.long z :: st) A k n :=
  G.retV hret hd rfl (Or.inr (Or.inl ⟨rfl, rfl, _, rfl⟩)) hk hs hQ
theorem Gd.areturn (G : Gd l Z a0 n0 b R cs ss own nm code ml ret Q K) {t : FieldType} {w : Value} (hret : ret = some t) (hd : decode code pc = .ok (.areturn, 1)) (ht : t.isReference = true) (hw : w.isRef = true) (hn : narrow t w = w) (hk : k ≤ cs) (hs : n ≤ ss) (hQ : Q (some w) A) : K pc Ls (w :: st) A k n :=
  G.retV hret hd hn (Or.inr (Or.inr (Or.inr (Or.inr ⟨rfl, ht, hw⟩)))) hk hs hQ
theorem Gd.vreturn (G : Gd l Z a0 n0 b R cs ss own nm code ml ret Q K) (hret : ret = none) (hd : decode code pc = .ok (.return_, 1)) (hk : k ≤ cs) (hs : n ≤ ss) (hQ : Q none A) : K pc Ls [] A k n := by
  obtain ⟨p, e, s, m, args, below, meth, c, hx, hby, -, hown, -, hZ, hrt, hlk, -, rfl⟩ := G
  intro T locs X N hAl RP
  obtain ⟨fs, hr, hrun, hended, hW, hsame⟩ := X.leave (v := none) (fun _ => rfl) hlk
  exact ⟨_, _, X.returnOut hx (hrt.trans hret) (hb hby hd) hr, hrun, hended, _, locs, rfl, ⟨N, A, hQ, RP⟩, ⟨_, rfl⟩, hW, hsame.mono hk hs⟩
/-- Object's own constructor -/
theorem Gd.initObj (G : Gd l Z a0 n0 b R cs ss own nm code ml ret Q K) {idx : Nat} {a : Addr} (hd : decode code pc = .ok (.invokespecial idx, 3)) (w1 : (Jvm.Cond.methodLink own idx Lib.objectInit).before a0 Z = true) (w2 : (Jvm.Cond.instanceMethod Lib.objectInit).before a0 Z = true) (w3 : (Jvm.Cond.code Lib.objectInit ⟨#[0xb1]⟩ 1 none).before a0 Z = true) (hL : Ls.length = ml) (hf : 1 ≤ R.frames) (hl : (st.map fun v => v.category).sum + 12 ≤ R.locals) (h : K (pc + 3) Ls st A k n) : K pc Ls (.ref a :: st) A k n := by
  obtain ⟨p, e, s, m, args, below, meth, c, hx, hby, hml, hown, -, hZ, -, -, -, rfl⟩ := G
  intro T locs X N hAl RP
  obtain ⟨T', X', e', stp⟩ := initO X hx hZ hown w1 w2 w3 rfl (g := mkF m pc Ls.toArray (.ref a :: st)) rfl (by rw [hml]; simpa using hL) rfl (hb hby hd) hf (W := (st.map fun v => v.category).sum) (by show 2 * 0 + _ ≤ _; omega) hl
  obtain ⟨s₂, o, hs, r⟩ := h T' locs X' N hAl (by rw [e']; exact RP)
  exact ⟨s₂, o, stp _ hs, r⟩
/-- a static method by its contract -/
theorem Gd.scall (G : Gd l Z a0 n0 b R cs ss own nm code ml ret Q K) {idx maxL : Nat} {y : MethodName} {bytes : ByteArray} {rt : Option FieldType} {rm : Room} {Q' : Option Value → AHeap → Prop} {ps : List FieldType} (argsL : List Value) (hst : st' = argsL.reverse ++ st) (hd : decode code pc = .ok (.invokestatic idx, 3)) (w1 : (Jvm.Cond.methodLink own idx y).before a0 Z = true) (w2 : (Jvm.Cond.static y).before a0 Z = true) (w3 : (Jvm.Cond.initialized y.cls).before a0 Z = true) (w4 : (Jvm.Cond.code y bytes maxL rt).before a0 Z = true) (hy : y.cls ≠ "java/lang/invoke/MethodHandle" ∧ y.cls ≠ "java/lang/invoke/VarHandle")
    (hM : Meth l Z a0 [] y bytes maxL rt rm rm.cells rm.slots n0 argsL.toArray A Q') (hpd : parseMethodDescriptor y.desc = some ⟨ps, rt⟩) (hal : argsL.length = ps.length) (hL : Ls.length = ml) (hf : rm.frames + 1 ≤ R.frames) (hl : (st.map fun v => v.category).sum + (maxL + 11) + rm.locals ≤ R.locals) (hc : k + rm.cells ≤ R.cells) (hsl : n + rm.slots ≤ R.slots) (hlen' : ∀ v A', Q' v A' → A'.length = A.length + rm.cells)
    (h : ∀ v A', Q' v A' → K (pc + 3) Ls (v.toList ++ st) A' (k + rm.cells) (n + rm.slots)) : K pc Ls st' A k n := by
  subst hst
  obtain ⟨p, e, s, m, args, below, meth, c, hx, hby, hml, hown, -, hZ, -, -, -, rfl⟩ := G
  intro T locs X N hAl RP
  obtain ⟨v, _, ⟨TB, LB, kB, nB⟩, -, XB, ⟨Lc, hQB, l1, y1, z1⟩, stp⟩ := Jvm.LawKit.callS X hx (y := y) hown (mvT hZ w1) (mvT hZ w2) (mvT hZ w3) (mvT hZ w4) hy (backOf (W := (st.map fun v => v.category).sum) (Q := fun v h L => Fr n0 L ∧ ∃ A', Q' v A' ∧ Rep Z a0 n0 h A') (hM T.heap RP) hZ w4 w3 hf hl) (g := mkF m pc Ls.toArray (argsL.reverse ++ st)) rfl (by rw [hml]; simpa using hL) (argsL := argsL) (rest := st) (lenOf hpd hal) rfl (by show 2 * 0 + _ ≤ _; omega) (hb hby hd) (fun _ _ => ⟨rfl, rfl, hc, hsl⟩)
  dsimp only [Pt.U, Pt.locs, Pt.cells, Pt.slots] at XB l1 y1 z1 stp hQB
  subst l1 y1 z1
  obtain ⟨NB, A', hq, RB⟩ := hQB
  obtain ⟨s₂, o, hs, r⟩ := h _ A' hq TB _ XB (Fr.app N NB) (by rw [hlen' _ _ hq, hAl]; omega) RB
  exact ⟨s₂, o, stp _ hs, r⟩
/-- a constructor by its contract -/
theorem Gd.ncall (G : Gd l Z a0 n0 b R cs ss own nm code ml ret Q K) {idx maxL : Nat} {y : MethodName} {bytes : ByteArray} {rm : Room} {Q' : Option Value → AHeap → Prop} {ps : List FieldType} {a : Addr} (argsL : List Value) (hst : st' = argsL.reverse ++ .ref a :: st) (hd : decode code pc = .ok (.invokespecial idx, 3)) (hy1 : y.name = "<init>") (w1 : (Jvm.Cond.methodLink own idx y).before a0 Z = true) (w2 : (Jvm.Cond.instanceMethod y).before a0 Z = true) (w3 : (Jvm.Cond.initialized y.cls).before a0 Z = true) (w4 : (Jvm.Cond.code y bytes maxL none).before a0 Z = true) (hy : y.cls ≠ "java/lang/invoke/MethodHandle" ∧ y.cls ≠ "java/lang/invoke/VarHandle")
    (hM : Meth l Z a0 [] y bytes maxL none rm rm.cells rm.slots n0 (.ref a :: argsL).toArray A Q') (hpd : parseMethodDescriptor y.desc = some ⟨ps, none⟩) (hal : argsL.length = ps.length) (hL : Ls.length = ml) (hf : rm.frames + 1 ≤ R.frames) (hl : (st.map fun v => v.category).sum + (maxL + 11) + rm.locals ≤ R.locals) (hc : k + rm.cells ≤ R.cells) (hsl : n + rm.slots ≤ R.slots) (hlen' : ∀ v A', Q' v A' → A'.length = A.length + rm.cells)
    (h : ∀ v A', Q' v A' → K (pc + 3) Ls (v.toList ++ st) A' (k + rm.cells) (n + rm.slots)) : K pc Ls st' A k n := by
  subst hst
  obtain ⟨p, e, s, m, args, below, meth, c, hx, hby, hml, hown, -, hZ, -, -, -, rfl⟩ := G
  intro T locs X N hAl RP
  obtain ⟨v, _, ⟨TB, LB, kB, nB⟩, -, XB, ⟨Lc, hQB, l1, y1, z1⟩, stp⟩ := X.specialBack hx (y := y) hy1 hown (mvT hZ w1) (mvT hZ w2) (mvT hZ w4) hy (backOf (W := (st.map fun v => v.category).sum) (Q := fun v h L => Fr n0 L ∧ ∃ A', Q' v A' ∧ Rep Z a0 n0 h A') (hM T.heap RP) hZ w4 w3 hf hl) (g := mkF m pc Ls.toArray (argsL.reverse ++ .ref a :: st)) rfl (by rw [hml]; simpa using hL) (Steps.refl _) (a := a) (argsL := argsL) (rest := st) (lenOf hpd hal) rfl (by show 2 * 0 + _ ≤ _; omega) (hb hby hd) (fun _ _ => ⟨rfl, rfl, hc, hsl⟩)
  dsimp only [Pt.U, Pt.locs, Pt.cells, Pt.slots] at XB l1 y1 z1 stp hQB
  subst l1 y1 z1
  obtain ⟨NB, A', hq, RB⟩ := hQB
  obtain ⟨s₂, o, hs, r⟩ := h _ A' hq TB _ XB (Fr.app N NB) (by rw [hlen' _ _ hq, hAl]; omega) RB
  exact ⟨s₂, o, stp.trans hs, r⟩
/-- an instance method by its contract -/
theorem Gd.vcall (G : Gd l Z a0 n0 b R cs ss own nm code ml ret Q K) {idx maxL i : Nat} {y : MethodName} {bytes : ByteArray} {rt : Option FieldType} {rm : Room} {Q' : Option Value → AHeap → Prop} {ps : List FieldType} {fs : List (String × String × Value)} (argsL : List Value) (hst : st' = argsL.reverse ++ .ref (ad n0 i) :: st) (hd : decode code pc = .ok (.invokevirtual idx, 3)) (w1 : (Jvm.Cond.methodLink own idx y).before a0 Z = true) (w2 : (Jvm.Cond.declares y).before a0 Z = true) (ws : (Jvm.Cond.selects y.cls y y).before a0 Z = true) (wm : (Jvm.Cond.instanceMethod y).before a0 Z = true) (w3 : (Jvm.Cond.initialized y.cls).before a0 Z = true) (w4 : (Jvm.Cond.code y bytes maxL rt).before a0 Z = true) (hy : y.cls ≠ "java/lang/invoke/MethodHandle" ∧ y.cls ≠ "java/lang/invoke/VarHandle") (hA : A[i]? = some (.inl (y.cls, fs)))
    (hM : Meth l Z a0 [] y bytes maxL rt rm rm.cells rm.slots n0 (.ref (ad n0 i) :: argsL).toArray A Q') (hpd : parseMethodDescriptor y.desc = some ⟨ps, rt⟩) (hal : argsL.length = ps.length) (hL : Ls.length = ml) (hf : rm.frames + 1 ≤ R.frames) (hl : (st.map fun v => v.category).sum + (maxL + 11) + rm.locals ≤ R.locals) (hc : k + rm.cells ≤ R.cells) (hsl : n + rm.slots ≤ R.slots) (hlen' : ∀ v A', Q' v A' → A'.length = A.length + rm.cells)
    (h : ∀ v A', Q' v A' → K (pc + 3) Ls (v.toList ++ st) A' (k + rm.cells) (n + rm.slots)) : K pc Ls st' A k n := by
  subst hst
  obtain ⟨p, e, s, m, args, below, meth, c, hx, hby, hml, hown, -, hZ, -, -, -, rfl⟩ := G
  intro T locs X N hAl RP
  obtain ⟨cq, kq, qa, qb, qc⟩ := isOf hZ rfl (RP.2 i _ hA).1
  obtain ⟨v, _, ⟨TB, LB, kB, nB⟩, -, XB, ⟨Lc, hQB, l1, y1, z1⟩, stp⟩ := X.virtualBack hx (y := y) (z := y) hown (mvT hZ w1) (mvT hZ w2) (notFace_of_selects (args := #[]) (mvT hZ ws)) (mvT hZ ws) (mvT hZ wm) hy (backOf (W := (st.map fun v => v.category).sum) (Q := fun v h L => Fr n0 L ∧ ∃ A', Q' v A' ∧ Rep Z a0 n0 h A') (hM T.heap RP) hZ w4 w3 hf hl) qa qc (g := mkF m pc Ls.toArray (argsL.reverse ++ .ref (ad n0 i) :: st)) rfl (by rw [hml]; simpa using hL) (Steps.refl _) (argsL := argsL) (rest := st) (lenOf hpd hal) rfl (by show 2 * 0 + _ ≤ _; omega) (hb hby hd) (fun _ _ => ⟨rfl, rfl, hc, hsl⟩)
  dsimp only [Pt.U, Pt.locs, Pt.cells, Pt.slots] at XB l1 y1 z1 stp hQB
  subst l1 y1 z1
  obtain ⟨NB, A', hq, RB⟩ := hQB
  obtain ⟨s₂, o, hs, r⟩ := h _ A' hq TB _ XB (Fr.app N NB) (by rw [hlen' _ _ hq, hAl]; omega) RB
  exact ⟨s₂, o, stp.trans hs, r⟩
/-- a private instance method by its contract -/
theorem Gd.pcall (G : Gd l Z a0 n0 b R cs ss own nm code ml ret Q K) {idx maxL i : Nat} {y : MethodName} {bytes : ByteArray} {rt : Option FieldType} {rm : Room} {Q' : Option Value → AHeap → Prop} {ps : List FieldType} {fs : List (String × String × Value)} {C : String} (argsL : List Value) (hst : st' = argsL.reverse ++ .ref (ad n0 i) :: st) (hd : decode code pc = .ok (.invokevirtual idx, 3)) (w1 : (Jvm.Cond.methodLink own idx y).before a0 Z = true) (wp : (Jvm.Cond.privateMethod y).before a0 Z = true) (ws : (Jvm.Cond.selects y.cls y y).before a0 Z = true) (wm : (Jvm.Cond.instanceMethod y).before a0 Z = true) (w3 : (Jvm.Cond.initialized y.cls).before a0 Z = true) (w4 : (Jvm.Cond.code y bytes maxL rt).before a0 Z = true) (hy : y.cls ≠ "java/lang/invoke/MethodHandle" ∧ y.cls ≠ "java/lang/invoke/VarHandle") (hA : A[i]? = some (.inl (C, fs)))
    (hM : Meth l Z a0 [] y bytes maxL rt rm rm.cells rm.slots n0 (.ref (ad n0 i) :: argsL).toArray A Q') (hpd : parseMethodDescriptor y.desc = some ⟨ps, rt⟩) (hal : argsL.length = ps.length) (hL : Ls.length = ml) (hf : rm.frames + 1 ≤ R.frames) (hl : (st.map fun v => v.category).sum + (maxL + 11) + rm.locals ≤ R.locals) (hc : k + rm.cells ≤ R.cells) (hsl : n + rm.slots ≤ R.slots) (hlen' : ∀ v A', Q' v A' → A'.length = A.length + rm.cells)
    (h : ∀ v A', Q' v A' → K (pc + 3) Ls (v.toList ++ st) A' (k + rm.cells) (n + rm.slots)) : K pc Ls st' A k n := by
  subst hst
  obtain ⟨p, e, s, m, args, below, meth, c, hx, hby, hml, hown, -, hZ, -, -, -, rfl⟩ := G
  intro T locs X N hAl RP
  obtain ⟨cq, q1, q2⟩ := (RP.2 i _ hA).1.cell
  obtain ⟨v, _, ⟨TB, LB, kB, nB⟩, -, XB, ⟨Lc, hQB, l1, y1, z1⟩, stp⟩ := X.privateBack hx (y := y) hown (mvT hZ w1) (mvT hZ wm) (mvT hZ ws) (Cond.privateMethod_at (mvP hZ wp (args := #[]))) (mvT hZ w4) hy (backOf (W := (st.map fun v => v.category).sum) (Q := fun v h L => Fr n0 L ∧ ∃ A', Q' v A' ∧ Rep Z a0 n0 h A') (hM T.heap RP) hZ w4 w3 hf hl) (g := mkF m pc Ls.toArray (argsL.reverse ++ .ref (ad n0 i) :: st)) rfl (by rw [hml]; simpa using hL) (Steps.refl _) (a := ad n0 i) q1 q2 (argsL := argsL) (rest := st) (lenOf hpd hal) rfl (by show 2 * 0 + _ ≤ _; omega) (hb hby hd) (fun _ _ => ⟨rfl, rfl, hc, hsl⟩)
  dsimp only [Pt.U, Pt.locs, Pt.cells, Pt.slots] at XB l1 y1 z1 stp hQB
  subst l1 y1 z1
  obtain ⟨NB, A', hq, RB⟩ := hQB
  obtain ⟨s₂, o, hs, r⟩ := h _ A' hq TB _ XB (Fr.app N NB) (by rw [hlen' _ _ hq, hAl]; omega) RB
  exact ⟨s₂, o, stp.trans hs, r⟩
end Rules
end Jvm.Pilot.@@N@@
namespace Jvm.Pilot.@@N@@
open Jvm Jvm.ClassFile Sem Op Lib Jvm.Free Jvm.Stand Jvm.LawKit Jvm.RoadKit Bundle Jvm.Pilot.@@N@@.Jvm.D
theorem own_pd0 : parseMethodDescriptor "()V" = some ⟨[], none⟩ := by decide +kernel
theorem own_pd1 : parseMethodDescriptor "(II)V" = some ⟨[.int, .int], none⟩ := by decide +kernel
theorem own_pd2 : parseMethodDescriptor "(IIII)V" = some ⟨[.int, .int, .int, .int], none⟩ := by decide +kernel
theorem own_pd3 : parseMethodDescriptor "(I)I" = some ⟨[.int], some (.int)⟩ := by decide +kernel
theorem own_pd4 : parseMethodDescriptor "(II)I" = some ⟨[.int, .int], some (.int)⟩ := by decide +kernel
theorem own_pd5 : parseMethodDescriptor "(III)I" = some ⟨[.int, .int, .int], some (.int)⟩ := by decide +kernel
theorem own_pd6 : parseMethodDescriptor "()Lcom/example/scrutin/scrutin/election/BoundedElection$Pair;" = some ⟨[], some (.object "com/example/scrutin/scrutin/election/BoundedElection$Pair")⟩ := by decide +kernel
theorem own_pd7 : parseMethodDescriptor "()I" = some ⟨[], some (.int)⟩ := by decide +kernel
theorem own_foE (Z : State) (a0 : Array Value) (hw : ∀ d ∈ tables_1, d.before a0 Z = true) : FOk Z a0 "com/example/scrutin/scrutin/election/BoundedElection" [("sent", "Lcom/example/scrutin/scrutin/election/BoundedElection$Pair;", .null), ("self", "I", .int 0), ("maxAge", "I", .int 0), ("lid", "I", .int 0), ("tll", "I", .int 0)] :=
  ((((((FOk.nil _).cons (n := "tll") (d := "I") (t := .int) (Or.inl (hw _ (List.mem_of_getElem? (i := 45) rfl))) (by decide) (by decide)).cons (n := "lid") (d := "I") (t := .int) (Or.inl (hw _ (List.mem_of_getElem? (i := 43) rfl))) (by decide) (by decide)).cons (n := "maxAge") (d := "I") (t := .int) (Or.inr (hw _ (List.mem_of_getElem? (i := 41) rfl))) (by decide) (by decide)).cons (n := "self") (d := "I") (t := .int) (Or.inr (hw _ (List.mem_of_getElem? (i := 36) rfl))) (by decide) (by decide)).cons (n := "sent") (d := "Lcom/example/scrutin/scrutin/election/BoundedElection$Pair;") (t := .object "com/example/scrutin/scrutin/election/BoundedElection$Pair") (Or.inr (hw _ (List.mem_of_getElem? (i := 33) rfl))) (by decide) (by decide))
theorem own_foP (Z : State) (a0 : Array Value) (hw : ∀ d ∈ tables_1, d.before a0 Z = true) : FOk Z a0 "com/example/scrutin/scrutin/election/BoundedElection$Pair" [("lid", "I", .int 0), ("tll", "I", .int 0)] :=
  (((FOk.nil _).cons (n := "tll") (d := "I") (t := .int) (Or.inl (hw _ (List.mem_of_getElem? (i := 31) rfl))) (by decide) (by decide)).cons (n := "lid") (d := "I") (t := .int) (Or.inl (hw _ (List.mem_of_getElem? (i := 29) rfl))) (by decide) (by decide))
theorem d6_0 : decode prog_15_method_1_code 0 = .ok (.aload_n 0, 1) := by decide +kernel
theorem d6_1 : decode prog_15_method_1_code 1 = .ok (.invokespecial 1, 3) := by decide +kernel
theorem d6_4 : decode prog_15_method_1_code 4 = .ok (.aload_n 0, 1) := by decide +kernel
theorem d6_5 : decode prog_15_method_1_code 5 = .ok (.iload_n 1, 1) := by decide +kernel
theorem d6_6 : decode prog_15_method_1_code 6 = .ok (.putfield 7, 3) := by decide +kernel
theorem d6_9 : decode prog_15_method_1_code 9 = .ok (.aload_n 0, 1) := by decide +kernel
theorem d6_10 : decode prog_15_method_1_code 10 = .ok (.iload_n 2, 1) := by decide +kernel
theorem d6_11 : decode prog_15_method_1_code 11 = .ok (.putfield 13, 3) := by decide +kernel
theorem d6_14 : decode prog_15_method_1_code 14 = .ok (.return_, 1) := by decide +kernel
theorem own_pn8 : plainName "com/example/scrutin/scrutin/election/BoundedElection$Pair" = true := by first | (simp [plainName, overriddenIn]; done) | decide +kernel
set_option maxRecDepth 65536 in
set_option maxHeartbeats 40000000 in
theorem m_6 (l : Launch) (Z : State) (a0 : Array Value) (hw : ∀ d ∈ tables_1, d.before a0 Z = true) (n0 : Nat) (ws : List Jvm.Cond) (i : Nat) (p q u w : Int32) (A : AHeap) (hA : A[i]? = some (.inl ("com/example/scrutin/scrutin/election/BoundedElection$Pair", [("lid", "I", .int u), ("tll", "I", .int w)]))) :
    Meth l Z a0 ws (⟨"com/example/scrutin/scrutin/election/BoundedElection$Pair", "<init>", "(II)V"⟩ : MethodName) prog_15_method_1_code 3 none ({ frames := 1, cells := 0, slots := 0, locals := 12 } : Room) 0 0 n0 #[.ref (ad n0 i), .int p, .int q] A (fun r A' => r = none ∧ A' = A.set i (.inl ("com/example/scrutin/scrutin/election/BoundedElection$Pair", [("lid", "I", .int p), ("tll", "I", .int q)]))) := by
  refine Meth.of own_pn8 (Ls := [.val (.ref (ad n0 i)), .val (.int p), .val (.int q)]) (fun m => by first | (simp [entryFrame, mkF, argsToLocals, Value.category, maxLocals]; done) | rfl) ?_
  intro K G
  refine G.aloadN d6_0 rfl rfl ?_
  refine G.initObj d6_1 (hw _ (List.mem_of_getElem? (i := 27) rfl)) (hw _ (List.mem_of_getElem? (i := 19) rfl)) (hw _ (List.mem_of_getElem? (i := 20) rfl)) rfl (Nat.le_of_ble_eq_true rfl) (Nat.le_of_ble_eq_true rfl) ?_
  refine G.aloadN d6_4 rfl rfl ?_
  refine G.iloadN d6_5 rfl ?_
  refine G.putf (j := 0) (host := "") d6_6 (Or.inl (hw _ (List.mem_of_getElem? (i := 28) rfl))) (Or.inl (hw _ (List.mem_of_getElem? (i := 29) rfl))) (hw _ (List.mem_of_getElem? (i := 22) rfl)) (ty := .int) (by decide) rfl rfl hA rfl ?_
  refine G.aloadN d6_9 rfl rfl ?_
  refine G.iloadN d6_10 rfl ?_
  refine G.putf (j := 1) (host := "") d6_11 (Or.inl (hw _ (List.mem_of_getElem? (i := 30) rfl))) (Or.inl (hw _ (List.mem_of_getElem? (i := 31) rfl))) (hw _ (List.mem_of_getElem? (i := 22) rfl)) (ty := .int) (by decide) rfl rfl (set_at hA) rfl ?_
  exact G.vreturn rfl d6_14 (Nat.le_of_ble_eq_true rfl) (Nat.le_of_ble_eq_true rfl) (⟨rfl, by rw [List.set_set]; rfl⟩)
theorem d7_0 : decode prog_14_method_2_code 0 = .ok (.iconst 2, 1) := by decide +kernel
theorem d7_1 : decode prog_14_method_2_code 1 = .ok (.iload_n 0, 1) := by decide +kernel
theorem d7_2 : decode prog_14_method_2_code 2 = .ok (.imul, 1) := by decide +kernel
theorem d7_3 : decode prog_14_method_2_code 3 = .ok (.ireturn, 1) := by decide +kernel
def own_max (x0 : Int32) : Int32 := ((2 : Int32) * x0)
theorem own_pn9 : plainName "com/example/scrutin/scrutin/election/BoundedElection" = true := by first | (simp [plainName, overriddenIn]; done) | decide +kernel
set_option maxRecDepth 65536 in
set_option maxHeartbeats 40000000 in
theorem m_7 (l : Launch) (Z : State) (a0 : Array Value) (hw : ∀ d ∈ tables_1, d.before a0 Z = true) (n0 : Nat) (ws : List Jvm.Cond) (x0 : Int32) (A : AHeap) :
    Meth l Z a0 ws (⟨"com/example/scrutin/scrutin/election/BoundedElection", "maxAge", "(I)I"⟩ : MethodName) prog_14_method_2_code 1 (some (.int)) ({ frames := 0, cells := 0, slots := 0, locals := 0 } : Room) 0 0 n0 #[.int x0] A (fun r A' => r = some (.int (own_max x0)) ∧ A' = A) := by
  refine Meth.of own_pn9 (Ls := [.val (.int x0)]) (fun m => by first | (simp [entryFrame, mkF, argsToLocals, Value.category, maxLocals]; done) | rfl) ?_
  intro K G
  have he : own_max x0 = own_max x0 := rfl
  refine G.iconst (2) d7_0 rfl ?_
  refine G.iloadN d7_1 rfl ?_
  refine G.imul d7_2 ?_
  exact G.ireturn rfl d7_3 (Nat.le_of_ble_eq_true rfl) (Nat.le_of_ble_eq_true rfl) ⟨congrArg (fun z => some (Value.int z)) he.symm, rfl⟩
def own_ok (d t : Int32) : Prop := 1 ≤ d.toInt ∧ d.toInt ≤ 1000000000 ∧ 0 ≤ t.toInt ∧ t.toInt ≤ 2 * d.toInt
theorem own_ok1 {d t : Int32} (h : own_ok d t) : ¬ d < 1 := by
  rw [Int32.lt_iff_toInt_lt]; have := h.1; have e : (1 : Int32).toInt = 1 := by decide
  omega
theorem own_ok2 {d t : Int32} (h : own_ok d t) : ¬ 1000000000 < d := by
  rw [Int32.lt_iff_toInt_lt]; have := h.2.1; have e : (1000000000 : Int32).toInt = 1000000000 := by decide
  omega
theorem own_ok3 {d t : Int32} (h : own_ok d t) : ¬ t < 0 := by
  rw [Int32.lt_iff_toInt_lt]; have := h.2.2.1; have e : (0 : Int32).toInt = 0 := by decide
  omega
theorem own_two {d t : Int32} (h : own_ok d t) : (2 * d).toInt = 2 * d.toInt := by
  have e : (2 : Int32).toInt = 2 := by decide
  have := h.1; have := h.2.1
  rw [Jvm.Kit.i32_mul (by rw [e]; omega) (by rw [e]; omega), e]
theorem own_ok4 {d t : Int32} (h : own_ok d t) : ¬ own_max d < t := by
  rw [Int32.lt_iff_toInt_lt]; have := h.2.2.2; have e := own_two h
  unfold own_max
  omega
theorem d4_0 : decode prog_14_method_1_code 0 = .ok (.aload_n 0, 1) := by decide +kernel
theorem d4_1 : decode prog_14_method_1_code 1 = .ok (.invokespecial 1, 3) := by decide +kernel
theorem d4_4 : decode prog_14_method_1_code 4 = .ok (.aload_n 0, 1) := by decide +kernel
theorem d4_5 : decode prog_14_method_1_code 5 = .ok (.new 7, 3) := by decide +kernel
theorem d4_8 : decode prog_14_method_1_code 8 = .ok (.dup, 1) := by decide +kernel
theorem d4_9 : decode prog_14_method_1_code 9 = .ok (.iconst 0, 1) := by decide +kernel
theorem d4_10 : decode prog_14_method_1_code 10 = .ok (.iconst 0, 1) := by decide +kernel
theorem d4_11 : decode prog_14_method_1_code 11 = .ok (.invokespecial 9, 3) := by decide +kernel
theorem d4_14 : decode prog_14_method_1_code 14 = .ok (.putfield 12, 3) := by decide +kernel
theorem d4_17 : decode prog_14_method_1_code 17 = .ok (.iload_n 2, 1) := by decide +kernel
theorem d4_18 : decode prog_14_method_1_code 18 = .ok (.iconst 1, 1) := by decide +kernel
theorem d4_19 : decode prog_14_method_1_code 19 = .ok (.if_icmp .lt 9, 3) := by decide +kernel
theorem d4_22 : decode prog_14_method_1_code 22 = .ok (.iload_n 2, 1) := by decide +kernel
theorem d4_23 : decode prog_14_method_1_code 23 = .ok (.ldc 20, 2) := by decide +kernel
theorem d4_25 : decode prog_14_method_1_code 25 = .ok (.if_icmp .le 17, 3) := by decide +kernel
theorem d4_28 : decode prog_14_method_1_code 28 = .ok (.new 21, 3) := by decide +kernel
theorem d4_31 : decode prog_14_method_1_code 31 = .ok (.dup, 1) := by decide +kernel
theorem d4_32 : decode prog_14_method_1_code 32 = .ok (.iload_n 2, 1) := by decide +kernel
theorem d4_33 : decode prog_14_method_1_code 33 = .ok (.invokedynamic 23, 5) := by decide +kernel
theorem d4_38 : decode prog_14_method_1_code 38 = .ok (.invokespecial 27, 3) := by decide +kernel
theorem d4_41 : decode prog_14_method_1_code 41 = .ok (.athrow, 1) := by decide +kernel
theorem d4_42 : decode prog_14_method_1_code 42 = .ok (.aload_n 0, 1) := by decide +kernel
theorem d4_43 : decode prog_14_method_1_code 43 = .ok (.iload_n 1, 1) := by decide +kernel
theorem d4_44 : decode prog_14_method_1_code 44 = .ok (.putfield 30, 3) := by decide +kernel
theorem d4_47 : decode prog_14_method_1_code 47 = .ok (.aload_n 0, 1) := by decide +kernel
theorem d4_48 : decode prog_14_method_1_code 48 = .ok (.iload_n 2, 1) := by decide +kernel
theorem d4_49 : decode prog_14_method_1_code 49 = .ok (.invokestatic 34, 3) := by decide +kernel
theorem d4_52 : decode prog_14_method_1_code 52 = .ok (.putfield 38, 3) := by decide +kernel
theorem d4_55 : decode prog_14_method_1_code 55 = .ok (.iload 4, 2) := by decide +kernel
theorem d4_57 : decode prog_14_method_1_code 57 = .ok (.ifCond .lt 12, 3) := by decide +kernel
theorem d4_60 : decode prog_14_method_1_code 60 = .ok (.iload 4, 2) := by decide +kernel
theorem d4_62 : decode prog_14_method_1_code 62 = .ok (.aload_n 0, 1) := by decide +kernel
theorem d4_63 : decode prog_14_method_1_code 63 = .ok (.getfield 38, 3) := by decide +kernel
theorem d4_66 : decode prog_14_method_1_code 66 = .ok (.if_icmp .le 22, 3) := by decide +kernel
theorem d4_69 : decode prog_14_method_1_code 69 = .ok (.new 21, 3) := by decide +kernel
theorem d4_72 : decode prog_14_method_1_code 72 = .ok (.dup, 1) := by decide +kernel
theorem d4_73 : decode prog_14_method_1_code 73 = .ok (.aload_n 0, 1) := by decide +kernel
theorem d4_74 : decode prog_14_method_1_code 74 = .ok (.getfield 38, 3) := by decide +kernel
theorem d4_77 : decode prog_14_method_1_code 77 = .ok (.iload 4, 2) := by decide +kernel
theorem d4_79 : decode prog_14_method_1_code 79 = .ok (.invokedynamic 40, 5) := by decide +kernel
theorem d4_84 : decode prog_14_method_1_code 84 = .ok (.invokespecial 27, 3) := by decide +kernel
theorem d4_87 : decode prog_14_method_1_code 87 = .ok (.athrow, 1) := by decide +kernel
theorem d4_88 : decode prog_14_method_1_code 88 = .ok (.aload_n 0, 1) := by decide +kernel
theorem d4_89 : decode prog_14_method_1_code 89 = .ok (.iload_n 3, 1) := by decide +kernel
theorem d4_90 : decode prog_14_method_1_code 90 = .ok (.putfield 43, 3) := by decide +kernel
theorem d4_93 : decode prog_14_method_1_code 93 = .ok (.aload_n 0, 1) := by decide +kernel
theorem d4_94 : decode prog_14_method_1_code 94 = .ok (.iload 4, 2) := by decide +kernel
theorem d4_96 : decode prog_14_method_1_code 96 = .ok (.putfield 46, 3) := by decide +kernel
theorem d4_99 : decode prog_14_method_1_code 99 = .ok (.return_, 1) := by decide +kernel
def own_einit (s : Int32) (d : Int32) (li : Int32) (tl : Int32) : Int32 := (0 : Int32)
set_option maxRecDepth 65536 in
set_option maxHeartbeats 40000000 in
theorem m_4 (l : Launch) (Z : State) (a0 : Array Value) (hw : ∀ d ∈ tables_1, d.before a0 Z = true) (n0 : Nat) (ws : List Jvm.Cond) (s d li tl : Int32) (hv : own_ok d tl) :
    Meth l Z a0 ws (⟨"com/example/scrutin/scrutin/election/BoundedElection", "<init>", "(IIII)V"⟩ : MethodName) prog_14_method_1_code 5 none ({ frames := 2, cells := 1, slots := 2, locals := 28 } : Room) 1 2 n0 #[.ref (ad n0 0), .int s, .int d, .int li, .int tl] ([.inl ("com/example/scrutin/scrutin/election/BoundedElection", [("sent", "Lcom/example/scrutin/scrutin/election/BoundedElection$Pair;", .null), ("self", "I", .int (0 : Int32)), ("maxAge", "I", .int (0 : Int32)), ("lid", "I", .int (0 : Int32)), ("tll", "I", .int (0 : Int32))])] : AHeap) (fun r A' => r = none ∧ A' = ([.inl ("com/example/scrutin/scrutin/election/BoundedElection", [("sent", "Lcom/example/scrutin/scrutin/election/BoundedElection$Pair;", .ref (ad n0 1)), ("self", "I", .int s), ("maxAge", "I", .int (own_max d)), ("lid", "I", .int li), ("tll", "I", .int tl)]), .inl ("com/example/scrutin/scrutin/election/BoundedElection$Pair", [("lid", "I", .int (0 : Int32)), ("tll", "I", .int (0 : Int32))])] : AHeap)) := by
  refine Meth.of own_pn9 (Ls := [.val (.ref (ad n0 0)), .val (.int s), .val (.int d), .val (.int li), .val (.int tl)]) (fun m => by first | (simp [entryFrame, mkF, argsToLocals, Value.category, maxLocals]; done) | rfl) ?_
  intro K G
  have he : own_einit s d li tl = own_einit s d li tl := rfl
  refine G.aloadN d4_0 rfl rfl ?_
  refine G.initObj d4_1 (hw _ (List.mem_of_getElem? (i := 18) rfl)) (hw _ (List.mem_of_getElem? (i := 19) rfl)) (hw _ (List.mem_of_getElem? (i := 20) rfl)) rfl (Nat.le_of_ble_eq_true rfl) (Nat.le_of_ble_eq_true rfl) ?_
  refine G.aloadN d4_4 rfl rfl ?_
  refine G.newo d4_5 (hw _ (List.mem_of_getElem? (i := 21) rfl)) (hw _ (List.mem_of_getElem? (i := 22) rfl)) (hw _ (List.mem_of_getElem? (i := 23) rfl)) (own_foP Z a0 hw) (Nat.le_of_ble_eq_true rfl) (Nat.le_of_ble_eq_true rfl) ?_
  try simp only [List.set_cons_zero, List.set_cons_succ, List.length_cons, List.length_nil, List.nil_append, List.cons_append, Nat.zero_add, Nat.reduceAdd]
  refine G.dup d4_8 rfl ?_
  refine G.iconst (0) d4_9 rfl ?_
  refine G.iconst (0) d4_10 rfl ?_
  refine G.ncall [_, _] rfl d4_11 rfl (hw _ (List.mem_of_getElem? (i := 24) rfl)) (hw _ (List.mem_of_getElem? (i := 25) rfl)) (hw _ (List.mem_of_getElem? (i := 23) rfl)) (hw _ (List.mem_of_getElem? (i := 26) rfl)) (by decide) (m_6 l Z a0 hw n0 [] _ _ _ _ _ _ rfl) own_pd1 rfl rfl (Nat.le_of_ble_eq_true rfl) (Nat.le_of_ble_eq_true rfl) (Nat.le_of_ble_eq_true rfl) (Nat.le_of_ble_eq_true rfl) (by rintro _ _ ⟨rfl, rfl⟩; exact List.length_set) ?_
  rintro _ _ ⟨rfl, rfl⟩
  try simp only [List.set_cons_zero, List.set_cons_succ, List.length_cons, List.length_nil, List.nil_append, List.cons_append, Nat.zero_add, Nat.reduceAdd]
  refine G.putf (j := 0) (host := "") d4_14 (Or.inl (hw _ (List.mem_of_getElem? (i := 32) rfl))) (Or.inr ⟨(hw _ (List.mem_of_getElem? (i := 33) rfl)), rfl, rfl⟩) (hw _ (List.mem_of_getElem? (i := 13) rfl)) (ty := .object "com/example/scrutin/scrutin/election/BoundedElection$Pair") (by decide) rfl rfl rfl rfl ?_
  try simp only [List.set_cons_zero, List.set_cons_succ, List.length_cons, List.length_nil, List.nil_append, List.cons_append, Nat.zero_add, Nat.reduceAdd]
  refine G.iloadN d4_17 rfl ?_
  refine G.iconst (1) d4_18 rfl ?_
  refine G.icmp_lt 28 d4_19 (by decide) rfl (fun h19 => absurd h19 (own_ok1 hv)) (fun _ => ?_)
  refine G.iloadN d4_22 rfl ?_
  refine G.ldcI d4_23 (hw _ (List.mem_of_getElem? (i := 34) rfl)) ?_
  refine G.icmp_le 42 d4_25 (by decide) rfl (fun _ => ?_) (fun h25 => absurd h25 (own_ok2 hv))
  refine G.aloadN d4_42 rfl rfl ?_
  refine G.iloadN d4_43 rfl ?_
  refine G.putf (j := 1) (host := "") d4_44 (Or.inl (hw _ (List.mem_of_getElem? (i := 35) rfl))) (Or.inr ⟨(hw _ (List.mem_of_getElem? (i := 36) rfl)), rfl, rfl⟩) (hw _ (List.mem_of_getElem? (i := 13) rfl)) (ty := .int) (by decide) rfl rfl rfl rfl ?_
  try simp only [List.set_cons_zero, List.set_cons_succ, List.length_cons, List.length_nil, List.nil_append, List.cons_append, Nat.zero_add, Nat.reduceAdd]
  refine G.aloadN d4_47 rfl rfl ?_
  refine G.iloadN d4_48 rfl ?_
  refine G.scall [_] rfl d4_49 (hw _ (List.mem_of_getElem? (i := 37) rfl)) (hw _ (List.mem_of_getElem? (i := 38) rfl)) (hw _ (List.mem_of_getElem? (i := 14) rfl)) (hw _ (List.mem_of_getElem? (i := 39) rfl)) (by decide) (m_7 l Z a0 hw n0 [] _ _) own_pd3 rfl rfl (Nat.le_of_ble_eq_true rfl) (Nat.le_of_ble_eq_true rfl) (Nat.le_of_ble_eq_true rfl) (Nat.le_of_ble_eq_true rfl) (by rintro _ _ ⟨rfl, rfl⟩; rfl) ?_
  rintro _ _ ⟨rfl, rfl⟩
  refine G.putf (j := 2) (host := "") d4_52 (Or.inl (hw _ (List.mem_of_getElem? (i := 40) rfl))) (Or.inr ⟨(hw _ (List.mem_of_getElem? (i := 41) rfl)), rfl, rfl⟩) (hw _ (List.mem_of_getElem? (i := 13) rfl)) (ty := .int) (by decide) rfl rfl rfl rfl ?_
  try simp only [List.set_cons_zero, List.set_cons_succ, List.length_cons, List.length_nil, List.nil_append, List.cons_append, Nat.zero_add, Nat.reduceAdd]
  refine G.iload d4_55 rfl ?_
  refine G.if_lt 69 d4_57 (by decide) rfl (fun h57 => absurd h57 (own_ok3 hv)) (fun _ => ?_)
  refine G.iload d4_60 rfl ?_
  refine G.aloadN d4_62 rfl rfl ?_
  refine G.getf (j := 2) (host := "") d4_63 (Or.inl (hw _ (List.mem_of_getElem? (i := 40) rfl))) rfl rfl ?_
  refine G.icmp_le 88 d4_66 (by decide) rfl (fun _ => ?_) (fun h66 => absurd h66 (own_ok4 hv))
  refine G.aloadN d4_88 rfl rfl ?_
  refine G.iloadN d4_89 rfl ?_
  refine G.putf (j := 3) (host := "") d4_90 (Or.inl (hw _ (List.mem_of_getElem? (i := 42) rfl))) (Or.inl (hw _ (List.mem_of_getElem? (i := 43) rfl))) (hw _ (List.mem_of_getElem? (i := 13) rfl)) (ty := .int) (by decide) rfl rfl rfl rfl ?_
  try simp only [List.set_cons_zero, List.set_cons_succ, List.length_cons, List.length_nil, List.nil_append, List.cons_append, Nat.zero_add, Nat.reduceAdd]
  refine G.aloadN d4_93 rfl rfl ?_
  refine G.iload d4_94 rfl ?_
  refine G.putf (j := 4) (host := "") d4_96 (Or.inl (hw _ (List.mem_of_getElem? (i := 44) rfl))) (Or.inl (hw _ (List.mem_of_getElem? (i := 45) rfl))) (hw _ (List.mem_of_getElem? (i := 13) rfl)) (ty := .int) (by decide) rfl rfl rfl rfl ?_
  try simp only [List.set_cons_zero, List.set_cons_succ, List.length_cons, List.length_nil, List.nil_append, List.cons_append, Nat.zero_add, Nat.reduceAdd]
  exact G.vreturn rfl d4_99 (Nat.le_of_ble_eq_true rfl) (Nat.le_of_ble_eq_true rfl) ⟨rfl, rfl⟩
theorem d1_0 : decode method_2_code 0 = .ok (.iload_n 1, 1) := by decide +kernel
theorem d1_1 : decode method_2_code 1 = .ok (.bipush 16, 2) := by decide +kernel
theorem d1_3 : decode method_2_code 3 = .ok (.iand, 1) := by decide +kernel
theorem d1_4 : decode method_2_code 4 = .ok (.ifCond .eq 9, 3) := by decide +kernel
theorem d1_7 : decode method_2_code 7 = .ok (.iload_n 0, 1) := by decide +kernel
theorem d1_8 : decode method_2_code 8 = .ok (.iconst 3, 1) := by decide +kernel
theorem d1_9 : decode method_2_code 9 = .ok (.iand, 1) := by decide +kernel
theorem d1_10 : decode method_2_code 10 = .ok (.iconst 1, 1) := by decide +kernel
theorem d1_11 : decode method_2_code 11 = .ok (.iadd, 1) := by decide +kernel
theorem d1_12 : decode method_2_code 12 = .ok (.ireturn, 1) := by decide +kernel
theorem d1_13 : decode method_2_code 13 = .ok (.iload_n 0, 1) := by decide +kernel
theorem d1_14 : decode method_2_code 14 = .ok (.ldc 7, 2) := by decide +kernel
theorem d1_16 : decode method_2_code 16 = .ok (.iand, 1) := by decide +kernel
theorem d1_17 : decode method_2_code 17 = .ok (.ldc 8, 2) := by decide +kernel
theorem d1_19 : decode method_2_code 19 = .ok (.irem, 1) := by decide +kernel
theorem d1_20 : decode method_2_code 20 = .ok (.iconst 1, 1) := by decide +kernel
theorem d1_21 : decode method_2_code 21 = .ok (.iadd, 1) := by decide +kernel
theorem d1_22 : decode method_2_code 22 = .ok (.ireturn, 1) := by decide +kernel
def own_delta (x0 : Int32) (x1 : Int32) : Int32 := (if (x1 &&& (16 : Int32)) = (0 : Int32) then (((x0 &&& (2147483647 : Int32)) % (1000000000 : Int32)) + (1 : Int32)) else ((x0 &&& (3 : Int32)) + (1 : Int32)))
theorem own_pn10 : plainName "com/example/scrutin/scrutin/election/BoundedElectionEndRoundPinLaw" = true := by first | (simp [plainName, overriddenIn]; done) | decide +kernel
set_option maxRecDepth 65536 in
set_option maxHeartbeats 40000000 in
theorem m_1 (l : Launch) (Z : State) (a0 : Array Value) (hw : ∀ d ∈ tables_1, d.before a0 Z = true) (n0 : Nat) (ws : List Jvm.Cond) (x0 : Int32) (x1 : Int32) (A : AHeap) :
    Meth l Z a0 ws (⟨"com/example/scrutin/scrutin/election/BoundedElectionEndRoundPinLaw", "pickDelta", "(II)I"⟩ : MethodName) method_2_code 2 (some (.int)) ({ frames := 0, cells := 0, slots := 0, locals := 0 } : Room) 0 0 n0 #[.int x0, .int x1] A (fun r A' => r = some (.int (own_delta x0 x1)) ∧ A' = A) := by
  refine Meth.of own_pn10 (Ls := [.val (.int x0), .val (.int x1)]) (fun m => by first | (simp [entryFrame, mkF, argsToLocals, Value.category, maxLocals]; done) | rfl) ?_
  intro K G
  have he : own_delta x0 x1 = own_delta x0 x1 := rfl
  refine G.iloadN d1_0 rfl ?_
  refine G.bipush (16) d1_1 rfl ?_
  refine G.iand d1_3 ?_
  refine G.if_eq 13 d1_4 (by decide) rfl (fun h4 => ?_) (fun h4 => ?_)
  · replace he := he.trans (if_pos h4)
    refine G.iloadN d1_13 rfl ?_
    refine G.ldcI d1_14 (hw _ (List.mem_of_getElem? (i := 4) rfl)) ?_
    refine G.iand d1_16 ?_
    refine G.ldcI d1_17 (hw _ (List.mem_of_getElem? (i := 5) rfl)) ?_
    refine G.irem d1_19 (by decide) ?_
    refine G.iconst (1) d1_20 rfl ?_
    refine G.iadd d1_21 ?_
    exact G.ireturn rfl d1_22 (Nat.le_of_ble_eq_true rfl) (Nat.le_of_ble_eq_true rfl) ⟨congrArg (fun z => some (Value.int z)) he.symm, rfl⟩
  · replace he := he.trans (if_neg h4)
    refine G.iloadN d1_7 rfl ?_
    refine G.iconst (3) d1_8 rfl ?_
    refine G.iand d1_9 ?_
    refine G.iconst (1) d1_10 rfl ?_
    refine G.iadd d1_11 ?_
    exact G.ireturn rfl d1_12 (Nat.le_of_ble_eq_true rfl) (Nat.le_of_ble_eq_true rfl) ⟨congrArg (fun z => some (Value.int z)) he.symm, rfl⟩
theorem own_nz (z : Int32) (h : 0 ≤ z.toInt) (h' : z.toInt ≤ 2000000000) : z + 1 ≠ 0 := fun e => by
  have c : (1 : Int32).toInt = 1 := by decide
  have d : (z + 1).toInt = z.toInt + (1 : Int32).toInt := Jvm.Kit.i32_add (by omega) (by omega)
  rw [e] at d
  have c0 : (0 : Int32).toInt = 0 := by decide
  omega
theorem d2_0 : decode method_3_code 0 = .ok (.iload_n 1, 1) := by decide +kernel
theorem d2_1 : decode method_3_code 1 = .ok (.iconst 3, 1) := by decide +kernel
theorem d2_2 : decode method_3_code 2 = .ok (.iand, 1) := by decide +kernel
theorem d2_3 : decode method_3_code 3 = .ok (.istore_n 3, 1) := by decide +kernel
theorem d2_4 : decode method_3_code 4 = .ok (.iload_n 3, 1) := by decide +kernel
theorem d2_5 : decode method_3_code 5 = .ok (.ifCond .ne 5, 3) := by decide +kernel
theorem d2_8 : decode method_3_code 8 = .ok (.iload_n 2, 1) := by decide +kernel
theorem d2_9 : decode method_3_code 9 = .ok (.ireturn, 1) := by decide +kernel
theorem d2_10 : decode method_3_code 10 = .ok (.iload_n 3, 1) := by decide +kernel
theorem d2_11 : decode method_3_code 11 = .ok (.iconst 1, 1) := by decide +kernel
theorem d2_12 : decode method_3_code 12 = .ok (.if_icmp .ne 7, 3) := by decide +kernel
theorem d2_15 : decode method_3_code 15 = .ok (.iload_n 2, 1) := by decide +kernel
theorem d2_16 : decode method_3_code 16 = .ok (.iconst 1, 1) := by decide +kernel
theorem d2_17 : decode method_3_code 17 = .ok (.isub, 1) := by decide +kernel
theorem d2_18 : decode method_3_code 18 = .ok (.ireturn, 1) := by decide +kernel
theorem d2_19 : decode method_3_code 19 = .ok (.iload_n 3, 1) := by decide +kernel
theorem d2_20 : decode method_3_code 20 = .ok (.iconst 2, 1) := by decide +kernel
theorem d2_21 : decode method_3_code 21 = .ok (.if_icmp .ne 7, 3) := by decide +kernel
theorem d2_24 : decode method_3_code 24 = .ok (.iload_n 2, 1) := by decide +kernel
theorem d2_25 : decode method_3_code 25 = .ok (.iconst 2, 1) := by decide +kernel
theorem d2_26 : decode method_3_code 26 = .ok (.isub, 1) := by decide +kernel
theorem d2_27 : decode method_3_code 27 = .ok (.ireturn, 1) := by decide +kernel
theorem d2_28 : decode method_3_code 28 = .ok (.iload_n 0, 1) := by decide +kernel
theorem d2_29 : decode method_3_code 29 = .ok (.ldc 7, 2) := by decide +kernel
theorem d2_31 : decode method_3_code 31 = .ok (.iand, 1) := by decide +kernel
theorem d2_32 : decode method_3_code 32 = .ok (.iload_n 2, 1) := by decide +kernel
theorem d2_33 : decode method_3_code 33 = .ok (.iconst 1, 1) := by decide +kernel
theorem d2_34 : decode method_3_code 34 = .ok (.iadd, 1) := by decide +kernel
theorem d2_35 : decode method_3_code 35 = .ok (.irem, 1) := by decide +kernel
theorem d2_36 : decode method_3_code 36 = .ok (.ireturn, 1) := by decide +kernel
def own_tll (x0 : Int32) (x1 : Int32) (x2 : Int32) : Int32 := (if (x1 &&& (3 : Int32)) = (0 : Int32) then x2 else (if (x1 &&& (3 : Int32)) = (1 : Int32) then (x2 - (1 : Int32)) else (if (x1 &&& (3 : Int32)) = (2 : Int32) then (x2 - (2 : Int32)) else ((x0 &&& (2147483647 : Int32)) % (x2 + (1 : Int32))))))
set_option maxRecDepth 65536 in
set_option maxHeartbeats 40000000 in
theorem m_2 (l : Launch) (Z : State) (a0 : Array Value) (hw : ∀ d ∈ tables_1, d.before a0 Z = true) (n0 : Nat) (ws : List Jvm.Cond) (x0 : Int32) (x1 : Int32) (x2 : Int32) (A : AHeap) (hz : 0 ≤ x2.toInt ∧ x2.toInt ≤ 2000000000) :
    Meth l Z a0 ws (⟨"com/example/scrutin/scrutin/election/BoundedElectionEndRoundPinLaw", "pickTll", "(III)I"⟩ : MethodName) method_3_code 4 (some (.int)) ({ frames := 0, cells := 0, slots := 0, locals := 0 } : Room) 0 0 n0 #[.int x0, .int x1, .int x2] A (fun r A' => r = some (.int (own_tll x0 x1 x2)) ∧ A' = A) := by
  refine Meth.of own_pn10 (Ls := [.val (.int x0), .val (.int x1), .val (.int x2), .unset]) (fun m => by first | (simp [entryFrame, mkF, argsToLocals, Value.category, maxLocals]; done) | rfl) ?_
  intro K G
  have he : own_tll x0 x1 x2 = own_tll x0 x1 x2 := rfl
  refine G.iloadN d2_0 rfl ?_
  refine G.iconst (3) d2_1 rfl ?_
  refine G.iand d2_2 ?_
  refine G.istoreN3 d2_3 rfl ?_
  refine G.iloadN d2_4 rfl ?_
  refine G.if_ne 10 d2_5 (by decide) rfl (fun h5 => ?_) (fun h5 => ?_)
  · replace he := he.trans (if_neg h5)
    refine G.iloadN d2_10 rfl ?_
    refine G.iconst (1) d2_11 rfl ?_
    refine G.icmp_ne 19 d2_12 (by decide) rfl (fun h12 => ?_) (fun h12 => ?_)
    · replace he := he.trans (if_neg h12)
      refine G.iloadN d2_19 rfl ?_
      refine G.iconst (2) d2_20 rfl ?_
      refine G.icmp_ne 28 d2_21 (by decide) rfl (fun h21 => ?_) (fun h21 => ?_)
      · replace he := he.trans (if_neg h21)
        refine G.iloadN d2_28 rfl ?_
        refine G.ldcI d2_29 (hw _ (List.mem_of_getElem? (i := 4) rfl)) ?_
        refine G.iand d2_31 ?_
        refine G.iloadN d2_32 rfl ?_
        refine G.iconst (1) d2_33 rfl ?_
        refine G.iadd d2_34 ?_
        refine G.irem d2_35 (own_nz _ hz.1 hz.2) ?_
        exact G.ireturn rfl d2_36 (Nat.le_of_ble_eq_true rfl) (Nat.le_of_ble_eq_true rfl) ⟨congrArg (fun z => some (Value.int z)) he.symm, rfl⟩
      · replace he := he.trans (if_pos h21)
        refine G.iloadN d2_24 rfl ?_
        refine G.iconst (2) d2_25 rfl ?_
        refine G.isub d2_26 ?_
        exact G.ireturn rfl d2_27 (Nat.le_of_ble_eq_true rfl) (Nat.le_of_ble_eq_true rfl) ⟨congrArg (fun z => some (Value.int z)) he.symm, rfl⟩
    · replace he := he.trans (if_pos h12)
      refine G.iloadN d2_15 rfl ?_
      refine G.iconst (1) d2_16 rfl ?_
      refine G.isub d2_17 ?_
      exact G.ireturn rfl d2_18 (Nat.le_of_ble_eq_true rfl) (Nat.le_of_ble_eq_true rfl) ⟨congrArg (fun z => some (Value.int z)) he.symm, rfl⟩
  · replace he := he.trans (if_pos h5)
    refine G.iloadN d2_8 rfl ?_
    exact G.ireturn rfl d2_9 (Nat.le_of_ble_eq_true rfl) (Nat.le_of_ble_eq_true rfl) ⟨congrArg (fun z => some (Value.int z)) he.symm, rfl⟩
theorem d3_0 : decode method_4_code 0 = .ok (.iload_n 1, 1) := by decide +kernel
theorem d3_1 : decode method_4_code 1 = .ok (.iconst 2, 1) := by decide +kernel
theorem d3_2 : decode method_4_code 2 = .ok (.iushr, 1) := by decide +kernel
theorem d3_3 : decode method_4_code 3 = .ok (.iconst 3, 1) := by decide +kernel
theorem d3_4 : decode method_4_code 4 = .ok (.iand, 1) := by decide +kernel
theorem d3_5 : decode method_4_code 5 = .ok (.istore_n 3, 1) := by decide +kernel
theorem d3_6 : decode method_4_code 6 = .ok (.iload_n 3, 1) := by decide +kernel
theorem d3_7 : decode method_4_code 7 = .ok (.ifCond .ne 5, 3) := by decide +kernel
theorem d3_10 : decode method_4_code 10 = .ok (.iload_n 0, 1) := by decide +kernel
theorem d3_11 : decode method_4_code 11 = .ok (.ireturn, 1) := by decide +kernel
theorem d3_12 : decode method_4_code 12 = .ok (.iload_n 3, 1) := by decide +kernel
theorem d3_13 : decode method_4_code 13 = .ok (.iconst 1, 1) := by decide +kernel
theorem d3_14 : decode method_4_code 14 = .ok (.if_icmp .ne 5, 3) := by decide +kernel
theorem d3_17 : decode method_4_code 17 = .ok (.iload_n 2, 1) := by decide +kernel
theorem d3_18 : decode method_4_code 18 = .ok (.ireturn, 1) := by decide +kernel
theorem d3_19 : decode method_4_code 19 = .ok (.iload_n 3, 1) := by decide +kernel
theorem d3_20 : decode method_4_code 20 = .ok (.iconst 2, 1) := by decide +kernel
theorem d3_21 : decode method_4_code 21 = .ok (.if_icmp .ne 7, 3) := by decide +kernel
theorem d3_24 : decode method_4_code 24 = .ok (.iload_n 2, 1) := by decide +kernel
theorem d3_25 : decode method_4_code 25 = .ok (.iconst 1, 1) := by decide +kernel
theorem d3_26 : decode method_4_code 26 = .ok (.isub, 1) := by decide +kernel
theorem d3_27 : decode method_4_code 27 = .ok (.ireturn, 1) := by decide +kernel
theorem d3_28 : decode method_4_code 28 = .ok (.iload_n 2, 1) := by decide +kernel
theorem d3_29 : decode method_4_code 29 = .ok (.iconst 1, 1) := by decide +kernel
theorem d3_30 : decode method_4_code 30 = .ok (.iadd, 1) := by decide +kernel
theorem d3_31 : decode method_4_code 31 = .ok (.ireturn, 1) := by decide +kernel
def own_lid (x0 : Int32) (x1 : Int32) (x2 : Int32) : Int32 := (if ((ushr x1 (2 : Int32)) &&& (3 : Int32)) = (0 : Int32) then x0 else (if ((ushr x1 (2 : Int32)) &&& (3 : Int32)) = (1 : Int32) then x2 else (if ((ushr x1 (2 : Int32)) &&& (3 : Int32)) = (2 : Int32) then (x2 - (1 : Int32)) else (x2 + (1 : Int32)))))
set_option maxRecDepth 65536 in
set_option maxHeartbeats 40000000 in
theorem m_3 (l : Launch) (Z : State) (a0 : Array Value) (hw : ∀ d ∈ tables_1, d.before a0 Z = true) (n0 : Nat) (ws : List Jvm.Cond) (x0 : Int32) (x1 : Int32) (x2 : Int32) (A : AHeap) :
    Meth l Z a0 ws (⟨"com/example/scrutin/scrutin/election/BoundedElectionEndRoundPinLaw", "pickLid", "(III)I"⟩ : MethodName) method_4_code 4 (some (.int)) ({ frames := 0, cells := 0, slots := 0, locals := 0 } : Room) 0 0 n0 #[.int x0, .int x1, .int x2] A (fun r A' => r = some (.int (own_lid x0 x1 x2)) ∧ A' = A) := by
  refine Meth.of own_pn10 (Ls := [.val (.int x0), .val (.int x1), .val (.int x2), .unset]) (fun m => by first | (simp [entryFrame, mkF, argsToLocals, Value.category, maxLocals]; done) | rfl) ?_
  intro K G
  have he : own_lid x0 x1 x2 = own_lid x0 x1 x2 := rfl
  refine G.iloadN d3_0 rfl ?_
  refine G.iconst (2) d3_1 rfl ?_
  refine G.iushr d3_2 ?_
  refine G.iconst (3) d3_3 rfl ?_
  refine G.iand d3_4 ?_
  refine G.istoreN3 d3_5 rfl ?_
  refine G.iloadN d3_6 rfl ?_
  refine G.if_ne 12 d3_7 (by decide) rfl (fun h7 => ?_) (fun h7 => ?_)
  · replace he := he.trans (if_neg h7)
    refine G.iloadN d3_12 rfl ?_
    refine G.iconst (1) d3_13 rfl ?_
    refine G.icmp_ne 19 d3_14 (by decide) rfl (fun h14 => ?_) (fun h14 => ?_)
    · replace he := he.trans (if_neg h14)
      refine G.iloadN d3_19 rfl ?_
      refine G.iconst (2) d3_20 rfl ?_
      refine G.icmp_ne 28 d3_21 (by decide) rfl (fun h21 => ?_) (fun h21 => ?_)
      · replace he := he.trans (if_neg h21)
        refine G.iloadN d3_28 rfl ?_
        refine G.iconst (1) d3_29 rfl ?_
        refine G.iadd d3_30 ?_
        exact G.ireturn rfl d3_31 (Nat.le_of_ble_eq_true rfl) (Nat.le_of_ble_eq_true rfl) ⟨congrArg (fun z => some (Value.int z)) he.symm, rfl⟩
      · replace he := he.trans (if_pos h21)
        refine G.iloadN d3_24 rfl ?_
        refine G.iconst (1) d3_25 rfl ?_
        refine G.isub d3_26 ?_
        exact G.ireturn rfl d3_27 (Nat.le_of_ble_eq_true rfl) (Nat.le_of_ble_eq_true rfl) ⟨congrArg (fun z => some (Value.int z)) he.symm, rfl⟩
    · replace he := he.trans (if_pos h14)
      refine G.iloadN d3_17 rfl ?_
      exact G.ireturn rfl d3_18 (Nat.le_of_ble_eq_true rfl) (Nat.le_of_ble_eq_true rfl) ⟨congrArg (fun z => some (Value.int z)) he.symm, rfl⟩
  · replace he := he.trans (if_pos h7)
    refine G.iloadN d3_10 rfl ?_
    exact G.ireturn rfl d3_11 (Nat.le_of_ble_eq_true rfl) (Nat.le_of_ble_eq_true rfl) ⟨congrArg (fun z => some (Value.int z)) he.symm, rfl⟩
theorem d8_0 : decode prog_14_method_6_code 0 = .ok (.aload_n 0, 1) := by decide +kernel
theorem d8_1 : decode prog_14_method_6_code 1 = .ok (.dup, 1) := by decide +kernel
theorem d8_2 : decode prog_14_method_6_code 2 = .ok (.getfield 46, 3) := by decide +kernel
theorem d8_5 : decode prog_14_method_6_code 5 = .ok (.iconst 1, 1) := by decide +kernel
theorem d8_6 : decode prog_14_method_6_code 6 = .ok (.iadd, 1) := by decide +kernel
theorem d8_7 : decode prog_14_method_6_code 7 = .ok (.putfield 46, 3) := by decide +kernel
theorem d8_10 : decode prog_14_method_6_code 10 = .ok (.aload_n 0, 1) := by decide +kernel
theorem d8_11 : decode prog_14_method_6_code 11 = .ok (.getfield 43, 3) := by decide +kernel
theorem d8_14 : decode prog_14_method_6_code 14 = .ok (.aload_n 0, 1) := by decide +kernel
theorem d8_15 : decode prog_14_method_6_code 15 = .ok (.getfield 30, 3) := by decide +kernel
theorem d8_18 : decode prog_14_method_6_code 18 = .ok (.if_icmp .ge 14, 3) := by decide +kernel
theorem d8_21 : decode prog_14_method_6_code 21 = .ok (.aload_n 0, 1) := by decide +kernel
theorem d8_22 : decode prog_14_method_6_code 22 = .ok (.getfield 46, 3) := by decide +kernel
theorem d8_25 : decode prog_14_method_6_code 25 = .ok (.aload_n 0, 1) := by decide +kernel
theorem d8_26 : decode prog_14_method_6_code 26 = .ok (.getfield 38, 3) := by decide +kernel
theorem d8_29 : decode prog_14_method_6_code 29 = .ok (.if_icmp .lt 16, 3) := by decide +kernel
theorem d8_32 : decode prog_14_method_6_code 32 = .ok (.aload_n 0, 1) := by decide +kernel
theorem d8_33 : decode prog_14_method_6_code 33 = .ok (.aload_n 0, 1) := by decide +kernel
theorem d8_34 : decode prog_14_method_6_code 34 = .ok (.getfield 30, 3) := by decide +kernel
theorem d8_37 : decode prog_14_method_6_code 37 = .ok (.putfield 43, 3) := by decide +kernel
theorem d8_40 : decode prog_14_method_6_code 40 = .ok (.aload_n 0, 1) := by decide +kernel
theorem d8_41 : decode prog_14_method_6_code 41 = .ok (.iconst 0, 1) := by decide +kernel
theorem d8_42 : decode prog_14_method_6_code 42 = .ok (.putfield 46, 3) := by decide +kernel
theorem d8_45 : decode prog_14_method_6_code 45 = .ok (.return_, 1) := by decide +kernel
def own_end (s : Int32) (ma : Int32) (li : Int32) (tl : Int32) (p : Int32) (q : Int32) : Int32 := (if li < s then (if (tl + (1 : Int32)) < ma then (0 : Int32) else (0 : Int32)) else (0 : Int32))
set_option maxRecDepth 65536 in
set_option maxHeartbeats 40000000 in
theorem m_8 (l : Launch) (Z : State) (a0 : Array Value) (hw : ∀ d ∈ tables_1, d.before a0 Z = true) (n0 : Nat) (ws : List Jvm.Cond) (s ma li tl p q : Int32) :
    Meth l Z a0 ws (⟨"com/example/scrutin/scrutin/election/BoundedElection", "endRound", "()V"⟩ : MethodName) prog_14_method_6_code 1 none ({ frames := 0, cells := 0, slots := 0, locals := 0 } : Room) 0 0 n0 #[.ref (ad n0 0)] ([.inl ("com/example/scrutin/scrutin/election/BoundedElection", [("sent", "Lcom/example/scrutin/scrutin/election/BoundedElection$Pair;", .ref (ad n0 1)), ("self", "I", .int s), ("maxAge", "I", .int ma), ("lid", "I", .int li), ("tll", "I", .int tl)]), .inl ("com/example/scrutin/scrutin/election/BoundedElection$Pair", [("lid", "I", .int p), ("tll", "I", .int q)])] : AHeap) (fun r A' => ((li < s ∧ (tl + 1) < ma) ∧ r = none ∧ A' = ([.inl ("com/example/scrutin/scrutin/election/BoundedElection", [("sent", "Lcom/example/scrutin/scrutin/election/BoundedElection$Pair;", .ref (ad n0 1)), ("self", "I", .int s), ("maxAge", "I", .int ma), ("lid", "I", .int li), ("tll", "I", .int (tl + 1))]), .inl ("com/example/scrutin/scrutin/election/BoundedElection$Pair", [("lid", "I", .int p), ("tll", "I", .int q)])] : AHeap)) ∨ (¬ (li < s ∧ (tl + 1) < ma) ∧ r = none ∧ A' = ([.inl ("com/example/scrutin/scrutin/election/BoundedElection", [("sent", "Lcom/example/scrutin/scrutin/election/BoundedElection$Pair;", .ref (ad n0 1)), ("self", "I", .int s), ("maxAge", "I", .int ma), ("lid", "I", .int s), ("tll", "I", .int 0)]), .inl ("com/example/scrutin/scrutin/election/BoundedElection$Pair", [("lid", "I", .int p), ("tll", "I", .int q)])] : AHeap))) := by
  refine Meth.of own_pn9 (Ls := [.val (.ref (ad n0 0))]) (fun m => by first | (simp [entryFrame, mkF, argsToLocals, Value.category, maxLocals]; done) | rfl) ?_
  intro K G
  have he : own_end s ma li tl p q = own_end s ma li tl p q := rfl
  refine G.aloadN d8_0 rfl rfl ?_
  refine G.dup d8_1 rfl ?_
  refine G.getf (j := 4) (host := "") d8_2 (Or.inl (hw _ (List.mem_of_getElem? (i := 44) rfl))) rfl rfl ?_
  refine G.iconst (1) d8_5 rfl ?_
  refine G.iadd d8_6 ?_
  refine G.putf (j := 4) (host := "") d8_7 (Or.inl (hw _ (List.mem_of_getElem? (i := 44) rfl))) (Or.inl (hw _ (List.mem_of_getElem? (i := 45) rfl))) (hw _ (List.mem_of_getElem? (i := 13) rfl)) (ty := .int) (by decide) rfl rfl rfl rfl ?_
  try simp only [List.set_cons_zero, List.set_cons_succ, List.length_cons, List.length_nil, List.nil_append, List.cons_append, Nat.zero_add, Nat.reduceAdd]
  refine G.aloadN d8_10 rfl rfl ?_
  refine G.getf (j := 3) (host := "") d8_11 (Or.inl (hw _ (List.mem_of_getElem? (i := 42) rfl))) rfl rfl ?_
  refine G.aloadN d8_14 rfl rfl ?_
  refine G.getf (j := 1) (host := "") d8_15 (Or.inl (hw _ (List.mem_of_getElem? (i := 35) rfl))) rfl rfl ?_
  refine G.icmp_ge 32 d8_18 (by decide) rfl (fun h18 => ?_) (fun h18 => ?_)
  · replace he := he.trans (if_neg h18)
    refine G.aloadN d8_32 rfl rfl ?_
    refine G.aloadN d8_33 rfl rfl ?_
    refine G.getf (j := 1) (host := "") d8_34 (Or.inl (hw _ (List.mem_of_getElem? (i := 35) rfl))) rfl rfl ?_
    refine G.putf (j := 3) (host := "") d8_37 (Or.inl (hw _ (List.mem_of_getElem? (i := 42) rfl))) (Or.inl (hw _ (List.mem_of_getElem? (i := 43) rfl))) (hw _ (List.mem_of_getElem? (i := 13) rfl)) (ty := .int) (by decide) rfl rfl rfl rfl ?_
    try simp only [List.set_cons_zero, List.set_cons_succ, List.length_cons, List.length_nil, List.nil_append, List.cons_append, Nat.zero_add, Nat.reduceAdd]
    refine G.aloadN d8_40 rfl rfl ?_
    refine G.iconst (0) d8_41 rfl ?_
    refine G.putf (j := 4) (host := "") d8_42 (Or.inl (hw _ (List.mem_of_getElem? (i := 44) rfl))) (Or.inl (hw _ (List.mem_of_getElem? (i := 45) rfl))) (hw _ (List.mem_of_getElem? (i := 13) rfl)) (ty := .int) (by decide) rfl rfl rfl rfl ?_
    try simp only [List.set_cons_zero, List.set_cons_succ, List.length_cons, List.length_nil, List.nil_append, List.cons_append, Nat.zero_add, Nat.reduceAdd]
    exact G.vreturn rfl d8_45 (Nat.le_of_ble_eq_true rfl) (Nat.le_of_ble_eq_true rfl) (Or.inr ⟨(by rintro ⟨q1, q2⟩; first | exact absurd q1 h18 | exact absurd q2 h29), rfl, rfl⟩)
  · replace he := he.trans (if_pos h18)
    refine G.aloadN d8_21 rfl rfl ?_
    refine G.getf (j := 4) (host := "") d8_22 (Or.inl (hw _ (List.mem_of_getElem? (i := 44) rfl))) rfl rfl ?_
    refine G.aloadN d8_25 rfl rfl ?_
    refine G.getf (j := 2) (host := "") d8_26 (Or.inl (hw _ (List.mem_of_getElem? (i := 40) rfl))) rfl rfl ?_
    refine G.icmp_lt 45 d8_29 (by decide) rfl (fun h29 => ?_) (fun h29 => ?_)
    · replace he := he.trans (if_pos h29)
      exact G.vreturn rfl d8_45 (Nat.le_of_ble_eq_true rfl) (Nat.le_of_ble_eq_true rfl) (Or.inl ⟨⟨h18, h29⟩, rfl, rfl⟩)
    · replace he := he.trans (if_neg h29)
      refine G.aloadN d8_32 rfl rfl ?_
      refine G.aloadN d8_33 rfl rfl ?_
      refine G.getf (j := 1) (host := "") d8_34 (Or.inl (hw _ (List.mem_of_getElem? (i := 35) rfl))) rfl rfl ?_
      refine G.putf (j := 3) (host := "") d8_37 (Or.inl (hw _ (List.mem_of_getElem? (i := 42) rfl))) (Or.inl (hw _ (List.mem_of_getElem? (i := 43) rfl))) (hw _ (List.mem_of_getElem? (i := 13) rfl)) (ty := .int) (by decide) rfl rfl rfl rfl ?_
      try simp only [List.set_cons_zero, List.set_cons_succ, List.length_cons, List.length_nil, List.nil_append, List.cons_append, Nat.zero_add, Nat.reduceAdd]
      refine G.aloadN d8_40 rfl rfl ?_
      refine G.iconst (0) d8_41 rfl ?_
      refine G.putf (j := 4) (host := "") d8_42 (Or.inl (hw _ (List.mem_of_getElem? (i := 44) rfl))) (Or.inl (hw _ (List.mem_of_getElem? (i := 45) rfl))) (hw _ (List.mem_of_getElem? (i := 13) rfl)) (ty := .int) (by decide) rfl rfl rfl rfl ?_
      try simp only [List.set_cons_zero, List.set_cons_succ, List.length_cons, List.length_nil, List.nil_append, List.cons_append, Nat.zero_add, Nat.reduceAdd]
      exact G.vreturn rfl d8_45 (Nat.le_of_ble_eq_true rfl) (Nat.le_of_ble_eq_true rfl) (Or.inr ⟨(by rintro ⟨q1, q2⟩; first | exact absurd q1 h18 | exact absurd q2 h29), rfl, rfl⟩)
theorem d9_0 : decode prog_14_method_4_code 0 = .ok (.aload_n 0, 1) := by decide +kernel
theorem d9_1 : decode prog_14_method_4_code 1 = .ok (.getfield 12, 3) := by decide +kernel
theorem d9_4 : decode prog_14_method_4_code 4 = .ok (.aload_n 0, 1) := by decide +kernel
theorem d9_5 : decode prog_14_method_4_code 5 = .ok (.getfield 43, 3) := by decide +kernel
theorem d9_8 : decode prog_14_method_4_code 8 = .ok (.putfield 49, 3) := by decide +kernel
theorem d9_11 : decode prog_14_method_4_code 11 = .ok (.aload_n 0, 1) := by decide +kernel
theorem d9_12 : decode prog_14_method_4_code 12 = .ok (.getfield 12, 3) := by decide +kernel
theorem d9_15 : decode prog_14_method_4_code 15 = .ok (.aload_n 0, 1) := by decide +kernel
theorem d9_16 : decode prog_14_method_4_code 16 = .ok (.getfield 46, 3) := by decide +kernel
theorem d9_19 : decode prog_14_method_4_code 19 = .ok (.putfield 50, 3) := by decide +kernel
theorem d9_22 : decode prog_14_method_4_code 22 = .ok (.aload_n 0, 1) := by decide +kernel
theorem d9_23 : decode prog_14_method_4_code 23 = .ok (.getfield 12, 3) := by decide +kernel
theorem d9_26 : decode prog_14_method_4_code 26 = .ok (.areturn, 1) := by decide +kernel
def own_msg (s : Int32) (ma : Int32) (li : Int32) (tl : Int32) (p : Int32) (q : Int32) : Int32 := (0 : Int32)
set_option maxRecDepth 65536 in
set_option maxHeartbeats 40000000 in
theorem m_9 (l : Launch) (Z : State) (a0 : Array Value) (hw : ∀ d ∈ tables_1, d.before a0 Z = true) (n0 : Nat) (ws : List Jvm.Cond) (s ma li tl p q : Int32) :
    Meth l Z a0 ws (⟨"com/example/scrutin/scrutin/election/BoundedElection", "message", "()Lcom/example/scrutin/scrutin/election/BoundedElection$Pair;"⟩ : MethodName) prog_14_method_4_code 1 (some (.object "com/example/scrutin/scrutin/election/BoundedElection$Pair")) ({ frames := 0, cells := 0, slots := 0, locals := 0 } : Room) 0 0 n0 #[.ref (ad n0 0)] ([.inl ("com/example/scrutin/scrutin/election/BoundedElection", [("sent", "Lcom/example/scrutin/scrutin/election/BoundedElection$Pair;", .ref (ad n0 1)), ("self", "I", .int s), ("maxAge", "I", .int ma), ("lid", "I", .int li), ("tll", "I", .int tl)]), .inl ("com/example/scrutin/scrutin/election/BoundedElection$Pair", [("lid", "I", .int p), ("tll", "I", .int q)])] : AHeap) (fun r A' => r = some (.ref (ad n0 1)) ∧ A' = ([.inl ("com/example/scrutin/scrutin/election/BoundedElection", [("sent", "Lcom/example/scrutin/scrutin/election/BoundedElection$Pair;", .ref (ad n0 1)), ("self", "I", .int s), ("maxAge", "I", .int ma), ("lid", "I", .int li), ("tll", "I", .int tl)]), .inl ("com/example/scrutin/scrutin/election/BoundedElection$Pair", [("lid", "I", .int li), ("tll", "I", .int tl)])] : AHeap)) := by
  refine Meth.of own_pn9 (Ls := [.val (.ref (ad n0 0))]) (fun m => by first | (simp [entryFrame, mkF, argsToLocals, Value.category, maxLocals]; done) | rfl) ?_
  intro K G
  have he : own_msg s ma li tl p q = own_msg s ma li tl p q := rfl
  refine G.aloadN d9_0 rfl rfl ?_
  refine G.getf (j := 0) (host := "") d9_1 (Or.inl (hw _ (List.mem_of_getElem? (i := 32) rfl))) rfl rfl ?_
  refine G.aloadN d9_4 rfl rfl ?_
  refine G.getf (j := 3) (host := "") d9_5 (Or.inl (hw _ (List.mem_of_getElem? (i := 42) rfl))) rfl rfl ?_
  refine G.putfR (j := 0) d9_8 (hw _ (List.mem_of_getElem? (i := 56) rfl)) (hw _ (List.mem_of_getElem? (i := 29) rfl)) (hw _ (List.mem_of_getElem? (i := 22) rfl)) (ty := .int) (by decide) rfl rfl rfl rfl ?_
  try simp only [List.set_cons_zero, List.set_cons_succ, List.length_cons, List.length_nil, List.nil_append, List.cons_append, Nat.zero_add, Nat.reduceAdd]
  refine G.aloadN d9_11 rfl rfl ?_
  refine G.getf (j := 0) (host := "") d9_12 (Or.inl (hw _ (List.mem_of_getElem? (i := 32) rfl))) rfl rfl ?_
  refine G.aloadN d9_15 rfl rfl ?_
  refine G.getf (j := 4) (host := "") d9_16 (Or.inl (hw _ (List.mem_of_getElem? (i := 44) rfl))) rfl rfl ?_
  refine G.putfR (j := 1) d9_19 (hw _ (List.mem_of_getElem? (i := 57) rfl)) (hw _ (List.mem_of_getElem? (i := 31) rfl)) (hw _ (List.mem_of_getElem? (i := 22) rfl)) (ty := .int) (by decide) rfl rfl rfl rfl ?_
  try simp only [List.set_cons_zero, List.set_cons_succ, List.length_cons, List.length_nil, List.nil_append, List.cons_append, Nat.zero_add, Nat.reduceAdd]
  refine G.aloadN d9_22 rfl rfl ?_
  refine G.getf (j := 0) (host := "") d9_23 (Or.inl (hw _ (List.mem_of_getElem? (i := 32) rfl))) rfl rfl ?_
  exact G.areturn rfl d9_26 rfl rfl rfl (Nat.le_of_ble_eq_true rfl) (Nat.le_of_ble_eq_true rfl) ⟨rfl, rfl⟩
theorem d10_0 : decode prog_15_method_2_code 0 = .ok (.aload_n 0, 1) := by decide +kernel
theorem d10_1 : decode prog_15_method_2_code 1 = .ok (.getfield 7, 3) := by decide +kernel
theorem d10_4 : decode prog_15_method_2_code 4 = .ok (.ireturn, 1) := by decide +kernel
set_option maxRecDepth 65536 in
set_option maxHeartbeats 40000000 in
theorem m_10 (l : Launch) (Z : State) (a0 : Array Value) (hw : ∀ d ∈ tables_1, d.before a0 Z = true) (n0 : Nat) (ws : List Jvm.Cond) (i : Nat) (z : Int32) (u1 : Value) (A : AHeap) (hA : A[i]? = some (.inl ("com/example/scrutin/scrutin/election/BoundedElection$Pair", [("lid", "I", .int z), ("tll", "I", u1)]))) :
    Meth l Z a0 ws (⟨"com/example/scrutin/scrutin/election/BoundedElection$Pair", "lid", "()I"⟩ : MethodName) prog_15_method_2_code 1 (some (.int)) ({ frames := 0, cells := 0, slots := 0, locals := 0 } : Room) 0 0 n0 #[.ref (ad n0 i)] A (fun r A' => r = some (.int z) ∧ A' = A) := by
  refine Meth.of own_pn8 (Ls := [.val (.ref (ad n0 i))]) (fun m => by first | (simp [entryFrame, mkF, argsToLocals, Value.category, maxLocals]; done) | rfl) ?_
  intro K G
  refine G.aloadN d10_0 rfl rfl ?_
  refine G.getf (j := 0) (host := "") d10_1 (Or.inl (hw _ (List.mem_of_getElem? (i := 28) rfl))) hA rfl ?_
  exact G.ireturn rfl d10_4 (Nat.le_of_ble_eq_true rfl) (Nat.le_of_ble_eq_true rfl) (⟨rfl, rfl⟩)
theorem d11_0 : decode prog_15_method_3_code 0 = .ok (.aload_n 0, 1) := by decide +kernel
theorem d11_1 : decode prog_15_method_3_code 1 = .ok (.getfield 13, 3) := by decide +kernel
theorem d11_4 : decode prog_15_method_3_code 4 = .ok (.ireturn, 1) := by decide +kernel
set_option maxRecDepth 65536 in
set_option maxHeartbeats 40000000 in
theorem m_11 (l : Launch) (Z : State) (a0 : Array Value) (hw : ∀ d ∈ tables_1, d.before a0 Z = true) (n0 : Nat) (ws : List Jvm.Cond) (i : Nat) (z : Int32) (u0 : Value) (A : AHeap) (hA : A[i]? = some (.inl ("com/example/scrutin/scrutin/election/BoundedElection$Pair", [("lid", "I", u0), ("tll", "I", .int z)]))) :
    Meth l Z a0 ws (⟨"com/example/scrutin/scrutin/election/BoundedElection$Pair", "tll", "()I"⟩ : MethodName) prog_15_method_3_code 1 (some (.int)) ({ frames := 0, cells := 0, slots := 0, locals := 0 } : Room) 0 0 n0 #[.ref (ad n0 i)] A (fun r A' => r = some (.int z) ∧ A' = A) := by
  refine Meth.of own_pn8 (Ls := [.val (.ref (ad n0 i))]) (fun m => by first | (simp [entryFrame, mkF, argsToLocals, Value.category, maxLocals]; done) | rfl) ?_
  intro K G
  refine G.aloadN d11_0 rfl rfl ?_
  refine G.getf (j := 1) (host := "") d11_1 (Or.inl (hw _ (List.mem_of_getElem? (i := 30) rfl))) hA rfl ?_
  exact G.ireturn rfl d11_4 (Nat.le_of_ble_eq_true rfl) (Nat.le_of_ble_eq_true rfl) (⟨rfl, rfl⟩)
theorem d12_0 : decode prog_14_method_8_code 0 = .ok (.aload_n 0, 1) := by decide +kernel
theorem d12_1 : decode prog_14_method_8_code 1 = .ok (.getfield 43, 3) := by decide +kernel
theorem d12_4 : decode prog_14_method_8_code 4 = .ok (.ireturn, 1) := by decide +kernel
set_option maxRecDepth 65536 in
set_option maxHeartbeats 40000000 in
theorem m_12 (l : Launch) (Z : State) (a0 : Array Value) (hw : ∀ d ∈ tables_1, d.before a0 Z = true) (n0 : Nat) (ws : List Jvm.Cond) (i : Nat) (z : Int32) (u0 u1 u2 u4 : Value) (y0 : Int32) (A : AHeap) (hA : A[i]? = some (.inl ("com/example/scrutin/scrutin/election/BoundedElection", [("sent", "Lcom/example/scrutin/scrutin/election/BoundedElection$Pair;", u0), ("self", "I", u1), ("maxAge", "I", u2), ("lid", "I", .int z), ("tll", "I", u4)]))) :
    Meth l Z a0 ws (⟨"com/example/scrutin/scrutin/election/BoundedElection", "leaderOr", "(I)I"⟩ : MethodName) prog_14_method_8_code 2 (some (.int)) ({ frames := 0, cells := 0, slots := 0, locals := 0 } : Room) 0 0 n0 #[.ref (ad n0 i), .int y0] A (fun r A' => r = some (.int z) ∧ A' = A) := by
  refine Meth.of own_pn9 (Ls := [.val (.ref (ad n0 i)), .val (.int y0)]) (fun m => by first | (simp [entryFrame, mkF, argsToLocals, Value.category, maxLocals]; done) | rfl) ?_
  intro K G
  refine G.aloadN d12_0 rfl rfl ?_
  refine G.getf (j := 3) (host := "") d12_1 (Or.inl (hw _ (List.mem_of_getElem? (i := 42) rfl))) hA rfl ?_
  exact G.ireturn rfl d12_4 (Nat.le_of_ble_eq_true rfl) (Nat.le_of_ble_eq_true rfl) (⟨rfl, rfl⟩)
theorem d13_0 : decode prog_14_method_3_code 0 = .ok (.aload_n 0, 1) := by decide +kernel
theorem d13_1 : decode prog_14_method_3_code 1 = .ok (.getfield 30, 3) := by decide +kernel
theorem d13_4 : decode prog_14_method_3_code 4 = .ok (.ireturn, 1) := by decide +kernel
set_option maxRecDepth 65536 in
set_option maxHeartbeats 40000000 in
theorem m_13 (l : Launch) (Z : State) (a0 : Array Value) (hw : ∀ d ∈ tables_1, d.before a0 Z = true) (n0 : Nat) (ws : List Jvm.Cond) (i : Nat) (z : Int32) (u0 u2 u3 u4 : Value) (A : AHeap) (hA : A[i]? = some (.inl ("com/example/scrutin/scrutin/election/BoundedElection", [("sent", "Lcom/example/scrutin/scrutin/election/BoundedElection$Pair;", u0), ("self", "I", .int z), ("maxAge", "I", u2), ("lid", "I", u3), ("tll", "I", u4)]))) :
    Meth l Z a0 ws (⟨"com/example/scrutin/scrutin/election/BoundedElection", "id", "()I"⟩ : MethodName) prog_14_method_3_code 1 (some (.int)) ({ frames := 0, cells := 0, slots := 0, locals := 0 } : Room) 0 0 n0 #[.ref (ad n0 i)] A (fun r A' => r = some (.int z) ∧ A' = A) := by
  refine Meth.of own_pn9 (Ls := [.val (.ref (ad n0 i))]) (fun m => by first | (simp [entryFrame, mkF, argsToLocals, Value.category, maxLocals]; done) | rfl) ?_
  intro K G
  refine G.aloadN d13_0 rfl rfl ?_
  refine G.getf (j := 1) (host := "") d13_1 (Or.inl (hw _ (List.mem_of_getElem? (i := 35) rfl))) hA rfl ?_
  exact G.ireturn rfl d13_4 (Nat.le_of_ble_eq_true rfl) (Nat.le_of_ble_eq_true rfl) (⟨rfl, rfl⟩)
theorem own_delta_ok (d m : Int32) : 1 ≤ (own_delta d m).toInt ∧ (own_delta d m).toInt ≤ 1000000000 := by
  have m1 : (d &&& 3).toInt = d.toInt % 2 ^ 2 := Jvm.Kit.i32_mask d 3 (k := 2) (by decide) (by decide)
  have m3 : (d &&& 2147483647).toInt = d.toInt % 2 ^ 31 := Jvm.Kit.i32_mask d 2147483647 (k := 31) (by decide) (by decide)
  have c1 : (1000000000 : Int32).toInt = 1000000000 := by decide
  have c2 : (1 : Int32).toInt = 1 := by decide
  have r1 : ((d &&& 2147483647) % 1000000000).toInt = (d &&& 2147483647).toInt % (1000000000 : Int32).toInt := Jvm.Kit.i32_rem_nonneg (by omega)
  rw [c1] at r1
  have d1 : ((d &&& 3) + 1).toInt = (d &&& 3).toInt + (1 : Int32).toInt := Jvm.Kit.i32_add (by omega) (by omega)
  have d2 : ((d &&& 2147483647) % 1000000000 + 1).toInt = ((d &&& 2147483647) % 1000000000).toInt + (1 : Int32).toInt := Jvm.Kit.i32_add (by omega) (by omega)
  unfold own_delta
  split <;> omega
theorem own_max_ok (d m : Int32) : (2 * own_delta d m).toInt = 2 * (own_delta d m).toInt := by
  obtain ⟨a, b⟩ := own_delta_ok d m
  have c3 : (2 : Int32).toInt = 2 := by decide
  rw [Jvm.Kit.i32_mul (by rw [c3]; omega) (by rw [c3]; omega), c3]
theorem own_hz (d m : Int32) : 0 ≤ (2 * own_delta d m).toInt ∧ (2 * own_delta d m).toInt ≤ 2000000000 := by
  obtain ⟨a, b⟩ := own_delta_ok d m
  have := own_max_ok d m
  omega
theorem own_tll_ok (t m z : Int32) (h : 2 ≤ z.toInt) (h' : z.toInt ≤ 2000000000) : 0 ≤ (own_tll t m z).toInt ∧ (own_tll t m z).toInt ≤ z.toInt := by
  have m3 : (t &&& 2147483647).toInt = t.toInt % 2 ^ 31 := Jvm.Kit.i32_mask t 2147483647 (k := 31) (by decide) (by decide)
  have c1 : (1 : Int32).toInt = 1 := by decide
  have c2 : (2 : Int32).toInt = 2 := by decide
  have d1 : (z - 1).toInt = z.toInt - (1 : Int32).toInt := Jvm.Kit.i32_sub (by omega) (by omega)
  have d2 : (z - 2).toInt = z.toInt - (2 : Int32).toInt := Jvm.Kit.i32_sub (by omega) (by omega)
  have d3 : (z + 1).toInt = z.toInt + (1 : Int32).toInt := Jvm.Kit.i32_add (by omega) (by omega)
  have r3 : ((t &&& 2147483647) % (z + 1)).toInt = (t &&& 2147483647).toInt % (z + 1).toInt := Jvm.Kit.i32_rem_nonneg (by omega)
  have b1 : 0 ≤ (t &&& 2147483647).toInt % (z + 1).toInt := Int.emod_nonneg _ (by omega)
  have b2 : (t &&& 2147483647).toInt % (z + 1).toInt < (z + 1).toInt := Int.emod_lt_of_pos _ (by omega)
  unfold own_tll
  repeat' split
  all_goals omega
theorem own_start (d t m : Int32) : own_ok (own_delta d m) (own_tll t m (2 * own_delta d m)) := by
  obtain ⟨a, b⟩ := own_delta_ok d m
  have c := own_max_ok d m
  obtain ⟨e, f⟩ := own_tll_ok t m (2 * own_delta d m) (by omega) (by omega)
  exact ⟨a, b, e, by omega⟩
def own_law_109 (l0 : Int32) (l1 : Int32) (l2 : Int32) (l3 : Int32) (l4 : Int32) (l5 : Int32) (l6 : Int32) (l7 : Int32) (l8 : Int32) (l9 : Int32) (l10 : Int32) (l11 : Int32) (l12 : Int32) (l13 : Int32) (l14 : Int32) (l15 : Int32) (l16 : Int32) (l17 : Int32) : Int32 := (if l16 = l10 then (if l17 = l11 then (if l14 = l10 then (if l12 = l0 then (1 : Int32) else (0 : Int32)) else (0 : Int32)) else (0 : Int32)) else (0 : Int32))
def own_law_94 (l0 : Int32) (l1 : Int32) (l2 : Int32) (l3 : Int32) (l4 : Int32) (l5 : Int32) (l6 : Int32) (l7 : Int32) (l8 : Int32) (l9 : Int32) (l10 : Int32) (l11 : Int32) (l12 : Int32) (l13 : Int32) (l14 : Int32) (l15 : Int32) (l16 : Int32) : Int32 := (if l9 = (0 : Int32) then own_law_109 l0 l1 l2 l3 l4 l5 l6 l7 l8 l9 l10 (l7 + (1 : Int32)) l11 l12 l13 l14 l15 l16 else own_law_109 l0 l1 l2 l3 l4 l5 l6 l7 l8 l9 l10 (0 : Int32) l11 l12 l13 l14 l15 l16)
def own_law_81 (l0 : Int32) (l1 : Int32) (l2 : Int32) (l3 : Int32) (l4 : Int32) (l5 : Int32) (l6 : Int32) (l7 : Int32) (l8 : Int32) (l9 : Int32) (l10 : Int32) (l11 : Int32) (l12 : Int32) (l13 : Int32) (l14 : Int32) (l15 : Int32) : Int32 := (if l9 = (0 : Int32) then own_law_94 l0 l1 l2 l3 l4 l5 l6 l7 l8 l9 l8 l10 l11 l12 l13 l14 l15 else own_law_94 l0 l1 l2 l3 l4 l5 l6 l7 l8 l9 l0 l10 l11 l12 l13 l14 l15)
def own_law_76 (l0 : Int32) (l1 : Int32) (l2 : Int32) (l3 : Int32) (l4 : Int32) (l5 : Int32) (l6 : Int32) (l7 : Int32) (l8 : Int32) (l9 : Int32) (l10 : Int32) (l11 : Int32) (l12 : Int32) (l13 : Int32) (l14 : Int32) : Int32 := own_law_81 l0 l1 l2 l3 l4 l5 l6 l7 l8 (1 : Int32) l9 l10 l11 l12 l13 l14
def own_law (x0 : Int32) (x1 : Int32) (x2 : Int32) (x3 : Int32) (x4 : Int32) : Int32 := (if (own_lid x2 x4 x0) < x0 ∧ ((own_tll x3 x4 ((2 : Int32) * (own_delta x1 x4))) + 1) < (own_max (own_delta x1 x4)) then (if (own_lid x2 x4 x0) < x0 then (if (own_tll x3 x4 ((2 : Int32) * (own_delta x1 x4))) < (((2 : Int32) * (own_delta x1 x4)) - (1 : Int32)) then own_law_81 x0 x1 x2 x3 x4 (own_delta x1 x4) ((2 : Int32) * (own_delta x1 x4)) (own_tll x3 x4 ((2 : Int32) * (own_delta x1 x4))) (own_lid x2 x4 x0) (0 : Int32) x0 (own_max (own_delta x1 x4)) (own_lid x2 x4 x0) ((own_tll x3 x4 ((2 : Int32) * (own_delta x1 x4))) + 1) (own_lid x2 x4 x0) ((own_tll x3 x4 ((2 : Int32) * (own_delta x1 x4))) + 1) else own_law_76 x0 x1 x2 x3 x4 (own_delta x1 x4) ((2 : Int32) * (own_delta x1 x4)) (own_tll x3 x4 ((2 : Int32) * (own_delta x1 x4))) (own_lid x2 x4 x0) x0 (own_max (own_delta x1 x4)) (own_lid x2 x4 x0) ((own_tll x3 x4 ((2 : Int32) * (own_delta x1 x4))) + 1) (own_lid x2 x4 x0) ((own_tll x3 x4 ((2 : Int32) * (own_delta x1 x4))) + 1)) else own_law_76 x0 x1 x2 x3 x4 (own_delta x1 x4) ((2 : Int32) * (own_delta x1 x4)) (own_tll x3 x4 ((2 : Int32) * (own_delta x1 x4))) (own_lid x2 x4 x0) x0 (own_max (own_delta x1 x4)) (own_lid x2 x4 x0) ((own_tll x3 x4 ((2 : Int32) * (own_delta x1 x4))) + 1) (own_lid x2 x4 x0) ((own_tll x3 x4 ((2 : Int32) * (own_delta x1 x4))) + 1)) else (if (own_lid x2 x4 x0) < x0 then (if (own_tll x3 x4 ((2 : Int32) * (own_delta x1 x4))) < (((2 : Int32) * (own_delta x1 x4)) - (1 : Int32)) then own_law_81 x0 x1 x2 x3 x4 (own_delta x1 x4) ((2 : Int32) * (own_delta x1 x4)) (own_tll x3 x4 ((2 : Int32) * (own_delta x1 x4))) (own_lid x2 x4 x0) (0 : Int32) x0 (own_max (own_delta x1 x4)) x0 (0 : Int32) x0 (0 : Int32) else own_law_76 x0 x1 x2 x3 x4 (own_delta x1 x4) ((2 : Int32) * (own_delta x1 x4)) (own_tll x3 x4 ((2 : Int32) * (own_delta x1 x4))) (own_lid x2 x4 x0) x0 (own_max (own_delta x1 x4)) x0 (0 : Int32) x0 (0 : Int32)) else own_law_76 x0 x1 x2 x3 x4 (own_delta x1 x4) ((2 : Int32) * (own_delta x1 x4)) (own_tll x3 x4 ((2 : Int32) * (own_delta x1 x4))) (own_lid x2 x4 x0) x0 (own_max (own_delta x1 x4)) x0 (0 : Int32) x0 (0 : Int32)))
set_option maxRecDepth 65536 in
set_option maxHeartbeats 40000000 in
theorem m_0 (l : Launch) (Z : State) (a0 : Array Value) (hw : ∀ d ∈ tables_1, d.before a0 Z = true) (n0 : Nat) (ws : List Jvm.Cond) (x0 : Int32) (x1 : Int32) (x2 : Int32) (x3 : Int32) (x4 : Int32)  :
    Meth l Z a0 ws x code maxLocals ret room_1 16 128 n0 #[.int x0, .int x1, .int x2, .int x3, .int x4] ([] : AHeap) (fun r A' => r = some (.int (own_law x0 x1 x2 x3 x4)) ∧ True) := by
  refine Meth.of own_pn10 (Ls := [.val (.int x0), .val (.int x1), .val (.int x2), .val (.int x3), .val (.int x4), .unset, .unset, .unset, .unset, .unset, .unset, .unset, .unset, .unset]) (fun m => by first | (simp [entryFrame, mkF, argsToLocals, Value.category, maxLocals]; done) | rfl) ?_
  intro K G
  have J109 : ∀ (l0 : Int32) (l1 : Int32) (l2 : Int32) (l3 : Int32) (l4 : Int32) (l5 : Int32) (l6 : Int32) (l7 : Int32) (l8 : Int32) (l9 : Int32) (l10 : Int32) (l11 : Int32) (l12 : Int32) (l13 : Int32) (l14 : Int32) (l15 : Int32) (l16 : Int32) (l17 : Int32), own_law x0 x1 x2 x3 x4 = own_law_109 l0 l1 l2 l3 l4 l5 l6 l7 l8 l9 l10 l11 l12 l13 l14 l15 l16 l17 → K 109 [.val (.int l0), .val (.int l1), .val (.int l2), .val (.int l3), .val (.int l4), .val (.int l5), .val (.int l6), .val (.int l7), .val (.int l8), .val (.ref (ad n0 0)), .val (.ref (ad n0 1)), .val (.int l9), .val (.int l10), .unset] [.int l11] ([.inl ("com/example/scrutin/scrutin/election/BoundedElection", [("sent", "Lcom/example/scrutin/scrutin/election/BoundedElection$Pair;", .ref (ad n0 1)), ("self", "I", .int l12), ("maxAge", "I", .int l13), ("lid", "I", .int l14), ("tll", "I", .int l15)]), .inl ("com/example/scrutin/scrutin/election/BoundedElection$Pair", [("lid", "I", .int l16), ("tll", "I", .int l17)])] : AHeap) 2 7 := by
    intro l0 l1 l2 l3 l4 l5 l6 l7 l8 l9 l10 l11 l12 l13 l14 l15 l16 l17 he
    refine G.istore13 at_109 rfl ?_
    refine G.aload at_111 rfl rfl ?_
    refine G.vcall [] rfl at_113 (hw _ (List.mem_of_getElem? (i := 58) rfl)) (hw _ (List.mem_of_getElem? (i := 59) rfl)) (hw _ (List.mem_of_getElem? (i := 61) rfl)) (hw _ (List.mem_of_getElem? (i := 60) rfl)) (hw _ (List.mem_of_getElem? (i := 23) rfl)) (hw _ (List.mem_of_getElem? (i := 62) rfl)) (by decide) rfl (m_10 l Z a0 hw n0 [] _ _ _ _ rfl) own_pd7 rfl rfl (Nat.le_of_ble_eq_true rfl) (Nat.le_of_ble_eq_true rfl) (Nat.le_of_ble_eq_true rfl) (Nat.le_of_ble_eq_true rfl) (by rintro _ _ ⟨rfl, rfl⟩; rfl) ?_
    rintro _ _ ⟨rfl, rfl⟩
    refine G.iload at_116 rfl ?_
    refine G.icmp_ne 158 at_118 (by decide) rfl (fun h118 => ?_) (fun h118 => ?_)
    · replace he := he.trans (if_neg h118)
      refine G.iconst (0) at_158 rfl ?_
      exact G.zreturn rfl at_159 rfl (Nat.le_of_ble_eq_true rfl) (Nat.le_of_ble_eq_true rfl) ⟨congrArg (fun z => some (Value.int z)) he.symm, trivial⟩
    · replace he := he.trans (if_pos h118)
      refine G.aload at_121 rfl rfl ?_
      refine G.vcall [] rfl at_123 (hw _ (List.mem_of_getElem? (i := 63) rfl)) (hw _ (List.mem_of_getElem? (i := 64) rfl)) (hw _ (List.mem_of_getElem? (i := 66) rfl)) (hw _ (List.mem_of_getElem? (i := 65) rfl)) (hw _ (List.mem_of_getElem? (i := 23) rfl)) (hw _ (List.mem_of_getElem? (i := 67) rfl)) (by decide) rfl (m_11 l Z a0 hw n0 [] _ _ _ _ rfl) own_pd7 rfl rfl (Nat.le_of_ble_eq_true rfl) (Nat.le_of_ble_eq_true rfl) (Nat.le_of_ble_eq_true rfl) (Nat.le_of_ble_eq_true rfl) (by rintro _ _ ⟨rfl, rfl⟩; rfl) ?_
      rintro _ _ ⟨rfl, rfl⟩
      refine G.iload at_126 rfl ?_
      refine G.icmp_ne 158 at_128 (by decide) rfl (fun h128 => ?_) (fun h128 => ?_)
      · replace he := he.trans (if_neg h128)
        refine G.iconst (0) at_158 rfl ?_
        exact G.zreturn rfl at_159 rfl (Nat.le_of_ble_eq_true rfl) (Nat.le_of_ble_eq_true rfl) ⟨congrArg (fun z => some (Value.int z)) he.symm, trivial⟩
      · replace he := he.trans (if_pos h128)
        refine G.aload at_131 rfl rfl ?_
        refine G.iload at_133 rfl ?_
        refine G.iconst (-1) at_135 rfl ?_
        refine G.ixor at_136 ?_
        refine G.vcall [_] rfl at_137 (hw _ (List.mem_of_getElem? (i := 68) rfl)) (hw _ (List.mem_of_getElem? (i := 69) rfl)) (hw _ (List.mem_of_getElem? (i := 71) rfl)) (hw _ (List.mem_of_getElem? (i := 70) rfl)) (hw _ (List.mem_of_getElem? (i := 14) rfl)) (hw _ (List.mem_of_getElem? (i := 72) rfl)) (by decide) rfl (m_12 l Z a0 hw n0 [] _ _ _ _ _ _ _ _ rfl) own_pd3 rfl rfl (Nat.le_of_ble_eq_true rfl) (Nat.le_of_ble_eq_true rfl) (Nat.le_of_ble_eq_true rfl) (Nat.le_of_ble_eq_true rfl) (by rintro _ _ ⟨rfl, rfl⟩; rfl) ?_
        rintro _ _ ⟨rfl, rfl⟩
        refine G.iload at_140 rfl ?_
        refine G.icmp_ne 158 at_142 (by decide) rfl (fun h142 => ?_) (fun h142 => ?_)
        · replace he := he.trans (if_neg h142)
          refine G.iconst (0) at_158 rfl ?_
          exact G.zreturn rfl at_159 rfl (Nat.le_of_ble_eq_true rfl) (Nat.le_of_ble_eq_true rfl) ⟨congrArg (fun z => some (Value.int z)) he.symm, trivial⟩
        · replace he := he.trans (if_pos h142)
          refine G.aload at_145 rfl rfl ?_
          refine G.vcall [] rfl at_147 (hw _ (List.mem_of_getElem? (i := 73) rfl)) (hw _ (List.mem_of_getElem? (i := 74) rfl)) (hw _ (List.mem_of_getElem? (i := 76) rfl)) (hw _ (List.mem_of_getElem? (i := 75) rfl)) (hw _ (List.mem_of_getElem? (i := 14) rfl)) (hw _ (List.mem_of_getElem? (i := 77) rfl)) (by decide) rfl (m_13 l Z a0 hw n0 [] _ _ _ _ _ _ _ rfl) own_pd7 rfl rfl (Nat.le_of_ble_eq_true rfl) (Nat.le_of_ble_eq_true rfl) (Nat.le_of_ble_eq_true rfl) (Nat.le_of_ble_eq_true rfl) (by rintro _ _ ⟨rfl, rfl⟩; rfl) ?_
          rintro _ _ ⟨rfl, rfl⟩
          refine G.iloadN at_150 rfl ?_
          refine G.icmp_ne 158 at_151 (by decide) rfl (fun h151 => ?_) (fun h151 => ?_)
          · replace he := he.trans (if_neg h151)
            refine G.iconst (0) at_158 rfl ?_
            exact G.zreturn rfl at_159 rfl (Nat.le_of_ble_eq_true rfl) (Nat.le_of_ble_eq_true rfl) ⟨congrArg (fun z => some (Value.int z)) he.symm, trivial⟩
          · replace he := he.trans (if_pos h151)
            refine G.iconst (1) at_154 rfl ?_
            refine G.goto 159 at_155 (by decide) rfl ?_
            exact G.zreturn rfl at_159 rfl (Nat.le_of_ble_eq_true rfl) (Nat.le_of_ble_eq_true rfl) ⟨congrArg (fun z => some (Value.int z)) he.symm, trivial⟩
  have J94 : ∀ (l0 : Int32) (l1 : Int32) (l2 : Int32) (l3 : Int32) (l4 : Int32) (l5 : Int32) (l6 : Int32) (l7 : Int32) (l8 : Int32) (l9 : Int32) (l10 : Int32) (l11 : Int32) (l12 : Int32) (l13 : Int32) (l14 : Int32) (l15 : Int32) (l16 : Int32), own_law x0 x1 x2 x3 x4 = own_law_94 l0 l1 l2 l3 l4 l5 l6 l7 l8 l9 l10 l11 l12 l13 l14 l15 l16 → K 94 [.val (.int l0), .val (.int l1), .val (.int l2), .val (.int l3), .val (.int l4), .val (.int l5), .val (.int l6), .val (.int l7), .val (.int l8), .val (.ref (ad n0 0)), .val (.ref (ad n0 1)), .val (.int l9), .unset, .unset] [.int l10] ([.inl ("com/example/scrutin/scrutin/election/BoundedElection", [("sent", "Lcom/example/scrutin/scrutin/election/BoundedElection$Pair;", .ref (ad n0 1)), ("self", "I", .int l11), ("maxAge", "I", .int l12), ("lid", "I", .int l13), ("tll", "I", .int l14)]), .inl ("com/example/scrutin/scrutin/election/BoundedElection$Pair", [("lid", "I", .int l15), ("tll", "I", .int l16)])] : AHeap) 2 7 := by
    intro l0 l1 l2 l3 l4 l5 l6 l7 l8 l9 l10 l11 l12 l13 l14 l15 l16 he
    refine G.istore12 at_94 rfl ?_
    refine G.iload at_96 rfl ?_
    refine G.if_eq 105 at_98 (by decide) rfl (fun h98 => ?_) (fun h98 => ?_)
    · replace he := he.trans (if_pos h98)
      refine G.iload at_105 rfl ?_
      refine G.iconst (1) at_107 rfl ?_
      refine G.iadd at_108 ?_
      exact J109 _ _ _ _ _ _ _ _ _ _ _ _ _ _ _ _ _ _ he
    · replace he := he.trans (if_neg h98)
      refine G.iconst (0) at_101 rfl ?_
      refine G.goto 109 at_102 (by decide) rfl ?_
      exact J109 _ _ _ _ _ _ _ _ _ _ _ _ _ _ _ _ _ _ he
  have J81 : ∀ (l0 : Int32) (l1 : Int32) (l2 : Int32) (l3 : Int32) (l4 : Int32) (l5 : Int32) (l6 : Int32) (l7 : Int32) (l8 : Int32) (l9 : Int32) (l10 : Int32) (l11 : Int32) (l12 : Int32) (l13 : Int32) (l14 : Int32) (l15 : Int32), own_law x0 x1 x2 x3 x4 = own_law_81 l0 l1 l2 l3 l4 l5 l6 l7 l8 l9 l10 l11 l12 l13 l14 l15 → K 81 [.val (.int l0), .val (.int l1), .val (.int l2), .val (.int l3), .val (.int l4), .val (.int l5), .val (.int l6), .val (.int l7), .val (.int l8), .val (.ref (ad n0 0)), .val (.ref (ad n0 1)), .unset, .unset, .unset] [.int l9] ([.inl ("com/example/scrutin/scrutin/election/BoundedElection", [("sent", "Lcom/example/scrutin/scrutin/election/BoundedElection$Pair;", .ref (ad n0 1)), ("self", "I", .int l10), ("maxAge", "I", .int l11), ("lid", "I", .int l12), ("tll", "I", .int l13)]), .inl ("com/example/scrutin/scrutin/election/BoundedElection$Pair", [("lid", "I", .int l14), ("tll", "I", .int l15)])] : AHeap) 2 7 := by
    intro l0 l1 l2 l3 l4 l5 l6 l7 l8 l9 l10 l11 l12 l13 l14 l15 he
    refine G.istore11 at_81 rfl ?_
    refine G.iload at_83 rfl ?_
    refine G.if_eq 92 at_85 (by decide) rfl (fun h85 => ?_) (fun h85 => ?_)
    · replace he := he.trans (if_pos h85)
      refine G.iload at_92 rfl ?_
      exact J94 _ _ _ _ _ _ _ _ _ _ _ _ _ _ _ _ _ he
    · replace he := he.trans (if_neg h85)
      refine G.iloadN at_88 rfl ?_
      refine G.goto 94 at_89 (by decide) rfl ?_
      exact J94 _ _ _ _ _ _ _ _ _ _ _ _ _ _ _ _ _ he
  have J76 : ∀ (l0 : Int32) (l1 : Int32) (l2 : Int32) (l3 : Int32) (l4 : Int32) (l5 : Int32) (l6 : Int32) (l7 : Int32) (l8 : Int32) (l9 : Int32) (l10 : Int32) (l11 : Int32) (l12 : Int32) (l13 : Int32) (l14 : Int32), own_law x0 x1 x2 x3 x4 = own_law_76 l0 l1 l2 l3 l4 l5 l6 l7 l8 l9 l10 l11 l12 l13 l14 → K 76 [.val (.int l0), .val (.int l1), .val (.int l2), .val (.int l3), .val (.int l4), .val (.int l5), .val (.int l6), .val (.int l7), .val (.int l8), .val (.ref (ad n0 0)), .val (.ref (ad n0 1)), .unset, .unset, .unset] [] ([.inl ("com/example/scrutin/scrutin/election/BoundedElection", [("sent", "Lcom/example/scrutin/scrutin/election/BoundedElection$Pair;", .ref (ad n0 1)), ("self", "I", .int l9), ("maxAge", "I", .int l10), ("lid", "I", .int l11), ("tll", "I", .int l12)]), .inl ("com/example/scrutin/scrutin/election/BoundedElection$Pair", [("lid", "I", .int l13), ("tll", "I", .int l14)])] : AHeap) 2 7 := by
    intro l0 l1 l2 l3 l4 l5 l6 l7 l8 l9 l10 l11 l12 l13 l14 he
    refine G.iconst (1) at_76 rfl ?_
    refine G.goto 81 at_77 (by decide) rfl ?_
    exact J81 _ _ _ _ _ _ _ _ _ _ _ _ _ _ _ _ he
  have he : own_law x0 x1 x2 x3 x4 = own_law x0 x1 x2 x3 x4 := rfl
  refine G.iloadN at_0 rfl ?_
  refine G.iload at_1 rfl ?_
  refine G.scall [_, _] rfl at_3 (hw _ (List.mem_of_getElem? (i := 0) rfl)) (hw _ (List.mem_of_getElem? (i := 1) rfl)) (hw _ (List.mem_of_getElem? (i := 2) rfl)) (hw _ (List.mem_of_getElem? (i := 3) rfl)) (by decide) (m_1 l Z a0 hw n0 [] _ _ _) own_pd4 rfl rfl (Nat.le_of_ble_eq_true rfl) (Nat.le_of_ble_eq_true rfl) (Nat.le_of_ble_eq_true rfl) (Nat.le_of_ble_eq_true rfl) (by rintro _ _ ⟨rfl, rfl⟩; rfl) ?_
  rintro _ _ ⟨rfl, rfl⟩
  refine G.istore5 at_6 rfl ?_
  refine G.iconst (2) at_8 rfl ?_
  refine G.iload at_9 rfl ?_
  refine G.imul at_11 ?_
  refine G.istore6 at_12 rfl ?_
  refine G.iloadN at_14 rfl ?_
  refine G.iload at_15 rfl ?_
  refine G.iload at_17 rfl ?_
  refine G.scall [_, _, _] rfl at_19 (hw _ (List.mem_of_getElem? (i := 6) rfl)) (hw _ (List.mem_of_getElem? (i := 7) rfl)) (hw _ (List.mem_of_getElem? (i := 2) rfl)) (hw _ (List.mem_of_getElem? (i := 8) rfl)) (by decide) (m_2 l Z a0 hw n0 [] _ _ _ _ (own_hz _ _)) own_pd5 rfl rfl (Nat.le_of_ble_eq_true rfl) (Nat.le_of_ble_eq_true rfl) (Nat.le_of_ble_eq_true rfl) (Nat.le_of_ble_eq_true rfl) (by rintro _ _ ⟨rfl, rfl⟩; rfl) ?_
  rintro _ _ ⟨rfl, rfl⟩
  refine G.istore7 at_22 rfl ?_
  refine G.iloadN at_24 rfl ?_
  refine G.iload at_25 rfl ?_
  refine G.iloadN at_27 rfl ?_
  refine G.scall [_, _, _] rfl at_28 (hw _ (List.mem_of_getElem? (i := 9) rfl)) (hw _ (List.mem_of_getElem? (i := 10) rfl)) (hw _ (List.mem_of_getElem? (i := 2) rfl)) (hw _ (List.mem_of_getElem? (i := 11) rfl)) (by decide) (m_3 l Z a0 hw n0 [] _ _ _ _) own_pd5 rfl rfl (Nat.le_of_ble_eq_true rfl) (Nat.le_of_ble_eq_true rfl) (Nat.le_of_ble_eq_true rfl) (Nat.le_of_ble_eq_true rfl) (by rintro _ _ ⟨rfl, rfl⟩; rfl) ?_
  rintro _ _ ⟨rfl, rfl⟩
  refine G.istore8 at_31 rfl ?_
  refine G.newo at_33 (hw _ (List.mem_of_getElem? (i := 12) rfl)) (hw _ (List.mem_of_getElem? (i := 13) rfl)) (hw _ (List.mem_of_getElem? (i := 14) rfl)) (own_foE Z a0 hw) (Nat.le_of_ble_eq_true rfl) (Nat.le_of_ble_eq_true rfl) ?_
  try simp only [List.set_cons_zero, List.set_cons_succ, List.length_cons, List.length_nil, List.nil_append, List.cons_append, Nat.zero_add, Nat.reduceAdd]
  refine G.dup at_36 rfl ?_
  refine G.iloadN at_37 rfl ?_
  refine G.iload at_38 rfl ?_
  refine G.iload at_40 rfl ?_
  refine G.iload at_42 rfl ?_
  refine G.ncall [_, _, _, _] rfl at_44 rfl (hw _ (List.mem_of_getElem? (i := 15) rfl)) (hw _ (List.mem_of_getElem? (i := 16) rfl)) (hw _ (List.mem_of_getElem? (i := 14) rfl)) (hw _ (List.mem_of_getElem? (i := 17) rfl)) (by decide) (m_4 l Z a0 hw n0 [] _ _ _ _ (own_start _ _ _)) own_pd2 rfl rfl (Nat.le_of_ble_eq_true rfl) (Nat.le_of_ble_eq_true rfl) (Nat.le_of_ble_eq_true rfl) (Nat.le_of_ble_eq_true rfl) (by rintro _ _ ⟨rfl, rfl⟩; rfl) ?_
  rintro _ _ ⟨rfl, rfl⟩
  refine G.astore9 at_47 rfl rfl ?_
  refine G.aload at_49 rfl rfl ?_
  refine G.vcall [] rfl at_51 (hw _ (List.mem_of_getElem? (i := 46) rfl)) (hw _ (List.mem_of_getElem? (i := 47) rfl)) (hw _ (List.mem_of_getElem? (i := 49) rfl)) (hw _ (List.mem_of_getElem? (i := 48) rfl)) (hw _ (List.mem_of_getElem? (i := 14) rfl)) (hw _ (List.mem_of_getElem? (i := 50) rfl)) (by decide) rfl (m_8 l Z a0 hw n0 [] _ _ _ _ _ _) own_pd0 rfl rfl (Nat.le_of_ble_eq_true rfl) (Nat.le_of_ble_eq_true rfl) (Nat.le_of_ble_eq_true rfl) (Nat.le_of_ble_eq_true rfl) (by rintro _ _ (⟨-, rfl, rfl⟩ | ⟨-, rfl, rfl⟩) <;> rfl) ?_
  rintro _ _ (⟨hc51, rfl, rfl⟩ | ⟨hc51, rfl, rfl⟩)
  · replace he := he.trans (if_pos hc51)
    refine G.aload at_54 rfl rfl ?_
    refine G.vcall [] rfl at_56 (hw _ (List.mem_of_getElem? (i := 51) rfl)) (hw _ (List.mem_of_getElem? (i := 52) rfl)) (hw _ (List.mem_of_getElem? (i := 54) rfl)) (hw _ (List.mem_of_getElem? (i := 53) rfl)) (hw _ (List.mem_of_getElem? (i := 14) rfl)) (hw _ (List.mem_of_getElem? (i := 55) rfl)) (by decide) rfl (m_9 l Z a0 hw n0 [] _ _ _ _ _ _) own_pd6 rfl rfl (Nat.le_of_ble_eq_true rfl) (Nat.le_of_ble_eq_true rfl) (Nat.le_of_ble_eq_true rfl) (Nat.le_of_ble_eq_true rfl) (by rintro _ _ ⟨rfl, rfl⟩; rfl) ?_
    rintro _ _ ⟨rfl, rfl⟩
    refine G.astore10 at_59 rfl rfl ?_
    refine G.iload at_61 rfl ?_
    refine G.iloadN at_63 rfl ?_
    refine G.icmp_ge 76 at_64 (by decide) rfl (fun h64 => ?_) (fun h64 => ?_)
    · replace he := he.trans (if_neg h64)
      exact J76 _ _ _ _ _ _ _ _ _ _ _ _ _ _ _ he
    · replace he := he.trans (if_pos h64)
      refine G.iload at_67 rfl ?_
      refine G.iload at_69 rfl ?_
      refine G.iconst (1) at_71 rfl ?_
      refine G.isub at_72 ?_
      refine G.icmp_lt 80 at_73 (by decide) rfl (fun h73 => ?_) (fun h73 => ?_)
      · replace he := he.trans (if_pos h73)
        refine G.iconst (0) at_80 rfl ?_
        exact J81 _ _ _ _ _ _ _ _ _ _ _ _ _ _ _ _ he
      · replace he := he.trans (if_neg h73)
        exact J76 _ _ _ _ _ _ _ _ _ _ _ _ _ _ _ he
  · replace he := he.trans (if_neg hc51)
    refine G.aload at_54 rfl rfl ?_
    refine G.vcall [] rfl at_56 (hw _ (List.mem_of_getElem? (i := 51) rfl)) (hw _ (List.mem_of_getElem? (i := 52) rfl)) (hw _ (List.mem_of_getElem? (i := 54) rfl)) (hw _ (List.mem_of_getElem? (i := 53) rfl)) (hw _ (List.mem_of_getElem? (i := 14) rfl)) (hw _ (List.mem_of_getElem? (i := 55) rfl)) (by decide) rfl (m_9 l Z a0 hw n0 [] _ _ _ _ _ _) own_pd6 rfl rfl (Nat.le_of_ble_eq_true rfl) (Nat.le_of_ble_eq_true rfl) (Nat.le_of_ble_eq_true rfl) (Nat.le_of_ble_eq_true rfl) (by rintro _ _ ⟨rfl, rfl⟩; rfl) ?_
    rintro _ _ ⟨rfl, rfl⟩
    refine G.astore10 at_59 rfl rfl ?_
    refine G.iload at_61 rfl ?_
    refine G.iloadN at_63 rfl ?_
    refine G.icmp_ge 76 at_64 (by decide) rfl (fun h64 => ?_) (fun h64 => ?_)
    · replace he := he.trans (if_neg h64)
      exact J76 _ _ _ _ _ _ _ _ _ _ _ _ _ _ _ he
    · replace he := he.trans (if_pos h64)
      refine G.iload at_67 rfl ?_
      refine G.iload at_69 rfl ?_
      refine G.iconst (1) at_71 rfl ?_
      refine G.isub at_72 ?_
      refine G.icmp_lt 80 at_73 (by decide) rfl (fun h73 => ?_) (fun h73 => ?_)
      · replace he := he.trans (if_pos h73)
        refine G.iconst (0) at_80 rfl ?_
        exact J81 _ _ _ _ _ _ _ _ _ _ _ _ _ _ _ _ he
      · replace he := he.trans (if_neg h73)
        exact J76 _ _ _ _ _ _ _ _ _ _ _ _ _ _ _ he
theorem own_iff {dl t : Int32} (ok : own_ok dl t) : (t + 1 < own_max dl) ↔ (t < 2 * dl - 1) := by
  have e2 := own_two ok
  obtain ⟨a, b, c, d⟩ := ok
  have c1 : (1 : Int32).toInt = 1 := by decide
  have d1 : (t + 1).toInt = t.toInt + (1 : Int32).toInt := Jvm.Kit.i32_add (by omega) (by omega)
  have d2 : (2 * dl - 1).toInt = (2 * dl).toInt - (1 : Int32).toInt := Jvm.Kit.i32_sub (by omega) (by omega)
  unfold own_max
  rw [Int32.lt_iff_toInt_lt, Int32.lt_iff_toInt_lt]
  omega
theorem own_law_one (a b c d e : Int32) : own_law a b c d e = 1 := by
  have ok := own_start b d e
  unfold own_law
  generalize own_tll d e (2 * own_delta b e) = t at ok ⊢
  generalize own_delta b e = dl at ok ⊢
  generalize own_lid c e a = li
  have q := own_iff ok
  by_cases h1 : li < a
  · by_cases h2 : t < 2 * dl - 1
    · rw [if_pos ⟨h1, q.mpr h2⟩, if_pos h1, if_pos h2]
      simp [own_law_81, own_law_94, own_law_109]
    · rw [if_neg (fun z => h2 (q.mp z.2)), if_pos h1, if_neg h2]
      simp [own_law_76, own_law_81, own_law_94, own_law_109]
  · rw [if_neg (fun z => h1 z.1), if_neg h1]
    simp [own_law_76, own_law_81, own_law_94, own_law_109]
set_option maxRecDepth 65536 in
set_option maxHeartbeats 40000000 in
theorem comes_1 {Post : Tables → Env → Array Value → State → Outcome → State → Prop} (hpost : ∀ tb e args s v u, (limb_1_1.after args s (.returned v) u = true ∧ limb_1_2.after args s (.returned v) u = true ∧ True) → FrameEnd s (.returned v) u (Jvm.fieldLocs frame_1_writes args s ++ Jvm.arrayLocs frame_1_arrays args s ++ Jvm.staticLocs frame_1_statics s) 16 128 → Post tb e args s (.returned v) u) :
    ArmFor flags0 classFile x code maxLocals ret World_1 tables_1 room_1 Calls_1 rest_1 Pre_1 Post := by
  intro l hfl _ _ p e ha hc hk s m args below hf hA hF happ hP
  obtain ⟨hcalls, hrest, hpre⟩ := hP
  obtain ⟨-, -, -, hnamed, -, -, -, hat⟩ := (Spec.applies_iff hf).mp happ
  obtain ⟨hg, hn⟩ := and_e (Cond.before_iff.mp (show (Jvm.Cond.and given_1 narrow_1).before args s = true from hpre))
  obtain ⟨hcnt, g0⟩ := and_e hg
  obtain ⟨w0, w1, w2, w3, w4, rfl⟩ : ∃ w0 w1 w2 w3 w4 : Value, args = #[w0, w1, w2, w3, w4] := by
    have hs : args.size = 5 := by simpa [Cond.value, given_1] using hcnt
    obtain ⟨L⟩ := args
    match L, hs with
    | [w0, w1, w2, w3, w4], _ => exact ⟨w0, w1, w2, w3, w4, rfl⟩
  have hw := fun d (hd : d ∈ tables_1) => atoms_spec (ws := Jvm.Cond.code x code maxLocals ret :: tables_1) hat d (List.mem_cons_of_mem _ hd)
  obtain ⟨t0, g1⟩ := and_e g0
  obtain ⟨i0, ei0⟩ := is_v t0
  obtain rfl : w0 = (.int i0) := Option.some.inj ei0
  obtain ⟨t1, g2⟩ := and_e g1
  obtain ⟨i1, ei1⟩ := is_v t1
  obtain rfl : w1 = (.int i1) := Option.some.inj ei1
  obtain ⟨t2, g3⟩ := and_e g2
  obtain ⟨i2, ei2⟩ := is_v t2
  obtain rfl : w2 = (.int i2) := Option.some.inj ei2
  obtain ⟨t3, g4⟩ := and_e g3
  obtain ⟨i3, ei3⟩ := is_v t3
  obtain rfl : w3 = (.int i3) := Option.some.inj ei3
  have t4 := g4
  obtain ⟨i4, ei4⟩ := is_v t4
  obtain rfl : w4 = (.int i4) := Option.some.inj ei4
  obtain ⟨n, o, h1, h2, h3, _, L, rfl, ⟨N, A', ⟨e1, -⟩, -⟩, hq⟩ := (m_0 l s _ hw s.heap.size tables_1 i0 i1 i2 i3 i4 ) s.heap (Rep.nil _ _ _) p e ha hc hk s m _ below hf ((Spec.applies_iff_loose hf).mp happ).1 ⟨rfl, State.Warmed39.refl s, rfl⟩ trivial
  rw [own_law_one] at e1
  subst e1
  refine ⟨n, _, h1, h2, h3, hpost _ _ _ _ _ _ ⟨Cond.after_iff.mpr rfl, Cond.after_iff.mpr (eq_i res_at (Term.int_eval (1)) rfl), trivial⟩ ⟨hq.1, hq.2.1, (hq.2.2.sift fun y hy => Or.inr (N y hy)).mono (by decide) (by decide)⟩⟩
theorem main_1_1 : Claimed_1_1 := comes_1 fun _ _ _ _ _ _ h hF => ⟨h.1, hF⟩
theorem main_1_2 : Claimed_1_2 := comes_1 fun _ _ _ _ _ _ h hF => ⟨h.2.1, hF⟩
end Jvm.Pilot.@@N@@
namespace Jvm.Pilot.@@N@@
open Jvm Jvm.ClassFile Sem Op Lib Jvm.Free Jvm.Stand Jvm.Pilot.@@N@@.Jvm.D
/-! MADE BY PROGRAM (witnessworld.py) out of the Statement's table words and the real class files: 11 classes; the members and pool entries that the words name. The judged class is class 1, her method 4. -/
namespace start1
open Jvm.ClassFile
def u (s : String) : CpInfo := .utf8 (stringToUtf16 s)
/-- a pool by its gaps: so many unusable entries, then the entry; so many at the end -/
def gap : Nat → List CpInfo → List CpInfo
  | 0, r => r
  | n + 1, r => .unusable :: gap n r
def poolList (es : List (Nat × CpInfo)) (last : Nat) : List CpInfo := es.foldr (fun e r => gap e.1 (e.2 :: r)) (gap last [])
def pool (es : List (Nat × CpInfo)) (last : Nat) : Array CpInfo := ⟨poolList es last⟩
def fileOf (pool : Array CpInfo) (this : Nat) (attrs : Array Attribute := #[]) (ms : Array MethodInfo := #[]) (fl : Nat := 33) (sup : Nat := 0) (ifs : Array Nat := #[]) (fds : Array FieldInfo := #[]) : ClassFile where
  minorVersion := 0
  majorVersion := 65
  constantPool := pool
  accessFlags := fl
  thisClass := this
  superClass := sup
  interfaces := ifs
  fields := fds
  methods := ms
  attributes := attrs
def plain (name : String) (sup : Option ClassId) : Class where
  name := name
  kind := .ordinary
  loader := none
  accessFlags := 33
  super := sup
  interfaces := #[]
  cf := none
  fields := #[]
  methods := #[]
  instanceTypes := #[]
  staticTypes := #[]
  resolved := #[]
  callSites := []
  init := .initialized
  statics := none
  mirror := none

def pool0 : Array CpInfo := pool [(5, u "<init>"), (0, u "()V"), (1, .class_ 10), (1, u "java/lang/Object")] 113

def k0c0 : Code := { maxStack := 0, maxLocals := 1, code := object_method_1_code, exceptionTable := #[], attributes := #[] }
def k0m0 : Method := { name := "<init>", desc := "()V", sig := { parameters := [], returnType := none }, accessFlags := 1, code := some k0c0 }
/-- java/lang/Object -/
def k0 : Class := { plain "java/lang/Object" none with
  accessFlags := 33
  interfaces := #[]
  cf := some (fileOf pool0 8 #[] #[{ accessFlags := 1, nameIndex := 5, descriptorIndex := 6, attributes := #[] }] 33 0 #[] #[])
  fields := #[]
  methods := #[k0m0]
  instanceTypes := #[]
  staticTypes := #[]
  resolved := Array.replicate 124 none
  statics := none }

def pool1 : Array CpInfo := pool [(2, .class_ 4), (1, u "java/lang/Object"), (0, u "<init>"), (0, u "()V"), (0, .integer 2147483647), (0, .integer 1000000000), (0, .methodref 10 11), (0, .class_ 12), (0, .nameAndType 13 14), (0, u "com/example/scrutin/scrutin/election/BoundedElectionEndRoundPinLaw"), (0, u "pickDelta"), (0, u "(II)I"), (0, .methodref 10 16), (0, .nameAndType 17 18), (0, u "pickTll"), (0, u "(III)I"), (0, .methodref 10 20), (0, .nameAndType 21 18), (0, u "pickLid"), (0, .class_ 23), (0, u "com/example/scrutin/scrutin/election/BoundedElection"), (0, .methodref 22 25), (0, .nameAndType 5 26), (0, u "(IIII)V"), (0, .methodref 22 28), (0, .nameAndType 29 6), (0, u "endRound"), (0, .methodref 22 31), (0, .nameAndType 32 33), (0, u "message"), (0, u "()Lcom/example/scrutin/scrutin/election/BoundedElection$Pair;"), (0, .methodref 35 36), (0, .class_ 37), (0, .nameAndType 38 39), (0, u "com/example/scrutin/scrutin/election/BoundedElection$Pair"), (0, u "lid"), (0, u "()I"), (0, .methodref 35 41), (0, .nameAndType 42 39), (0, u "tll"), (0, .methodref 22 44), (0, .nameAndType 45 46), (0, u "leaderOr"), (0, u "(I)I"), (0, .methodref 22 48), (0, .nameAndType 49 39), (0, u "id"), (3, u "law"), (0, u "(IIIII)Z")] 4

def k1m0 : Method := { name := "<init>", desc := "()V", sig := { parameters := [], returnType := none }, accessFlags := 1, code := none }
def k1c1 : Code := { maxStack := 2, maxLocals := 2, code := method_2_code, exceptionTable := #[], attributes := #[] }
def k1m1 : Method := { name := "pickDelta", desc := "(II)I", sig := { parameters := [.int, .int], returnType := some .int }, accessFlags := 10, code := some k1c1 }
def k1c2 : Code := { maxStack := 3, maxLocals := 4, code := method_3_code, exceptionTable := #[], attributes := #[] }
def k1m2 : Method := { name := "pickTll", desc := "(III)I", sig := { parameters := [.int, .int, .int], returnType := some .int }, accessFlags := 10, code := some k1c2 }
def k1c3 : Code := { maxStack := 2, maxLocals := 4, code := method_4_code, exceptionTable := #[], attributes := #[] }
def k1m3 : Method := { name := "pickLid", desc := "(III)I", sig := { parameters := [.int, .int, .int], returnType := some .int }, accessFlags := 10, code := some k1c3 }
def k1c4 : Code := { maxStack := 6, maxLocals := 14, code := code, exceptionTable := #[], attributes := #[] }
def k1m4 : Method := { name := "law", desc := "(IIIII)Z", sig := { parameters := [.int, .int, .int, .int, .int], returnType := some .boolean }, accessFlags := 9, code := some k1c4 }
/-- com/example/scrutin/scrutin/election/BoundedElectionEndRoundPinLaw -/
def k1 : Class := { plain "com/example/scrutin/scrutin/election/BoundedElectionEndRoundPinLaw" (some 0) with
  accessFlags := 49
  interfaces := #[]
  cf := some (fileOf pool1 10 #[] #[{ accessFlags := 1, nameIndex := 5, descriptorIndex := 6, attributes := #[] }, { accessFlags := 10, nameIndex := 13, descriptorIndex := 14, attributes := #[] }, { accessFlags := 10, nameIndex := 17, descriptorIndex := 18, attributes := #[] }, { accessFlags := 10, nameIndex := 21, descriptorIndex := 18, attributes := #[] }, { accessFlags := 9, nameIndex := 53, descriptorIndex := 54, attributes := #[] }] 49 2 #[] #[])
  fields := #[]
  methods := #[k1m0, k1m1, k1m2, k1m3, k1m4]
  instanceTypes := #[]
  staticTypes := #[]
  resolved := Array.replicate 59 none
  statics := none }

def pool2 : Array CpInfo := pool [(2, .class_ 4), (1, u "com/example/scrutin/scrutin/election/DynamicElection"), (8, .class_ 14), (0, u "java/lang/Object"), (0, u "MAX_DELTA"), (0, u "I")] 19

/-- com/example/scrutin/scrutin/election/DynamicElection -/
def k2 : Class := { plain "com/example/scrutin/scrutin/election/DynamicElection" (some 0) with
  accessFlags := 1537
  interfaces := #[]
  cf := some (fileOf pool2 2 #[] #[] 1537 13 #[] #[{ accessFlags := 25, nameIndex := 15, descriptorIndex := 16, attributes := #[] }])
  fields := #[{ name := "MAX_DELTA", type := .int, accessFlags := 25, slot := 0, constantValue := 0 }]
  methods := #[]
  instanceTypes := #[]
  staticTypes := #[.int]
  resolved := Array.replicate 36 none
  statics := none }

def pool3 : Array CpInfo := pool [(1, .methodref 2 3), (0, .class_ 4), (0, .nameAndType 5 6), (0, u "java/lang/Object"), (0, u "<init>"), (0, u "()V"), (0, .class_ 8), (0, u "com/example/scrutin/scrutin/election/BoundedElection$Pair"), (0, .methodref 7 10), (0, .nameAndType 5 11), (0, u "(II)V"), (0, .fieldref 13 14), (0, .class_ 15), (0, .nameAndType 16 17), (0, u "com/example/scrutin/scrutin/election/BoundedElection"), (0, u "sent"), (0, u "Lcom/example/scrutin/scrutin/election/BoundedElection$Pair;"), (0, .class_ 19), (0, u "com/example/scrutin/scrutin/election/DynamicElection"), (0, .integer 1000000000), (9, .fieldref 13 31), (0, .nameAndType 32 33), (0, u "self"), (0, u "I"), (0, .methodref 13 35), (0, .nameAndType 36 37), (0, u "maxAge"), (0, u "(I)I"), (0, .fieldref 13 39), (0, .nameAndType 36 33), (3, .fieldref 13 44), (0, .nameAndType 45 33), (0, u "lid"), (0, .fieldref 13 47), (0, .nameAndType 48 33), (0, u "tll"), (0, .fieldref 7 44), (0, .fieldref 7 47), (12, u "message"), (0, u "()Lcom/example/scrutin/scrutin/election/BoundedElection$Pair;"), (0, u "NAME"), (0, u "Ljava/lang/String;"), (3, u "(IIII)V"), (3, u "id"), (0, u "()I"), (0, u "endRound"), (2, u "leaderOr")] 26

def k3c0 : Code := { maxStack := 5, maxLocals := 5, code := prog_14_method_1_code, exceptionTable := #[], attributes := #[] }
def k3m0 : Method := { name := "<init>", desc := "(IIII)V", sig := { parameters := [.int, .int, .int, .int], returnType := none }, accessFlags := 1, code := some k3c0 }
def k3c1 : Code := { maxStack := 2, maxLocals := 1, code := prog_14_method_2_code, exceptionTable := #[], attributes := #[] }
def k3m1 : Method := { name := "maxAge", desc := "(I)I", sig := { parameters := [.int], returnType := some .int }, accessFlags := 9, code := some k3c1 }
def k3c2 : Code := { maxStack := 1, maxLocals := 1, code := prog_14_method_3_code, exceptionTable := #[], attributes := #[] }
def k3m2 : Method := { name := "id", desc := "()I", sig := { parameters := [], returnType := some .int }, accessFlags := 1, code := some k3c2 }
def k3c3 : Code := { maxStack := 2, maxLocals := 1, code := prog_14_method_4_code, exceptionTable := #[], attributes := #[] }
def k3m3 : Method := { name := "message", desc := "()Lcom/example/scrutin/scrutin/election/BoundedElection$Pair;", sig := { parameters := [], returnType := some (.object "com/example/scrutin/scrutin/election/BoundedElection$Pair") }, accessFlags := 1, code := some k3c3 }
def k3c4 : Code := { maxStack := 3, maxLocals := 1, code := prog_14_method_6_code, exceptionTable := #[], attributes := #[] }
def k3m4 : Method := { name := "endRound", desc := "()V", sig := { parameters := [], returnType := none }, accessFlags := 1, code := some k3c4 }
def k3c5 : Code := { maxStack := 1, maxLocals := 2, code := prog_14_method_8_code, exceptionTable := #[], attributes := #[] }
def k3m5 : Method := { name := "leaderOr", desc := "(I)I", sig := { parameters := [.int], returnType := some .int }, accessFlags := 1, code := some k3c5 }
/-- com/example/scrutin/scrutin/election/BoundedElection -/
def k3 : Class := { plain "com/example/scrutin/scrutin/election/BoundedElection" (some 0) with
  accessFlags := 49
  interfaces := #[2]
  cf := some (fileOf pool3 13 #[.nestMembers #[7]] #[{ accessFlags := 1, nameIndex := 5, descriptorIndex := 70, attributes := #[] }, { accessFlags := 9, nameIndex := 36, descriptorIndex := 37, attributes := #[] }, { accessFlags := 1, nameIndex := 74, descriptorIndex := 75, attributes := #[] }, { accessFlags := 1, nameIndex := 63, descriptorIndex := 64, attributes := #[] }, { accessFlags := 1, nameIndex := 76, descriptorIndex := 6, attributes := #[] }, { accessFlags := 1, nameIndex := 79, descriptorIndex := 37, attributes := #[] }] 49 2 #[18] #[{ accessFlags := 25, nameIndex := 65, descriptorIndex := 66, attributes := #[] }, { accessFlags := 18, nameIndex := 32, descriptorIndex := 33, attributes := #[] }, { accessFlags := 18, nameIndex := 36, descriptorIndex := 33, attributes := #[] }, { accessFlags := 2, nameIndex := 45, descriptorIndex := 33, attributes := #[] }, { accessFlags := 2, nameIndex := 48, descriptorIndex := 33, attributes := #[] }, { accessFlags := 18, nameIndex := 16, descriptorIndex := 17, attributes := #[] }])
  fields := #[{ name := "NAME", type := (.object "java/lang/String"), accessFlags := 25, slot := 0, constantValue := 0 }, { name := "self", type := .int, accessFlags := 18, slot := 0, constantValue := 0 }, { name := "maxAge", type := .int, accessFlags := 18, slot := 1, constantValue := 0 }, { name := "lid", type := .int, accessFlags := 2, slot := 2, constantValue := 0 }, { name := "tll", type := .int, accessFlags := 2, slot := 3, constantValue := 0 }, { name := "sent", type := (.object "com/example/scrutin/scrutin/election/BoundedElection$Pair"), accessFlags := 18, slot := 4, constantValue := 0 }]
  methods := #[k3m0, k3m1, k3m2, k3m3, k3m4, k3m5]
  instanceTypes := #[.int, .int, .int, .int, (.object "com/example/scrutin/scrutin/election/BoundedElection$Pair")]
  staticTypes := #[(.object "java/lang/String")]
  resolved := ((Array.replicate 106 none).setIfInBounds 49 (some (.field 4 0))).setIfInBounds 50 (some (.field 4 1))
  statics := none }

def pool4 : Array CpInfo := pool [(1, .methodref 2 3), (0, .class_ 4), (0, .nameAndType 5 6), (0, u "java/lang/Object"), (0, u "<init>"), (0, u "()V"), (0, .fieldref 8 9), (0, .class_ 10), (0, .nameAndType 11 12), (0, u "com/example/scrutin/scrutin/election/BoundedElection$Pair"), (0, u "lid"), (0, u "I"), (0, .fieldref 8 14), (0, .nameAndType 15 12), (0, u "tll"), (4, u "(II)V"), (2, u "()I"), (5, .class_ 30), (0, u "com/example/scrutin/scrutin/election/BoundedElection")] 16

def k4c0 : Code := { maxStack := 2, maxLocals := 3, code := prog_15_method_1_code, exceptionTable := #[], attributes := #[] }
def k4m0 : Method := { name := "<init>", desc := "(II)V", sig := { parameters := [.int, .int], returnType := none }, accessFlags := 1, code := some k4c0 }
def k4c1 : Code := { maxStack := 1, maxLocals := 1, code := prog_15_method_2_code, exceptionTable := #[], attributes := #[] }
def k4m1 : Method := { name := "lid", desc := "()I", sig := { parameters := [], returnType := some .int }, accessFlags := 1, code := some k4c1 }
def k4c2 : Code := { maxStack := 1, maxLocals := 1, code := prog_15_method_3_code, exceptionTable := #[], attributes := #[] }
def k4m2 : Method := { name := "tll", desc := "()I", sig := { parameters := [], returnType := some .int }, accessFlags := 1, code := some k4c2 }
/-- com/example/scrutin/scrutin/election/BoundedElection$Pair -/
def k4 : Class := { plain "com/example/scrutin/scrutin/election/BoundedElection$Pair" (some 0) with
  accessFlags := 49
  interfaces := #[]
  cf := some (fileOf pool4 8 #[.nestHost 29] #[{ accessFlags := 1, nameIndex := 5, descriptorIndex := 20, attributes := #[] }, { accessFlags := 1, nameIndex := 11, descriptorIndex := 23, attributes := #[] }, { accessFlags := 1, nameIndex := 15, descriptorIndex := 23, attributes := #[] }] 49 2 #[] #[{ accessFlags := 2, nameIndex := 11, descriptorIndex := 12, attributes := #[] }, { accessFlags := 2, nameIndex := 15, descriptorIndex := 12, attributes := #[] }])
  fields := #[{ name := "lid", type := .int, accessFlags := 2, slot := 0, constantValue := 0 }, { name := "tll", type := .int, accessFlags := 2, slot := 1, constantValue := 0 }]
  methods := #[k4m0, k4m1, k4m2]
  instanceTypes := #[.int, .int]
  staticTypes := #[]
  resolved := Array.replicate 47 none
  statics := none }

def pool5 : Array CpInfo := pool [(1, u "java/lang/Cloneable"), (0, .class_ 1), (0, u "java/lang/Object"), (0, .class_ 3)] 3

/-- java/lang/Cloneable -/
def k5 : Class := { plain "java/lang/Cloneable" (some 0) with
  accessFlags := 1537
  interfaces := #[]
  cf := some (fileOf pool5 2 #[] #[] 1537 4 #[] #[])
  fields := #[]
  methods := #[]
  instanceTypes := #[]
  staticTypes := #[]
  resolved := Array.replicate 8 none
  statics := none }

def pool6 : Array CpInfo := pool [(1, u "java/io/Serializable"), (0, .class_ 1), (0, u "java/lang/Object"), (0, .class_ 3)] 3

/-- java/io/Serializable -/
def k6 : Class := { plain "java/io/Serializable" (some 0) with
  accessFlags := 1537
  interfaces := #[]
  cf := some (fileOf pool6 2 #[] #[] 1537 4 #[] #[])
  fields := #[]
  methods := #[]
  instanceTypes := #[]
  staticTypes := #[]
  resolved := Array.replicate 8 none
  statics := none }

/-- the primitive byte -/
def k7 : Class := { plain "byte" none with kind := .primitive 'B', accessFlags := 0x411 }
/-- [B -/
def k8 : Class := { plain "[B" (some 0) with kind := .array 7 .byte, interfaces := #[5, 6], accessFlags := 1041 }

/-- the primitive int -/
def k9 : Class := { plain "int" none with kind := .primitive 'I', accessFlags := 0x411 }
/-- [I -/
def k10 : Class := { plain "[I" (some 0) with kind := .array 9 .int, interfaces := #[5, 6], accessFlags := 1041 }

def heap : Heap := #[]
def classes : Array Class := #[k0, k1, k2, k3, k4, k5, k6, k7, k8, k9, k10]
def interned : List (Array UInt16 × Addr) := []
def slotsUsed : Nat := 0
def theMethod : MethodId := ⟨1, 4⟩
def args0 : Array Value := #[.int 5, .int 6, .int 7, .int 8, .int 9]
def aboutOver (below : List Frame) : State where
  vm := { classes := classes, interned := interned.toArray }
  heap := heap
  slotsUsed := slotsUsed
  threads := #[{ frames := .invoking theMethod args0 :: below }]
def below0 : List Frame := [.native { method := ⟨0, 0⟩, args := #[] }]
def about1 : State := aboutOver below0
def p0 : Program := .bare "" "" ""
def e0 : Env := launch0.env 0 0 0
theorem w_frames : about1.frames = Frame.invoking theMethod args0 :: below0 := rfl
set_option maxRecDepth 65536 in
theorem w_args : argsFit about1.vm theMethod args0 = true := by decide +kernel
set_option maxRecDepth 65536 in
theorem w_heap : heapFits about1 = true := by decide +kernel
set_option maxRecDepth 65536 in
theorem w_runnable : about1.curStatus? = some .runnable := by decide +kernel
set_option maxRecDepth 65536 in
theorem w_alone : about1.alone = true := by decide +kernel
set_option maxRecDepth 65536 in
theorem w_named : about1.methodNamed? x = some theMethod := by decide +kernel
set_option maxRecDepth 65536 in
theorem w_hears : about1.hears theMethod below0 = true := by decide +kernel
set_option maxRecDepth 65536 in
theorem w_ripe : about1.ripe theMethod args0 below0 = true := by decide +kernel
theorem w_running : about1.status = .running := rfl
set_option maxRecDepth 65536 in
theorem w_room : about1.hasRoom e0.platform room_1 = true :=
  launch0.hasRoom_least _ room_1 (by decide +kernel) (by decide +kernel) (by decide +kernel) (by decide +kernel) (by decide +kernel) (by decide +kernel)
theorem allAtoms_all (ts : List Jvm.Cond) (a : Array Jvm.Value) (st : Jvm.State) : (allAtoms ts).before a st = ts.all (fun c => c.before a st) := by
  induction ts with
  | nil => rfl
  | cons c t ih =>
    show (Jvm.Cond.and c (allAtoms t)).before a st = _
    rw [Jvm.Cond.before_and, ih, List.all_cons]
def words1 : List Jvm.Cond := Jvm.Cond.code x code maxLocals ret :: tables_1
/-- a 'code' word, met by the world's own term for the bytes: nothing is compared byte by byte -/
theorem code_word {y : MethodName} {bytes : ByteArray} {mx : Nat} {rt : Option FieldType} {a : Array Value} {s : State} {m : MethodId} {meth : Method} {c : Code} (h1 : s.methodNamed? y = some m) (h2 : s.vm.method? m = some meth) (h3 : meth.code = some c) (h4 : c.code = bytes)
    (h5 : (c.maxLocals == mx && c.exceptionTable.isEmpty && decide (c.maxStack ≤ mostOperands) && decide (meth.sig.returnType = rt) && !meth.locks && decide (parseMethodDescriptor y.desc = some meth.sig)) = true) : (Jvm.Cond.code y bytes mx rt).before a s = true := by
  simp only [Bool.and_eq_true, beq_iff_eq, Bool.not_eq_true', decide_eq_true_eq] at h5
  obtain ⟨⟨⟨⟨⟨g1, g2⟩, g3⟩, g4⟩, g5⟩, g6⟩ := h5
  simp [Cond.before, Cond.holds, Cond.value, h1, h2, h3, h4, g1, g2, g3, g4, g5, g6]
def isCode : Jvm.Cond → Bool
  | .code _ _ _ _ => true
  | _ => false
theorem all_split {L : List Jvm.Cond} {P : Jvm.Cond → Bool} (h1 : L.all (fun c => isCode c || P c) = true) (h2 : ∀ c ∈ L.filter isCode, P c = true) : L.all P = true := by
  refine List.all_eq_true.mpr fun c hc => ?_
  have h := List.all_eq_true.mp h1 c hc
  rcases Bool.eq_false_or_eq_true (isCode c) with hi | hi
  · exact h2 c (List.mem_filter.mpr ⟨hc, hi⟩)
  · simpa [hi] using h
set_option maxRecDepth 65536 in
theorem w_c0 : (Jvm.Cond.code x code maxLocals ret).before args0 about1 = true := code_word (m := ⟨1, 4⟩) (meth := k1m4) (c := k1c4) (by decide +kernel) rfl rfl rfl (by decide +kernel)
set_option maxRecDepth 65536 in
theorem w_c1 : (Jvm.Cond.code ({ cls := "com/example/scrutin/scrutin/election/BoundedElectionEndRoundPinLaw", name := "pickDelta", desc := "(II)I" } : Jvm.MethodName) method_2_code (2 : Nat) (Option.some Jvm.ClassFile.FieldType.int)).before args0 about1 = true := code_word (m := ⟨1, 1⟩) (meth := k1m1) (c := k1c1) (by decide +kernel) rfl rfl rfl (by decide +kernel)
set_option maxRecDepth 65536 in
theorem w_c2 : (Jvm.Cond.code ({ cls := "com/example/scrutin/scrutin/election/BoundedElectionEndRoundPinLaw", name := "pickTll", desc := "(III)I" } : Jvm.MethodName) method_3_code (4 : Nat) (Option.some Jvm.ClassFile.FieldType.int)).before args0 about1 = true := code_word (m := ⟨1, 2⟩) (meth := k1m2) (c := k1c2) (by decide +kernel) rfl rfl rfl (by decide +kernel)
set_option maxRecDepth 65536 in
theorem w_c3 : (Jvm.Cond.code ({ cls := "com/example/scrutin/scrutin/election/BoundedElectionEndRoundPinLaw", name := "pickLid", desc := "(III)I" } : Jvm.MethodName) method_4_code (4 : Nat) (Option.some Jvm.ClassFile.FieldType.int)).before args0 about1 = true := code_word (m := ⟨1, 3⟩) (meth := k1m3) (c := k1c3) (by decide +kernel) rfl rfl rfl (by decide +kernel)
set_option maxRecDepth 65536 in
theorem w_c4 : (Jvm.Cond.code ({ cls := "com/example/scrutin/scrutin/election/BoundedElection", name := "<init>", desc := "(IIII)V" } : Jvm.MethodName) prog_14_method_1_code (5 : Nat) (Option.none : Option Jvm.ClassFile.FieldType)).before args0 about1 = true := code_word (m := ⟨3, 0⟩) (meth := k3m0) (c := k3c0) (by decide +kernel) rfl rfl rfl (by decide +kernel)
set_option maxRecDepth 65536 in
theorem w_c5 : (Jvm.Cond.code ({ cls := "java/lang/Object", name := "<init>", desc := "()V" } : Jvm.MethodName) object_method_1_code (1 : Nat) (Option.none : Option Jvm.ClassFile.FieldType)).before args0 about1 = true := code_word (m := ⟨0, 0⟩) (meth := k0m0) (c := k0c0) (by decide +kernel) rfl rfl rfl (by decide +kernel)
set_option maxRecDepth 65536 in
theorem w_c6 : (Jvm.Cond.code ({ cls := "com/example/scrutin/scrutin/election/BoundedElection$Pair", name := "<init>", desc := "(II)V" } : Jvm.MethodName) prog_15_method_1_code (3 : Nat) (Option.none : Option Jvm.ClassFile.FieldType)).before args0 about1 = true := code_word (m := ⟨4, 0⟩) (meth := k4m0) (c := k4c0) (by decide +kernel) rfl rfl rfl (by decide +kernel)
set_option maxRecDepth 65536 in
theorem w_c7 : (Jvm.Cond.code ({ cls := "com/example/scrutin/scrutin/election/BoundedElection", name := "maxAge", desc := "(I)I" } : Jvm.MethodName) prog_14_method_2_code (1 : Nat) (Option.some Jvm.ClassFile.FieldType.int)).before args0 about1 = true := code_word (m := ⟨3, 1⟩) (meth := k3m1) (c := k3c1) (by decide +kernel) rfl rfl rfl (by decide +kernel)
set_option maxRecDepth 65536 in
theorem w_c8 : (Jvm.Cond.code ({ cls := "com/example/scrutin/scrutin/election/BoundedElection", name := "endRound", desc := "()V" } : Jvm.MethodName) prog_14_method_6_code (1 : Nat) (Option.none : Option Jvm.ClassFile.FieldType)).before args0 about1 = true := code_word (m := ⟨3, 4⟩) (meth := k3m4) (c := k3c4) (by decide +kernel) rfl rfl rfl (by decide +kernel)
set_option maxRecDepth 65536 in
theorem w_c9 : (Jvm.Cond.code ({ cls := "com/example/scrutin/scrutin/election/BoundedElection", name := "message", desc := "()Lcom/example/scrutin/scrutin/election/BoundedElection$Pair;" } : Jvm.MethodName) prog_14_method_4_code (1 : Nat) (Option.some (Jvm.ClassFile.FieldType.object "com/example/scrutin/scrutin/election/BoundedElection$Pair"))).before args0 about1 = true := code_word (m := ⟨3, 3⟩) (meth := k3m3) (c := k3c3) (by decide +kernel) rfl rfl rfl (by decide +kernel)
set_option maxRecDepth 65536 in
theorem w_c10 : (Jvm.Cond.code ({ cls := "com/example/scrutin/scrutin/election/BoundedElection$Pair", name := "lid", desc := "()I" } : Jvm.MethodName) prog_15_method_2_code (1 : Nat) (Option.some Jvm.ClassFile.FieldType.int)).before args0 about1 = true := code_word (m := ⟨4, 1⟩) (meth := k4m1) (c := k4c1) (by decide +kernel) rfl rfl rfl (by decide +kernel)
set_option maxRecDepth 65536 in
theorem w_c11 : (Jvm.Cond.code ({ cls := "com/example/scrutin/scrutin/election/BoundedElection$Pair", name := "tll", desc := "()I" } : Jvm.MethodName) prog_15_method_3_code (1 : Nat) (Option.some Jvm.ClassFile.FieldType.int)).before args0 about1 = true := code_word (m := ⟨4, 2⟩) (meth := k4m2) (c := k4c2) (by decide +kernel) rfl rfl rfl (by decide +kernel)
set_option maxRecDepth 65536 in
theorem w_c12 : (Jvm.Cond.code ({ cls := "com/example/scrutin/scrutin/election/BoundedElection", name := "leaderOr", desc := "(I)I" } : Jvm.MethodName) prog_14_method_8_code (2 : Nat) (Option.some Jvm.ClassFile.FieldType.int)).before args0 about1 = true := code_word (m := ⟨3, 5⟩) (meth := k3m5) (c := k3c5) (by decide +kernel) rfl rfl rfl (by decide +kernel)
set_option maxRecDepth 65536 in
theorem w_c13 : (Jvm.Cond.code ({ cls := "com/example/scrutin/scrutin/election/BoundedElection", name := "id", desc := "()I" } : Jvm.MethodName) prog_14_method_3_code (1 : Nat) (Option.some Jvm.ClassFile.FieldType.int)).before args0 about1 = true := code_word (m := ⟨3, 2⟩) (meth := k3m2) (c := k3c2) (by decide +kernel) rfl rfl rfl (by decide +kernel)
def codes1 : List Jvm.Cond := [Jvm.Cond.code x code maxLocals ret, Jvm.Cond.code ({ cls := "com/example/scrutin/scrutin/election/BoundedElectionEndRoundPinLaw", name := "pickDelta", desc := "(II)I" } : Jvm.MethodName) method_2_code (2 : Nat) (Option.some Jvm.ClassFile.FieldType.int), Jvm.Cond.code ({ cls := "com/example/scrutin/scrutin/election/BoundedElectionEndRoundPinLaw", name := "pickTll", desc := "(III)I" } : Jvm.MethodName) method_3_code (4 : Nat) (Option.some Jvm.ClassFile.FieldType.int), Jvm.Cond.code ({ cls := "com/example/scrutin/scrutin/election/BoundedElectionEndRoundPinLaw", name := "pickLid", desc := "(III)I" } : Jvm.MethodName) method_4_code (4 : Nat) (Option.some Jvm.ClassFile.FieldType.int), Jvm.Cond.code ({ cls := "com/example/scrutin/scrutin/election/BoundedElection", name := "<init>", desc := "(IIII)V" } : Jvm.MethodName) prog_14_method_1_code (5 : Nat) (Option.none : Option Jvm.ClassFile.FieldType), Jvm.Cond.code ({ cls := "java/lang/Object", name := "<init>", desc := "()V" } : Jvm.MethodName) object_method_1_code (1 : Nat) (Option.none : Option Jvm.ClassFile.FieldType), Jvm.Cond.code ({ cls := "com/example/scrutin/scrutin/election/BoundedElection$Pair", name := "<init>", desc := "(II)V" } : Jvm.MethodName) prog_15_method_1_code (3 : Nat) (Option.none : Option Jvm.ClassFile.FieldType), Jvm.Cond.code ({ cls := "com/example/scrutin/scrutin/election/BoundedElection", name := "maxAge", desc := "(I)I" } : Jvm.MethodName) prog_14_method_2_code (1 : Nat) (Option.some Jvm.ClassFile.FieldType.int), Jvm.Cond.code ({ cls := "com/example/scrutin/scrutin/election/BoundedElection", name := "endRound", desc := "()V" } : Jvm.MethodName) prog_14_method_6_code (1 : Nat) (Option.none : Option Jvm.ClassFile.FieldType), Jvm.Cond.code ({ cls := "com/example/scrutin/scrutin/election/BoundedElection", name := "message", desc := "()Lcom/example/scrutin/scrutin/election/BoundedElection$Pair;" } : Jvm.MethodName) prog_14_method_4_code (1 : Nat) (Option.some (Jvm.ClassFile.FieldType.object "com/example/scrutin/scrutin/election/BoundedElection$Pair")), Jvm.Cond.code ({ cls := "com/example/scrutin/scrutin/election/BoundedElection$Pair", name := "lid", desc := "()I" } : Jvm.MethodName) prog_15_method_2_code (1 : Nat) (Option.some Jvm.ClassFile.FieldType.int), Jvm.Cond.code ({ cls := "com/example/scrutin/scrutin/election/BoundedElection$Pair", name := "tll", desc := "()I" } : Jvm.MethodName) prog_15_method_3_code (1 : Nat) (Option.some Jvm.ClassFile.FieldType.int), Jvm.Cond.code ({ cls := "com/example/scrutin/scrutin/election/BoundedElection", name := "leaderOr", desc := "(I)I" } : Jvm.MethodName) prog_14_method_8_code (2 : Nat) (Option.some Jvm.ClassFile.FieldType.int), Jvm.Cond.code ({ cls := "com/example/scrutin/scrutin/election/BoundedElection", name := "id", desc := "()I" } : Jvm.MethodName) prog_14_method_3_code (1 : Nat) (Option.some Jvm.ClassFile.FieldType.int)]
set_option maxRecDepth 65536 in
theorem codes_eq : words1.filter isCode = codes1 := rfl
theorem w_codes : ∀ c ∈ words1.filter isCode, c.before args0 about1 = true := by
  rw [codes_eq]
  intro c hc
  simp only [codes1, List.mem_cons, List.not_mem_nil, or_false] at hc
  rcases hc with rfl | rfl | rfl | rfl | rfl | rfl | rfl | rfl | rfl | rfl | rfl | rfl | rfl | rfl
  · exact w_c0
  · exact w_c1
  · exact w_c2
  · exact w_c3
  · exact w_c4
  · exact w_c5
  · exact w_c6
  · exact w_c7
  · exact w_c8
  · exact w_c9
  · exact w_c10
  · exact w_c11
  · exact w_c12
  · exact w_c13
set_option maxRecDepth 65536 in
theorem w_t1 : (words1.take 24).all (fun c => isCode c || c.before args0 about1) = true := by decide +kernel
set_option maxRecDepth 65536 in
theorem w_t2 : ((words1.drop 24).take 24).all (fun c => isCode c || c.before args0 about1) = true := by decide +kernel
set_option maxRecDepth 65536 in
theorem w_t3 : (((words1.drop 24).drop 24).take 24).all (fun c => isCode c || c.before args0 about1) = true := by decide +kernel
set_option maxRecDepth 65536 in
theorem w_t4 : (((words1.drop 24).drop 24).drop 24).all (fun c => isCode c || c.before args0 about1) = true := by decide +kernel
theorem w_tables : (allAtoms (Jvm.Cond.code x code maxLocals ret :: tables_1)).before args0 about1 = true := by
  rw [allAtoms_all]
  show words1.all (fun c => c.before args0 about1) = true
  refine all_split ?_ w_codes
  rw [← List.take_append_drop 24 words1, List.all_append, w_t1, ← List.take_append_drop 24 (words1.drop 24), List.all_append, w_t2, ← List.take_append_drop 24 ((words1.drop 24).drop 24), List.all_append, w_t3, w_t4]
  rfl
set_option maxRecDepth 65536 in
theorem w_case : (Jvm.Cond.and given_1 narrow_1).before args0 about1 = true := by decide +kernel
theorem w_applies : (headSpec (Jvm.Cond.code x code maxLocals ret :: tables_1) room_1).applies x e0.platform about1 = true :=
  (Spec.applies_iff w_frames).mpr ⟨w_running, w_runnable, w_alone, w_named, w_hears, w_ripe, w_room, w_tables⟩
theorem atStart : AtStart classFile x code maxLocals ret World_1 tables_1 room_1 Calls_1 rest_1 Pre_1 launch0 p0 e0 about1 theMethod args0 below0 :=
  ⟨lists_1, trivial, launch0.admits_env _ _ _, launch0.least_env, fairChoices_fair.cas, fairChoices_fair.clock, w_frames, w_args, w_heap, w_applies, trivial, trivial, w_case⟩
end start1
theorem witness_1 : WitnessClaimed_1 := ⟨start1.p0, start1.e0, start1.about1, start1.theMethod, start1.args0, start1.below0, start1.atStart⟩
end Jvm.Pilot.@@N@@
