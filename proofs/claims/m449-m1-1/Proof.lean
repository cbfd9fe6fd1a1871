import JvmDerived
import JvmDerived.Pilot.@@N@@Statement
import JvmDerived.Pilot.@@N@@Code
set_option linter.unusedVariables false
set_option linter.unusedSimpArgs false
namespace Jvm.Pilot.@@N@@
open Jvm Jvm.ClassFile Sem Op Lib Jvm.Free Jvm.Stand Jvm.LawKit Jvm.RoadKit Bundle Jvm.Pilot.@@N@@.Jvm.D
/-! 1. what is known of the heap: a list of objects made since the start -/
abbrev oOb : Type := (String × List (String × String × String × Value)) ⊕ (FieldType × List Value)
abbrev oVw : Type := List (Addr × oOb)
def oSat (Z : State) (h : Heap) (a : Addr) : oOb → Prop
  | .inl q => Exa Z h a q.1 ∧ (q.2.map fun f => Jvm.RoadKit.slotOf Z f.1 f.2.1 f.2.2.1).Nodup ∧ ∀ f ∈ q.2, Fld Z h a f.1 f.2.1 f.2.2.1 f.2.2.2
  | .inr q => ∃ c : Cell, Arr Z h a c q.1 ∧ c.slots.toList = q.2 ∧ q.2.length < 2 ^ 31
def oHv (Z : State) (h : Heap) (V : oVw) : Prop := Ext Z.heap h ∧ (V.map Prod.fst).Nodup ∧ ∀ x ∈ V, Z.heap.size ≤ x.1 ∧ oSat Z h x.1 x.2
theorem oSat.ext {Z : State} {h h' : Heap} {a : Addr} {o : oOb} (E : Ext h h') (S : oSat Z h a o) : oSat Z h' a o := by
  cases o with
  | inl q => exact ⟨S.1.ext E, S.2.1, fun f hf => (S.2.2 f hf).ext E⟩
  | inr q => obtain ⟨c, A, r⟩ := S; exact ⟨c, A.ext E, r⟩
theorem oSat.other {Z : State} {h h' : Heap} {a b : Addr} {o : oOb} {sl : Nat} {v : Value} (W : Wr h h' b sl v) (ne : a ≠ b) (S : oSat Z h a o) : oSat Z h' a o := by
  cases o with
  | inl q => exact ⟨S.1.wr W, S.2.1, fun f hf => (S.2.2 f hf).other W (Or.inl ne)⟩
  | inr q => obtain ⟨c, A, r⟩ := S; exact ⟨c, A.other W ne, r⟩
theorem oSat.lt {Z : State} {h : Heap} {a : Addr} {o : oOb} (S : oSat Z h a o) : a < h.size := by
  cases o with
  | inl q => exact S.1.lt
  | inr q => obtain ⟨c, A, r⟩ := S; exact A.lt
theorem oSetSame {α : Type} : ∀ {l : List α} {i : Nat} {x : α}, l[i]? = some x → l.set i x = l
  | [], _, _, h => by simp at h
  | y :: r, 0, x, h => by simp at h; simp [h]
  | y :: r, i + 1, x, h => by simp at h; simp [oSetSame h]
theorem oSetGet {α : Type} {l : List α} {i : Nat} {x y : α} (h : l[i]? = some x) : (l.set i y)[i]? = some y := by
  obtain ⟨hi, -⟩ := List.getElem?_eq_some_iff.mp h
  simp [hi]
theorem oSetNe {α : Type} {l : List α} {i k : Nat} {x y : α} (ne : i ≠ k) (h : l[k]? = some x) : (l.set i y)[k]? = some x := by
  rw [List.getElem?_set_ne ne]; exact h
theorem oAppGet {α : Type} {l r : List α} {i : Nat} {x : α} (h : l[i]? = some x) : (l ++ r)[i]? = some x := by
  obtain ⟨hi, -⟩ := List.getElem?_eq_some_iff.mp h
  rw [List.getElem?_append_left hi]; exact h
theorem oAppLast {α : Type} {l : List α} {x : α} : (l ++ [x])[l.length]? = some x := by simp
theorem oAppSet {α : Type} {l r : List α} {i : Nat} {x y : α} (h : l[i]? = some x) : (l ++ r).set i y = l.set i y ++ r := by
  obtain ⟨hi, -⟩ := List.getElem?_eq_some_iff.mp h
  simp [List.set_append, hi]
theorem oAppSetLast {α : Type} {l : List α} {x y : α} : (l ++ [x]).set l.length y = l ++ [y] := by simp [List.set_append]
theorem oNd {α β : Type} {f : α → β} {l : List α} (nd : (l.map f).Nodup) {i k : Nat} {x y : α} (hi : l[i]? = some x) (hk : l[k]? = some y) (ne : i ≠ k) : f x ≠ f y := by
  intro e
  have h1 : (l.map f)[i]? = some (f x) := by simp [hi]
  have h2 : (l.map f)[k]? = some (f x) := by simp [hk, e]
  obtain ⟨hi', g1⟩ := List.getElem?_eq_some_iff.mp h1
  obtain ⟨hk', g2⟩ := List.getElem?_eq_some_iff.mp h2
  exact ne ((List.getElem_inj nd).mp (g1.trans g2.symm))
theorem oMapSet {α β : Type} {f : α → β} {l : List α} {i : Nat} {x y : α} (hi : l[i]? = some x) (e : f y = f x) : (l.set i y).map f = l.map f := by
  rw [List.map_set]; exact oSetSame (by simp [hi, e])
theorem oMemSet {α : Type} {l : List α} {i : Nat} {y z : α} (h : z ∈ l.set i y) : z = y ∨ ∃ k, k ≠ i ∧ l[k]? = some z := by
  obtain ⟨k, hk⟩ := List.mem_iff_getElem?.mp h
  by_cases e : i = k
  · subst e
    obtain ⟨hi, g⟩ := List.getElem?_eq_some_iff.mp hk
    left; simp at g; exact g.symm
  · right; exact ⟨k, fun q => e q.symm, by rwa [List.getElem?_set_ne e] at hk⟩
theorem oHv.new {Z : State} {h h' : Heap} {V : oVw} {o : oOb} (H : oHv Z h V) (E : Ext h h') (S : oSat Z h' h.size o) : oHv Z h' (V ++ [(h.size, o)]) := by
  obtain ⟨H1, H2, H3⟩ := H
  refine ⟨⟨Nat.le_trans H1.1 E.1, fun a c q => E.2 _ _ (H1.2 _ _ q)⟩, ?_, fun x hx => ?_⟩
  · rw [List.map_append, List.nodup_append]
    refine ⟨H2, by simp, fun a ha b hb => ?_⟩
    simp at hb
    subst hb
    obtain ⟨x, hx, rfl⟩ := List.mem_map.mp ha
    exact Nat.ne_of_lt (H3 x hx).2.lt
  · rcases List.mem_append.mp hx with hx | hx
    · exact ⟨(H3 x hx).1, (H3 x hx).2.ext E⟩
    · simp at hx; subst hx; exact ⟨H1.1, S⟩
theorem oHv.wr {Z : State} {h h' : Heap} {V : oVw} {a : Addr} {o o' : oOb} {i sl : Nat} {v : Value} (H : oHv Z h V) (W : Wr h h' a sl v) (hi : V[i]? = some (a, o)) (S : oSat Z h' a o') : oHv Z h' (V.set i (a, o')) := by
  obtain ⟨H1, H2, H3⟩ := H
  have hm := H3 _ (List.mem_of_getElem? hi)
  refine ⟨(Old.wr (n0 := Z.heap.size) ⟨rfl, H1⟩ W hm.1).2, ?_, fun x hx => ?_⟩
  · rw [oMapSet (y := (a, o')) hi rfl]; exact H2
  · rcases oMemSet hx with rfl | ⟨k, hk, hx⟩
    · exact ⟨hm.1, S⟩
    · have q := H3 _ (List.mem_of_getElem? hx)
      exact ⟨q.1, q.2.other W (oNd H2 hx hi hk)⟩
theorem oSat.wrF {Z : State} {h h' : Heap} {a : Addr} {C O n d : String} {fs : List (String × String × String × Value)} {j : Nat} {v old : Value} (S : oSat Z h a (.inl (C, fs))) (hj : fs[j]? = some (O, n, d, old)) (W : Wr h h' a (Jvm.RoadKit.slotOf Z O n d) v) :
    oSat Z h' a (.inl (C, fs.set j (O, n, d, v))) := by
  obtain ⟨S1, S2, S3⟩ := S
  refine ⟨S1.wr W, ?_, fun f hf => ?_⟩
  · show ((fs.set j (O, n, d, v)).map _).Nodup
    rw [oMapSet (y := (O, n, d, v)) hj rfl]; exact S2
  · rcases oMemSet hf with rfl | ⟨k, hk, hf⟩
    · exact (S3 _ (List.mem_of_getElem? hj)).same W
    · have S2' : (fs.map fun f => Jvm.RoadKit.slotOf Z f.1 f.2.1 f.2.2.1).Nodup := S2
      have q := oNd S2' hf hj hk
      dsimp only at q
      exact (S3 _ (List.mem_of_getElem? hf)).other W (Or.inr q)
theorem oSat.wrA {Z : State} {h h' : Heap} {a : Addr} {ty : FieldType} {vs : List Value} {j : Nat} {v : Value} (S : oSat Z h a (.inr (ty, vs))) (W : Wr h h' a j v) : oSat Z h' a (.inr (ty, vs.set j v)) := by
  obtain ⟨c, A, r1, r2⟩ := S
  refine ⟨_, A.same W, ?_, by rw [List.length_set]; exact r2⟩
  show (c.setSlot j v).slots.toList = _
  simp only [Cell.setSlot, Array.toList_setIfInBounds, r1]
theorem oHv.sat {Z : State} {h : Heap} {V : oVw} {a : Addr} {o : oOb} {i : Nat} (H : oHv Z h V) (hi : V[i]? = some (a, o)) : oSat Z h a o := (H.2.2 _ (List.mem_of_getElem? hi)).2
theorem oHv.ge {Z : State} {h : Heap} {V : oVw} {a : Addr} {o : oOb} {i : Nat} (H : oHv Z h V) (hi : V[i]? = some (a, o)) : Z.heap.size ≤ a := (H.2.2 _ (List.mem_of_getElem? hi)).1
theorem oHv.nil (Z : State) : oHv Z Z.heap [] := ⟨⟨Nat.le_refl _, fun _ _ q => q⟩, List.nodup_nil, fun _ q => nomatch q⟩
/-- the fields of a class, as they are at first -/
def oLay (Z : State) (a0 : Array Value) (C : String) (fs : List (String × String × String × Value)) : Prop := (fs.map fun f => Jvm.RoadKit.slotOf Z f.1 f.2.1 f.2.2.1).Nodup ∧ ∀ f ∈ fs, Laid Z a0 C f.1 f.2.1 f.2.2.1 ∧ ∃ ty, parseFieldDescriptor f.2.2.1 = some ty ∧ f.2.2.2 = defaultValue ty
def oAll {α : Type} (P : α → Prop) : List α → Prop
  | [] => True
  | x :: r => P x ∧ oAll P r
theorem oAll.mem {α : Type} {P : α → Prop} : ∀ {l : List α}, oAll P l → ∀ x ∈ l, P x
  | [], _, _, q => nomatch q
  | y :: r, H, x, q => (List.mem_cons.mp q).elim (fun u => u ▸ H.1) (oAll.mem H.2 x)
theorem oLay.of {Z : State} {a0 : Array Value} {C : String} {fs : List (String × String × String × Value)} (hn : (fs.map fun f => f.2.1).Nodup) (hL : oAll (fun f => Laid Z a0 C f.1 f.2.1 f.2.2.1 ∧ ∃ ty, parseFieldDescriptor f.2.2.1 = some ty ∧ f.2.2.2 = defaultValue ty) fs) : oLay Z a0 C fs := by
  have hL := hL.mem
  refine ⟨?_, hL⟩
  have hn' := List.pairwise_map.mp hn
  refine List.pairwise_map.mpr (List.Pairwise.imp_of_mem (fun {x z} hx hz ne => ?_) hn')
  obtain ⟨L1, t1, p1, -⟩ := hL _ hx
  obtain ⟨L2, t2, p2, -⟩ := hL _ hz
  exact slot_ne L1 L2 ne p1 p2
/-! 2. where the run stands, and where it goes -/
section Walk
variable {p : Program} {l : Launch} {e : Env} {R : Room} {s : State} {m : MethodId} {args : Array Value} {below : List Frame} {meth : Method} {c : Code} {Z : State} {bytes : ByteArray} {own nm : String} {maxL : Nat} {ret : Option FieldType} {T : State} {V V' : oVw} {cells slots c2 s2 : Nat} {Ret : Option Value → oVw → Prop} {a0 : Array Value} {pc q : Nat} {Ls : Array Slot} {st rest : List Value}
def oE (p : Program) (l : Launch) (e : Env) (R : Room) (s : State) (m : MethodId) (args : Array Value) (below : List Frame) (meth : Method) (c : Code) (Z : State) (bytes : ByteArray) (own nm : String) (maxL : Nat) (ret : Option FieldType) : Prop :=
  p.tables.exec = Jvm.exec ∧ Z.Warmed39 s.vm ∧ s.vm.findClass own = some m.cls ∧ c.code = bytes ∧ c.maxLocals = maxL ∧ meth.sig.returnType = ret ∧ meth.name = nm ∧ meth.locks = false
def oX (p : Program) (l : Launch) (e : Env) (R : Room) (s : State) (m : MethodId) (args : Array Value) (below : List Frame) (meth : Method) (c : Code) (Z T : State) (V : oVw) (cells slots : Nat) : Prop :=
  ∃ locs c' s', c' ≤ cells ∧ s' ≤ slots ∧ Stand p l e R s m args below meth c T locs c' s' ∧ Fr Z.heap.size locs ∧ oHv Z T.heap V
def oG (p : Program) (e : Env) (below : List Frame) (s Z : State) (R : Room) (Ret : Option Value → oVw → Prop) (T : State) (g : JFrame) : Prop :=
  ∃ t o, Steps p.tables e below (T.setTop g) t ∧ t.status = .running ∧ Ended t below o ∧ ∃ v L, o = .returned v ∧ (Fr Z.heap.size L ∧ ∃ V', Ret v V' ∧ oHv Z t.heap V') ∧ FrameEnd s o t L R.cells R.slots
/-- the contract of a method at a view V of the heap -/
def oCon (l : Launch) (Z : State) (y : MethodName) (bytes : ByteArray) (maxL : Nat) (ret : Option FieldType) (rm : Room) (as' : Array Value) (V : oVw) (Ret : Option Value → oVw → Prop) : Prop :=
  ∀ (ws : List Jvm.Cond) (h0 : Heap), oHv Z h0 V → MetFree l y (head1 (Jvm.Cond.code y bytes maxL ret :: ws) rm) (fun a U => a = as' ∧ Z.Warmed39 U.vm ∧ U.heap = h0) (fun _ _ _ _ _ => True) (fun _ U o U' => ∃ v L, o = .returned v ∧ (Fr Z.heap.size L ∧ ∃ V', Ret v V' ∧ oHv Z U'.heap V') ∧ FrameEnd U o U' L rm.cells rm.slots)
theorem oG.step {T' : State} {g g' : JFrame} (k : ∀ t, Steps p.tables e below (T'.setTop g') t → Steps p.tables e below (T.setTop g) t) (G : oG p e below s Z R Ret T' g') : oG p e below s Z R Ret T g := by
  obtain ⟨t, o, h1, r⟩ := G; exact ⟨t, o, k t h1, r⟩
theorem oG.steps {T' : State} {g g' : JFrame} (k : Steps p.tables e below (T.setTop g) (T'.setTop g')) (G : oG p e below s Z R Ret T' g') : oG p e below s Z R Ret T g := by
  obtain ⟨t, o, h1, r⟩ := G; exact ⟨t, o, k.trans h1, r⟩
theorem oX.le (X : oX p l e R s m args below meth c Z T V cells slots) (h1 : cells ≤ c2) (h2 : slots ≤ s2) : oX p l e R s m args below meth c Z T V c2 s2 := by
  obtain ⟨locs, c', s', q1, q2, r⟩ := X; exact ⟨locs, c', s', Nat.le_trans q1 h1, Nat.le_trans q2 h2, r⟩
theorem oX.hv (X : oX p l e R s m args below meth c Z T V cells slots) : oHv Z T.heap V := by
  obtain ⟨_, _, _, _, _, _, _, H⟩ := X; exact H
/-- entering a method -/
theorem oEnter {y : MethodName} {as' : Array Value} {rm : Room} (hpl : plainFor y = true) (hent : ∀ m, entryFrame m as' maxL = mkF m 0 Ls [])
    (body : ∀ p e s m below meth c T, oE p l e rm s m as' below meth c Z bytes y.cls y.name maxL ret → oX p l e rm s m as' below meth c Z T V 0 0 → oG p e below s Z rm Ret T (mkF m 0 Ls [])) :
    oCon l Z y bytes maxL ret rm as' V Ret := by
  intro ws h0 H
  refine MetFree.of_bodySF hpl hisR ?_
  intro p e s m args below meth c s₁ Bd hml0 hP hK
  obtain ⟨rfl, hZ, hh⟩ := hP
  have e0 : s₁.heap = h0 := by rw [← hh, Bd.state]; rfl
  have G := body p e s m below meth c s₁ ⟨Bd.exec, hZ, findClass_of_methodNamed Bd.named, Bd.bytes, hml0, Bd.returns, (name_of_methodNamed Bd.named Bd.method).1, BodyLoose.notSynchronized Bd⟩ ⟨[], 0, 0, Nat.le_refl _, Nat.le_refl _, Stand.of_body Bd, Fr.nil _, e0 ▸ H⟩
  obtain ⟨t, o, h1, r⟩ := G
  exact ⟨t, o, castTop (hent m) h1, r⟩
/-! 3. leaving -/
theorem oLeave (E : oE p l e R s m args below meth c Z bytes own nm maxL ret) (X : oX p l e R s m args below meth c Z T V cells slots) (hc : cells ≤ R.cells) (hs : slots ≤ R.slots) {v : Option Value} (hv : meth.sig.returnType = none → v = none) (hR : Ret v V) {g : JFrame}
    (k : ∀ {locs c' s'}, Stand p l e R s m args below meth c T locs c' s' → ∀ fs, (∀ (f : JFrame) (acts : List Action), f.method = m → f.locked = none → f.entered = [] → (doReturn e (T.setTop f) acts v).1 = T.setFrames fs) → Steps p.tables e below (T.setTop g) (T.setFrames fs)) :
    oG p e below s Z R Ret T g := by
  obtain ⟨locs, c', s', q1, q2, Y, N, H⟩ := X
  have hlocks := E.2.2.2.2.2.2.2
  obtain ⟨fs, hr, hrun, hended, hW, hsame⟩ := Y.leave (v := v) hv hlocks
  exact ⟨_, _, k Y fs hr, hrun, hended, _, _, rfl, ⟨N, _, hR, H⟩, ⟨_, rfl⟩, hW, hsame.mono (Nat.le_trans q1 hc) (Nat.le_trans q2 hs)⟩
theorem gRetV (E : oE p l e R s m args below meth c Z bytes own nm maxL none) (X : oX p l e R s m args below meth c Z T V cells slots) (hd : decode bytes pc = .ok (.return_, 1)) (hc : cells ≤ R.cells) (hs : slots ≤ R.slots) (hR : Ret none V) : oG p e below s Z R Ret T (mkF m pc Ls []) :=
  oLeave E X hc hs (fun _ => rfl) hR fun Y fs hr => Y.returnOut E.1 E.2.2.2.2.2.1 (hb E.2.2.2.1 hd) hr
theorem gRetI (E : oE p l e R s m args below meth c Z bytes own nm maxL (some .int)) (X : oX p l e R s m args below meth c Z T V cells slots) {z : Int32} (hd : decode bytes pc = .ok (.ireturn, 1)) (hc : cells ≤ R.cells) (hs : slots ≤ R.slots) (hR : Ret (some (.int z)) V) : oG p e below s Z R Ret T (mkF m pc Ls (.int z :: rest)) :=
  oLeave E X hc hs (fun h => by rw [E.2.2.2.2.2.1] at h; cases h) hR fun Y fs hr => retOut Y E.1 E.2.2.2.2.2.1 rfl (Or.inl ⟨rfl, Or.inl rfl, _, rfl⟩) (hb E.2.2.2.1 hd) hr
theorem gRetN {t : FieldType} (E : oE p l e R s m args below meth c Z bytes own nm maxL (some t)) (X : oX p l e R s m args below meth c Z T V cells slots) (ht : t = .boolean ∨ t = .byte ∨ t = .char ∨ t = .short) {z : Int32} (hd : decode bytes pc = .ok (.ireturn, 1)) (hc : cells ≤ R.cells) (hs : slots ≤ R.slots) (hR : Ret (some (.int (nar t z))) V) : oG p e below s Z R Ret T (mkF m pc Ls (.int z :: rest)) :=
  oLeave E X hc hs (fun h => by rw [E.2.2.2.2.2.1] at h; cases h) hR fun Y fs hr => retN Y E.1 E.2.2.2.2.2.1 ht (hb E.2.2.2.1 hd) hr
theorem gRetJ (E : oE p l e R s m args below meth c Z bytes own nm maxL (some .long)) (X : oX p l e R s m args below meth c Z T V cells slots) {z : Int64} (hd : decode bytes pc = .ok (.lreturn, 1)) (hc : cells ≤ R.cells) (hs : slots ≤ R.slots) (hR : Ret (some (.long z)) V) : oG p e below s Z R Ret T (mkF m pc Ls (.long z :: rest)) :=
  oLeave E X hc hs (fun h => by rw [E.2.2.2.2.2.1] at h; cases h) hR fun Y fs hr => retOut Y E.1 E.2.2.2.2.2.1 rfl (Or.inr (Or.inl ⟨rfl, rfl, _, rfl⟩)) (hb E.2.2.2.1 hd) hr
theorem gRetA {t : FieldType} (E : oE p l e R s m args below meth c Z bytes own nm maxL (some t)) (X : oX p l e R s m args below meth c Z T V cells slots) (ht : t.isReference = true) {v : Value} (hd : decode bytes pc = .ok (.areturn, 1)) (hc : cells ≤ R.cells) (hs : slots ≤ R.slots) (hv : v.isRef = true) (hn : narrow t v = v) (hR : Ret (some v) V) : oG p e below s Z R Ret T (mkF m pc Ls (v :: rest)) :=
  oLeave E X hc hs (fun h => by rw [E.2.2.2.2.2.1] at h; cases h) hR fun Y fs hr => retOut Y E.1 E.2.2.2.2.2.1 hn (Or.inr (Or.inr (Or.inr (Or.inr ⟨rfl, ht, hv⟩)))) (hb E.2.2.2.1 hd) hr
/-! 4. single steps -/
theorem gAloadN (E : oE p l e R s m args below meth c Z bytes own nm maxL ret) (X : oX p l e R s m args below meth c Z T V cells slots) {k : Fin 4} {v : Value} (hd : decode bytes pc = .ok (.aload_n k, 1)) (hl : Ls[k.val]? = some (.val v)) (hv : v.isRef = true) (hp : pc + 1 = q) (G : oG p e below s Z R Ret T (mkF m q Ls (v :: st))) : oG p e below s Z R Ret T (mkF m pc Ls st) := by
  subst hp ; obtain ⟨_, _, _, _, _, Y, _⟩ := X; exact G.step fun t k => XS.aloadN Y.here E.1 rfl (hb E.2.2.2.1 hd) hl hv k
theorem gAload (E : oE p l e R s m args below meth c Z bytes own nm maxL ret) (X : oX p l e R s m args below meth c Z T V cells slots) {k : Nat} {v : Value} (hd : decode bytes pc = .ok (.aload k, 2)) (hl : Ls[k]? = some (.val v)) (hv : v.isRef = true) (hp : pc + 2 = q) (G : oG p e below s Z R Ret T (mkF m q Ls (v :: st))) : oG p e below s Z R Ret T (mkF m pc Ls st) := by
  subst hp ; obtain ⟨_, _, _, _, _, Y, _⟩ := X; exact G.step fun t k => XS.aload Y.here E.1 rfl (hb E.2.2.2.1 hd) hl hv k
theorem gIloadN (E : oE p l e R s m args below meth c Z bytes own nm maxL ret) (X : oX p l e R s m args below meth c Z T V cells slots) {k : Fin 4} {v : Int32} (hd : decode bytes pc = .ok (.iload_n k, 1)) (hl : Ls[k.val]? = some (.val (.int v))) (hp : pc + 1 = q) (G : oG p e below s Z R Ret T (mkF m q Ls (.int v :: st))) : oG p e below s Z R Ret T (mkF m pc Ls st) := by
  subst hp ; obtain ⟨_, _, _, _, _, Y, _⟩ := X; exact G.step fun t k => XS.iloadN Y.here E.1 rfl (hb E.2.2.2.1 hd) hl k
theorem gIload (E : oE p l e R s m args below meth c Z bytes own nm maxL ret) (X : oX p l e R s m args below meth c Z T V cells slots) {k : Nat} {v : Int32} (hd : decode bytes pc = .ok (.iload k, 2)) (hl : Ls[k]? = some (.val (.int v))) (hp : pc + 2 = q) (G : oG p e below s Z R Ret T (mkF m q Ls (.int v :: st))) : oG p e below s Z R Ret T (mkF m pc Ls st) := by
  subst hp ; obtain ⟨_, _, _, _, _, Y, _⟩ := X; exact G.step fun t k => XS.iload Y.here E.1 rfl (hb E.2.2.2.1 hd) hl k
theorem gLloadN (E : oE p l e R s m args below meth c Z bytes own nm maxL ret) (X : oX p l e R s m args below meth c Z T V cells slots) {k : Fin 4} {v : Int64} (hd : decode bytes pc = .ok (.lload_n k, 1)) (hl : Ls[k.val]? = some (.val (.long v))) (hp : pc + 1 = q) (G : oG p e below s Z R Ret T (mkF m q Ls (.long v :: st))) : oG p e below s Z R Ret T (mkF m pc Ls st) := by
  subst hp ; obtain ⟨_, _, _, _, _, Y, _⟩ := X; exact G.step fun t k => XT.lloadN Y.here E.1 rfl (hb E.2.2.2.1 hd) hl k
theorem gLload (E : oE p l e R s m args below meth c Z bytes own nm maxL ret) (X : oX p l e R s m args below meth c Z T V cells slots) {k : Nat} {v : Int64} (hd : decode bytes pc = .ok (.lload k, 2)) (hl : Ls[k]? = some (.val (.long v))) (hp : pc + 2 = q) (G : oG p e below s Z R Ret T (mkF m q Ls (.long v :: st))) : oG p e below s Z R Ret T (mkF m pc Ls st) := by
  subst hp ; obtain ⟨_, _, _, _, _, Y, _⟩ := X; exact G.step fun t k => XT.lload Y.here E.1 rfl (hb E.2.2.2.1 hd) hl k
theorem gIconst (E : oE p l e R s m args below meth c Z bytes own nm maxL ret) (X : oX p l e R s m args below meth c Z T V cells slots) {i : Int} {v : Int32} (hd : decode bytes pc = .ok (.iconst i, 1)) (hv : Int32.ofInt i = v) (hp : pc + 1 = q) (G : oG p e below s Z R Ret T (mkF m q Ls (.int v :: st))) : oG p e below s Z R Ret T (mkF m pc Ls st) := by
  subst hp ; obtain ⟨_, _, _, _, _, Y, _⟩ := X; exact G.step fun t k => XT.iconstV Y.here E.1 rfl v (hb E.2.2.2.1 hd) hv k
theorem gBipush (E : oE p l e R s m args below meth c Z bytes own nm maxL ret) (X : oX p l e R s m args below meth c Z T V cells slots) {i : Int} {v : Int32} (hd : decode bytes pc = .ok (.bipush i, 2)) (hv : (Int8.ofInt i).toInt32 = v) (hp : pc + 2 = q) (G : oG p e below s Z R Ret T (mkF m q Ls (.int v :: st))) : oG p e below s Z R Ret T (mkF m pc Ls st) := by
  subst hp ; obtain ⟨_, _, _, _, _, Y, _⟩ := X; exact G.step fun t k => XT.bipushV Y.here E.1 rfl v (hb E.2.2.2.1 hd) hv k
theorem gSipush (E : oE p l e R s m args below meth c Z bytes own nm maxL ret) (X : oX p l e R s m args below meth c Z T V cells slots) {i : Int} {v : Int32} (hd : decode bytes pc = .ok (.sipush i, 3)) (hv : (Int16.ofInt i).toInt32 = v) (hp : pc + 3 = q) (G : oG p e below s Z R Ret T (mkF m q Ls (.int v :: st))) : oG p e below s Z R Ret T (mkF m pc Ls st) := by
  subst hp ; obtain ⟨_, _, _, _, _, Y, _⟩ := X; exact G.step fun t k => XT.sipushV Y.here E.1 rfl v (hb E.2.2.2.1 hd) hv k
theorem gLconst (E : oE p l e R s m args below meth c Z bytes own nm maxL ret) (X : oX p l e R s m args below meth c Z T V cells slots) {i : Fin 2} {v : Int64} (hd : decode bytes pc = .ok (.lconst i, 1)) (hv : Int64.ofNat i = v) (hp : pc + 1 = q) (G : oG p e below s Z R Ret T (mkF m q Ls (.long v :: st))) : oG p e below s Z R Ret T (mkF m pc Ls st) := by
  subst hp ; obtain ⟨_, _, _, _, _, Y, _⟩ := X; exact G.step fun t k => XT.lconstV Y.here E.1 rfl v (hb E.2.2.2.1 hd) hv k
theorem gNull (E : oE p l e R s m args below meth c Z bytes own nm maxL ret) (X : oX p l e R s m args below meth c Z T V cells slots)  (hd : decode bytes pc = .ok (.aconst_null, 1))  (hp : pc + 1 = q) (G : oG p e below s Z R Ret T (mkF m q Ls (.null :: st))) : oG p e below s Z R Ret T (mkF m pc Ls st) := by
  subst hp ; obtain ⟨_, _, _, _, _, Y, _⟩ := X; exact G.step fun t k => XS.aconstNull Y.here E.1 rfl (hb E.2.2.2.1 hd) k
theorem gIadd (E : oE p l e R s m args below meth c Z bytes own nm maxL ret) (X : oX p l e R s m args below meth c Z T V cells slots) {x y z : Int32} (hd : decode bytes pc = .ok (.iadd, 1)) (hz : (x + y) = z) (hp : pc + 1 = q) (G : oG p e below s Z R Ret T (mkF m q Ls (.int z :: st))) : oG p e below s Z R Ret T (mkF m pc Ls (.int y :: .int x :: st)) := by
  subst hp hz; obtain ⟨_, _, _, _, _, Y, _⟩ := X; exact G.step fun t k => XS.iadd Y.here E.1 rfl (hb E.2.2.2.1 hd) rfl k
theorem gIsub (E : oE p l e R s m args below meth c Z bytes own nm maxL ret) (X : oX p l e R s m args below meth c Z T V cells slots) {x y z : Int32} (hd : decode bytes pc = .ok (.isub, 1)) (hz : (x - y) = z) (hp : pc + 1 = q) (G : oG p e below s Z R Ret T (mkF m q Ls (.int z :: st))) : oG p e below s Z R Ret T (mkF m pc Ls (.int y :: .int x :: st)) := by
  subst hp hz; obtain ⟨_, _, _, _, _, Y, _⟩ := X; exact G.step fun t k => XS.isub Y.here E.1 rfl (hb E.2.2.2.1 hd) rfl k
theorem gIand (E : oE p l e R s m args below meth c Z bytes own nm maxL ret) (X : oX p l e R s m args below meth c Z T V cells slots) {x y z : Int32} (hd : decode bytes pc = .ok (.iand, 1)) (hz : (x &&& y) = z) (hp : pc + 1 = q) (G : oG p e below s Z R Ret T (mkF m q Ls (.int z :: st))) : oG p e below s Z R Ret T (mkF m pc Ls (.int y :: .int x :: st)) := by
  subst hp hz; obtain ⟨_, _, _, _, _, Y, _⟩ := X; exact G.step fun t k => XS.iand Y.here E.1 rfl (hb E.2.2.2.1 hd) rfl k
theorem gImul (E : oE p l e R s m args below meth c Z bytes own nm maxL ret) (X : oX p l e R s m args below meth c Z T V cells slots) {x y z : Int32} (hd : decode bytes pc = .ok (.imul, 1)) (hz : (x * y) = z) (hp : pc + 1 = q) (G : oG p e below s Z R Ret T (mkF m q Ls (.int z :: st))) : oG p e below s Z R Ret T (mkF m pc Ls (.int y :: .int x :: st)) := by
  subst hp hz; obtain ⟨_, _, _, _, _, Y, _⟩ := X; exact G.step fun t k => XS.imul Y.here E.1 rfl (hb E.2.2.2.1 hd) rfl k
theorem gIxor (E : oE p l e R s m args below meth c Z bytes own nm maxL ret) (X : oX p l e R s m args below meth c Z T V cells slots) {x y z : Int32} (hd : decode bytes pc = .ok (.ixor, 1)) (hz : (x ^^^ y) = z) (hp : pc + 1 = q) (G : oG p e below s Z R Ret T (mkF m q Ls (.int z :: st))) : oG p e below s Z R Ret T (mkF m pc Ls (.int y :: .int x :: st)) := by
  subst hp hz; obtain ⟨_, _, _, _, _, Y, _⟩ := X; exact G.step fun t k => XT.ixor Y.here E.1 rfl (hb E.2.2.2.1 hd) rfl k
theorem gIor (E : oE p l e R s m args below meth c Z bytes own nm maxL ret) (X : oX p l e R s m args below meth c Z T V cells slots) {x y z : Int32} (hd : decode bytes pc = .ok (.ior, 1)) (hz : (x ||| y) = z) (hp : pc + 1 = q) (G : oG p e below s Z R Ret T (mkF m q Ls (.int z :: st))) : oG p e below s Z R Ret T (mkF m pc Ls (.int y :: .int x :: st)) := by
  subst hp hz; obtain ⟨_, _, _, _, _, Y, _⟩ := X; exact G.step fun t k => XT.ior Y.here E.1 rfl (hb E.2.2.2.1 hd) rfl k
theorem gIshl (E : oE p l e R s m args below meth c Z bytes own nm maxL ret) (X : oX p l e R s m args below meth c Z T V cells slots) {x y z : Int32} (hd : decode bytes pc = .ok (.ishl, 1)) (hz : (x <<< (y &&& 31)) = z) (hp : pc + 1 = q) (G : oG p e below s Z R Ret T (mkF m q Ls (.int z :: st))) : oG p e below s Z R Ret T (mkF m pc Ls (.int y :: .int x :: st)) := by
  subst hp hz; obtain ⟨_, _, _, _, _, Y, _⟩ := X; exact G.step fun t k => XT.ishl Y.here E.1 rfl (hb E.2.2.2.1 hd) rfl k
theorem gIshr (E : oE p l e R s m args below meth c Z bytes own nm maxL ret) (X : oX p l e R s m args below meth c Z T V cells slots) {x y z : Int32} (hd : decode bytes pc = .ok (.ishr, 1)) (hz : (x >>> (y &&& 31)) = z) (hp : pc + 1 = q) (G : oG p e below s Z R Ret T (mkF m q Ls (.int z :: st))) : oG p e below s Z R Ret T (mkF m pc Ls (.int y :: .int x :: st)) := by
  subst hp hz; obtain ⟨_, _, _, _, _, Y, _⟩ := X; exact G.step fun t k => XT.ishr Y.here E.1 rfl (hb E.2.2.2.1 hd) rfl k
theorem gIushr (E : oE p l e R s m args below meth c Z bytes own nm maxL ret) (X : oX p l e R s m args below meth c Z T V cells slots) {x y z : Int32} (hd : decode bytes pc = .ok (.iushr, 1)) (hz : (XT.ushr x y) = z) (hp : pc + 1 = q) (G : oG p e below s Z R Ret T (mkF m q Ls (.int z :: st))) : oG p e below s Z R Ret T (mkF m pc Ls (.int y :: .int x :: st)) := by
  subst hp hz; obtain ⟨_, _, _, _, _, Y, _⟩ := X; exact G.step fun t k => XT.iushr Y.here E.1 rfl (hb E.2.2.2.1 hd) rfl k
theorem gIdiv (E : oE p l e R s m args below meth c Z bytes own nm maxL ret) (X : oX p l e R s m args below meth c Z T V cells slots) {x y z : Int32} (hd : decode bytes pc = .ok (.idiv, 1)) (hy : y ≠ 0) (hz : (x / y) = z) (hp : pc + 1 = q) (G : oG p e below s Z R Ret T (mkF m q Ls (.int z :: st))) : oG p e below s Z R Ret T (mkF m pc Ls (.int y :: .int x :: st)) := by
  subst hp hz; obtain ⟨_, _, _, _, _, Y, _⟩ := X; exact G.step fun t k => XS.idiv Y.here E.1 rfl (hb E.2.2.2.1 hd) rfl hy k
theorem gIrem (E : oE p l e R s m args below meth c Z bytes own nm maxL ret) (X : oX p l e R s m args below meth c Z T V cells slots) {x y z : Int32} (hd : decode bytes pc = .ok (.irem, 1)) (hy : y ≠ 0) (hz : (x - x / y * y) = z) (hp : pc + 1 = q) (G : oG p e below s Z R Ret T (mkF m q Ls (.int z :: st))) : oG p e below s Z R Ret T (mkF m pc Ls (.int y :: .int x :: st)) := by
  subst hp hz; obtain ⟨_, _, _, _, _, Y, _⟩ := X; exact G.step fun t k => XS.irem Y.here E.1 rfl (hb E.2.2.2.1 hd) rfl hy k
theorem gIneg (E : oE p l e R s m args below meth c Z bytes own nm maxL ret) (X : oX p l e R s m args below meth c Z T V cells slots) {x z : Int32} (hd : decode bytes pc = .ok (.ineg, 1)) (hz : (-x) = z) (hp : pc + 1 = q) (G : oG p e below s Z R Ret T (mkF m q Ls (.int z :: st))) : oG p e below s Z R Ret T (mkF m pc Ls (.int x :: st)) := by
  subst hp hz; obtain ⟨_, _, _, _, _, Y, _⟩ := X; exact G.step fun t k => XS.ineg Y.here E.1 rfl (hb E.2.2.2.1 hd) rfl k
theorem gLadd (E : oE p l e R s m args below meth c Z bytes own nm maxL ret) (X : oX p l e R s m args below meth c Z T V cells slots) {x y z : Int64} (hd : decode bytes pc = .ok (.ladd, 1)) (hz : (x + y) = z) (hp : pc + 1 = q) (G : oG p e below s Z R Ret T (mkF m q Ls (.long z :: st))) : oG p e below s Z R Ret T (mkF m pc Ls (.long y :: .long x :: st)) := by
  subst hp hz; obtain ⟨_, _, _, _, _, Y, _⟩ := X; exact G.step fun t k => XT.ladd Y.here E.1 rfl (hb E.2.2.2.1 hd) rfl k
theorem gLsub (E : oE p l e R s m args below meth c Z bytes own nm maxL ret) (X : oX p l e R s m args below meth c Z T V cells slots) {x y z : Int64} (hd : decode bytes pc = .ok (.lsub, 1)) (hz : (x - y) = z) (hp : pc + 1 = q) (G : oG p e below s Z R Ret T (mkF m q Ls (.long z :: st))) : oG p e below s Z R Ret T (mkF m pc Ls (.long y :: .long x :: st)) := by
  subst hp hz; obtain ⟨_, _, _, _, _, Y, _⟩ := X; exact G.step fun t k => XT.lsub Y.here E.1 rfl (hb E.2.2.2.1 hd) rfl k
theorem gLmul (E : oE p l e R s m args below meth c Z bytes own nm maxL ret) (X : oX p l e R s m args below meth c Z T V cells slots) {x y z : Int64} (hd : decode bytes pc = .ok (.lmul, 1)) (hz : (x * y) = z) (hp : pc + 1 = q) (G : oG p e below s Z R Ret T (mkF m q Ls (.long z :: st))) : oG p e below s Z R Ret T (mkF m pc Ls (.long y :: .long x :: st)) := by
  subst hp hz; obtain ⟨_, _, _, _, _, Y, _⟩ := X; exact G.step fun t k => XT.lmul Y.here E.1 rfl (hb E.2.2.2.1 hd) rfl k
theorem gLand (E : oE p l e R s m args below meth c Z bytes own nm maxL ret) (X : oX p l e R s m args below meth c Z T V cells slots) {x y z : Int64} (hd : decode bytes pc = .ok (.land, 1)) (hz : (x &&& y) = z) (hp : pc + 1 = q) (G : oG p e below s Z R Ret T (mkF m q Ls (.long z :: st))) : oG p e below s Z R Ret T (mkF m pc Ls (.long y :: .long x :: st)) := by
  subst hp hz; obtain ⟨_, _, _, _, _, Y, _⟩ := X; exact G.step fun t k => XT.land Y.here E.1 rfl (hb E.2.2.2.1 hd) rfl k
theorem gLor (E : oE p l e R s m args below meth c Z bytes own nm maxL ret) (X : oX p l e R s m args below meth c Z T V cells slots) {x y z : Int64} (hd : decode bytes pc = .ok (.lor, 1)) (hz : (x ||| y) = z) (hp : pc + 1 = q) (G : oG p e below s Z R Ret T (mkF m q Ls (.long z :: st))) : oG p e below s Z R Ret T (mkF m pc Ls (.long y :: .long x :: st)) := by
  subst hp hz; obtain ⟨_, _, _, _, _, Y, _⟩ := X; exact G.step fun t k => XT.lor Y.here E.1 rfl (hb E.2.2.2.1 hd) rfl k
theorem gLxor (E : oE p l e R s m args below meth c Z bytes own nm maxL ret) (X : oX p l e R s m args below meth c Z T V cells slots) {x y z : Int64} (hd : decode bytes pc = .ok (.lxor, 1)) (hz : (x ^^^ y) = z) (hp : pc + 1 = q) (G : oG p e below s Z R Ret T (mkF m q Ls (.long z :: st))) : oG p e below s Z R Ret T (mkF m pc Ls (.long y :: .long x :: st)) := by
  subst hp hz; obtain ⟨_, _, _, _, _, Y, _⟩ := X; exact G.step fun t k => XT.lxor Y.here E.1 rfl (hb E.2.2.2.1 hd) rfl k
theorem gLdiv (E : oE p l e R s m args below meth c Z bytes own nm maxL ret) (X : oX p l e R s m args below meth c Z T V cells slots) {x y z : Int64} (hd : decode bytes pc = .ok (.ldiv, 1)) (hy : y ≠ 0) (hz : (x / y) = z) (hp : pc + 1 = q) (G : oG p e below s Z R Ret T (mkF m q Ls (.long z :: st))) : oG p e below s Z R Ret T (mkF m pc Ls (.long y :: .long x :: st)) := by
  subst hp hz; obtain ⟨_, _, _, _, _, Y, _⟩ := X; exact G.step fun t k => XT.ldiv Y.here E.1 rfl (hb E.2.2.2.1 hd) rfl hy k
theorem gLrem (E : oE p l e R s m args below meth c Z bytes own nm maxL ret) (X : oX p l e R s m args below meth c Z T V cells slots) {x y z : Int64} (hd : decode bytes pc = .ok (.lrem, 1)) (hy : y ≠ 0) (hz : (x - x / y * y) = z) (hp : pc + 1 = q) (G : oG p e below s Z R Ret T (mkF m q Ls (.long z :: st))) : oG p e below s Z R Ret T (mkF m pc Ls (.long y :: .long x :: st)) := by
  subst hp hz; obtain ⟨_, _, _, _, _, Y, _⟩ := X; exact G.step fun t k => XT.lrem Y.here E.1 rfl (hb E.2.2.2.1 hd) rfl hy k
theorem gLneg (E : oE p l e R s m args below meth c Z bytes own nm maxL ret) (X : oX p l e R s m args below meth c Z T V cells slots) {x z : Int64} (hd : decode bytes pc = .ok (.lneg, 1)) (hz : (-x) = z) (hp : pc + 1 = q) (G : oG p e below s Z R Ret T (mkF m q Ls (.long z :: st))) : oG p e below s Z R Ret T (mkF m pc Ls (.long x :: st)) := by
  subst hp hz; obtain ⟨_, _, _, _, _, Y, _⟩ := X; exact G.step fun t k => XT.lneg Y.here E.1 rfl (hb E.2.2.2.1 hd) rfl k
theorem gLshl (E : oE p l e R s m args below meth c Z bytes own nm maxL ret) (X : oX p l e R s m args below meth c Z T V cells slots) {x z : Int64} {y : Int32} (hd : decode bytes pc = .ok (.lshl, 1)) (hz : (x <<< (y.toInt64 &&& 63)) = z) (hp : pc + 1 = q) (G : oG p e below s Z R Ret T (mkF m q Ls (.long z :: st))) : oG p e below s Z R Ret T (mkF m pc Ls (.int y :: .long x :: st)) := by
  subst hp hz; obtain ⟨_, _, _, _, _, Y, _⟩ := X; exact G.step fun t k => XT.lshl Y.here E.1 rfl (hb E.2.2.2.1 hd) rfl k
theorem gLshr (E : oE p l e R s m args below meth c Z bytes own nm maxL ret) (X : oX p l e R s m args below meth c Z T V cells slots) {x z : Int64} {y : Int32} (hd : decode bytes pc = .ok (.lshr, 1)) (hz : (x >>> (y.toInt64 &&& 63)) = z) (hp : pc + 1 = q) (G : oG p e below s Z R Ret T (mkF m q Ls (.long z :: st))) : oG p e below s Z R Ret T (mkF m pc Ls (.int y :: .long x :: st)) := by
  subst hp hz; obtain ⟨_, _, _, _, _, Y, _⟩ := X; exact G.step fun t k => XT.lshr Y.here E.1 rfl (hb E.2.2.2.1 hd) rfl k
theorem gLushr (E : oE p l e R s m args below meth c Z bytes own nm maxL ret) (X : oX p l e R s m args below meth c Z T V cells slots) {x z : Int64} {y : Int32} (hd : decode bytes pc = .ok (.lushr, 1)) (hz : (XT.ushrL x y) = z) (hp : pc + 1 = q) (G : oG p e below s Z R Ret T (mkF m q Ls (.long z :: st))) : oG p e below s Z R Ret T (mkF m pc Ls (.int y :: .long x :: st)) := by
  subst hp hz; obtain ⟨_, _, _, _, _, Y, _⟩ := X; exact G.step fun t k => XT.lushr Y.here E.1 rfl (hb E.2.2.2.1 hd) rfl k
theorem gLcmp (E : oE p l e R s m args below meth c Z bytes own nm maxL ret) (X : oX p l e R s m args below meth c Z T V cells slots) {x y : Int64} (hd : decode bytes pc = .ok (.lcmp, 1))  (hp : pc + 1 = q) (G : oG p e below s Z R Ret T (mkF m q Ls (.int (XT.cmpL x y) :: st))) : oG p e below s Z R Ret T (mkF m pc Ls (.long y :: .long x :: st)) := by
  subst hp ; obtain ⟨_, _, _, _, _, Y, _⟩ := X; exact G.step fun t k => XT.lcmp Y.here E.1 rfl (hb E.2.2.2.1 hd) rfl k
theorem gI2l (E : oE p l e R s m args below meth c Z bytes own nm maxL ret) (X : oX p l e R s m args below meth c Z T V cells slots) {x : Int32} {z : Int64} (hd : decode bytes pc = .ok (.i2l, 1)) (hz : x.toInt64 = z) (hp : pc + 1 = q) (G : oG p e below s Z R Ret T (mkF m q Ls (.long z :: st))) : oG p e below s Z R Ret T (mkF m pc Ls (.int x :: st)) := by
  subst hp hz; obtain ⟨_, _, _, _, _, Y, _⟩ := X; exact G.step fun t k => XT.i2l Y.here E.1 rfl (hb E.2.2.2.1 hd) rfl k
theorem gL2i (E : oE p l e R s m args below meth c Z bytes own nm maxL ret) (X : oX p l e R s m args below meth c Z T V cells slots) {x : Int64} {z : Int32} (hd : decode bytes pc = .ok (.l2i, 1)) (hz : x.toInt32 = z) (hp : pc + 1 = q) (G : oG p e below s Z R Ret T (mkF m q Ls (.int z :: st))) : oG p e below s Z R Ret T (mkF m pc Ls (.long x :: st)) := by
  subst hp hz; obtain ⟨_, _, _, _, _, Y, _⟩ := X; exact G.step fun t k => XT.l2i Y.here E.1 rfl (hb E.2.2.2.1 hd) rfl k
theorem gI2b (E : oE p l e R s m args below meth c Z bytes own nm maxL ret) (X : oX p l e R s m args below meth c Z T V cells slots) {x z : Int32} (hd : decode bytes pc = .ok (.i2b, 1)) (hz : x.toInt8.toInt32 = z) (hp : pc + 1 = q) (G : oG p e below s Z R Ret T (mkF m q Ls (.int z :: st))) : oG p e below s Z R Ret T (mkF m pc Ls (.int x :: st)) := by
  subst hp hz; obtain ⟨_, _, _, _, _, Y, _⟩ := X; exact G.step fun t k => XT.i2b Y.here E.1 rfl (hb E.2.2.2.1 hd) rfl k
theorem gI2c (E : oE p l e R s m args below meth c Z bytes own nm maxL ret) (X : oX p l e R s m args below meth c Z T V cells slots) {x z : Int32} (hd : decode bytes pc = .ok (.i2c, 1)) (hz : x.toUInt32.toUInt16.toUInt32.toInt32 = z) (hp : pc + 1 = q) (G : oG p e below s Z R Ret T (mkF m q Ls (.int z :: st))) : oG p e below s Z R Ret T (mkF m pc Ls (.int x :: st)) := by
  subst hp hz; obtain ⟨_, _, _, _, _, Y, _⟩ := X; exact G.step fun t k => XT.i2c Y.here E.1 rfl (hb E.2.2.2.1 hd) rfl k
theorem gI2s (E : oE p l e R s m args below meth c Z bytes own nm maxL ret) (X : oX p l e R s m args below meth c Z T V cells slots) {x z : Int32} (hd : decode bytes pc = .ok (.i2s, 1)) (hz : x.toInt16.toInt32 = z) (hp : pc + 1 = q) (G : oG p e below s Z R Ret T (mkF m q Ls (.int z :: st))) : oG p e below s Z R Ret T (mkF m pc Ls (.int x :: st)) := by
  subst hp hz; obtain ⟨_, _, _, _, _, Y, _⟩ := X; exact G.step fun t k => XT.i2s Y.here E.1 rfl (hb E.2.2.2.1 hd) rfl k
theorem gDup (E : oE p l e R s m args below meth c Z bytes own nm maxL ret) (X : oX p l e R s m args below meth c Z T V cells slots) {v : Value} (hd : decode bytes pc = .ok (.dup, 1)) (hc : v.category = 1) (hp : pc + 1 = q) (G : oG p e below s Z R Ret T (mkF m q Ls (v :: v :: st))) : oG p e below s Z R Ret T (mkF m pc Ls (v :: st)) := by
  subst hp ; obtain ⟨_, _, _, _, _, Y, _⟩ := X; exact G.step fun t k => XS.dup Y.here E.1 rfl (hb E.2.2.2.1 hd) rfl hc k
theorem gPop (E : oE p l e R s m args below meth c Z bytes own nm maxL ret) (X : oX p l e R s m args below meth c Z T V cells slots) {v : Value} (hd : decode bytes pc = .ok (.pop, 1)) (hc : v.category = 1) (hp : pc + 1 = q) (G : oG p e below s Z R Ret T (mkF m q Ls st)) : oG p e below s Z R Ret T (mkF m pc Ls (v :: st)) := by
  subst hp ; obtain ⟨_, _, _, _, _, Y, _⟩ := X; exact G.step fun t k => XT.pop Y.here E.1 rfl (hb E.2.2.2.1 hd) rfl hc k
theorem gDupX1 (E : oE p l e R s m args below meth c Z bytes own nm maxL ret) (X : oX p l e R s m args below meth c Z T V cells slots) {v w : Value} (hd : decode bytes pc = .ok (.dup_x1, 1)) (hc : v.category = 1) (hc' : w.category = 1) (hp : pc + 1 = q) (G : oG p e below s Z R Ret T (mkF m q Ls (v :: w :: v :: st))) : oG p e below s Z R Ret T (mkF m pc Ls (v :: w :: st)) := by
  subst hp ; obtain ⟨_, _, _, _, _, Y, _⟩ := X; exact G.step fun t k => XT.dupX1 Y.here E.1 rfl (hb E.2.2.2.1 hd) rfl hc hc' k
theorem gDup2 (E : oE p l e R s m args below meth c Z bytes own nm maxL ret) (X : oX p l e R s m args below meth c Z T V cells slots) {v w : Value} (hd : decode bytes pc = .ok (.dup2, 1)) (hc : v.category = 1) (hc' : w.category = 1) (hp : pc + 1 = q) (G : oG p e below s Z R Ret T (mkF m q Ls (v :: w :: v :: w :: st))) : oG p e below s Z R Ret T (mkF m pc Ls (v :: w :: st)) := by
  subst hp ; obtain ⟨_, _, _, _, _, Y, _⟩ := X; exact G.step fun t k => XT.dup2 Y.here E.1 rfl (hb E.2.2.2.1 hd) rfl hc hc' k
theorem gDup2L (E : oE p l e R s m args below meth c Z bytes own nm maxL ret) (X : oX p l e R s m args below meth c Z T V cells slots) {x : Int64} (hd : decode bytes pc = .ok (.dup2, 1))  (hp : pc + 1 = q) (G : oG p e below s Z R Ret T (mkF m q Ls (.long x :: .long x :: st))) : oG p e below s Z R Ret T (mkF m pc Ls (.long x :: st)) := by
  subst hp ; obtain ⟨_, _, _, _, _, Y, _⟩ := X; exact G.step fun t k => XT.dup2L Y.here E.1 rfl (hb E.2.2.2.1 hd) rfl k
theorem gIstoreN (E : oE p l e R s m args below meth c Z bytes own nm maxL ret) (X : oX p l e R s m args below meth c Z T V cells slots) {k : Fin 4} {x : Int32} {l' : Array Slot} (hd : decode bytes pc = .ok (.istore_n k, 1)) (hl : storeLocals Ls k.val (.int x) = some l') (hp : pc + 1 = q) (G : oG p e below s Z R Ret T (mkF m q l' st)) : oG p e below s Z R Ret T (mkF m pc Ls (.int x :: st)) := by
  subst hp ; obtain ⟨_, _, _, _, _, Y, _⟩ := X; exact G.step fun t k => XS.istoreN Y.here E.1 rfl (hb E.2.2.2.1 hd) rfl hl k
theorem gIstore (E : oE p l e R s m args below meth c Z bytes own nm maxL ret) (X : oX p l e R s m args below meth c Z T V cells slots) {k : Nat} {x : Int32} {l' : Array Slot} (hd : decode bytes pc = .ok (.istore k, 2)) (hl : storeLocals Ls k (.int x) = some l') (hp : pc + 2 = q) (G : oG p e below s Z R Ret T (mkF m q l' st)) : oG p e below s Z R Ret T (mkF m pc Ls (.int x :: st)) := by
  subst hp ; obtain ⟨_, _, _, _, _, Y, _⟩ := X; exact G.step fun t k => XS.istore Y.here E.1 rfl (hb E.2.2.2.1 hd) rfl hl k
theorem gLstoreN (E : oE p l e R s m args below meth c Z bytes own nm maxL ret) (X : oX p l e R s m args below meth c Z T V cells slots) {k : Fin 4} {x : Int64} {l' : Array Slot} (hd : decode bytes pc = .ok (.lstore_n k, 1)) (hl : storeLocals Ls k.val (.long x) = some l') (hp : pc + 1 = q) (G : oG p e below s Z R Ret T (mkF m q l' st)) : oG p e below s Z R Ret T (mkF m pc Ls (.long x :: st)) := by
  subst hp ; obtain ⟨_, _, _, _, _, Y, _⟩ := X; exact G.step fun t k => XT.lstoreN Y.here E.1 rfl (hb E.2.2.2.1 hd) rfl hl k
theorem gLstore (E : oE p l e R s m args below meth c Z bytes own nm maxL ret) (X : oX p l e R s m args below meth c Z T V cells slots) {k : Nat} {x : Int64} {l' : Array Slot} (hd : decode bytes pc = .ok (.lstore k, 2)) (hl : storeLocals Ls k (.long x) = some l') (hp : pc + 2 = q) (G : oG p e below s Z R Ret T (mkF m q l' st)) : oG p e below s Z R Ret T (mkF m pc Ls (.long x :: st)) := by
  subst hp ; obtain ⟨_, _, _, _, _, Y, _⟩ := X; exact G.step fun t k => XT.lstore Y.here E.1 rfl (hb E.2.2.2.1 hd) rfl hl k
theorem gAstoreN (E : oE p l e R s m args below meth c Z bytes own nm maxL ret) (X : oX p l e R s m args below meth c Z T V cells slots) {k : Fin 4} {v : Value} {l' : Array Slot} (hd : decode bytes pc = .ok (.astore_n k, 1)) (hv : v.isRef = true) (hl : storeLocals Ls k.val v = some l') (hp : pc + 1 = q) (G : oG p e below s Z R Ret T (mkF m q l' st)) : oG p e below s Z R Ret T (mkF m pc Ls (v :: st)) := by
  subst hp ; obtain ⟨_, _, _, _, _, Y, _⟩ := X; exact G.step fun t k => XS.astoreN Y.here E.1 rfl (hb E.2.2.2.1 hd) rfl hv hl k
theorem gAstore (E : oE p l e R s m args below meth c Z bytes own nm maxL ret) (X : oX p l e R s m args below meth c Z T V cells slots) {k : Nat} {v : Value} {l' : Array Slot} (hd : decode bytes pc = .ok (.astore k, 2)) (hv : v.isRef = true) (hl : storeLocals Ls k v = some l') (hp : pc + 2 = q) (G : oG p e below s Z R Ret T (mkF m q l' st)) : oG p e below s Z R Ret T (mkF m pc Ls (v :: st)) := by
  subst hp ; obtain ⟨_, _, _, _, _, Y, _⟩ := X; exact G.step fun t k => XS.astore Y.here E.1 rfl (hb E.2.2.2.1 hd) rfl hv hl k
theorem gIinc (E : oE p l e R s m args below meth c Z bytes own nm maxL ret) (X : oX p l e R s m args below meth c Z T V cells slots) {k : Nat} {cst : Int} {x : Int32} {l' : Array Slot} (v : Int32) (hd : decode bytes pc = .ok (.iinc k cst, 3)) (hv : Int32.ofInt cst = v) (hl : Ls[k]? = some (.val (.int x))) (hl' : storeLocals Ls k (.int (x + v)) = some l') (hp : pc + 3 = q) (G : oG p e below s Z R Ret T (mkF m q l' st)) : oG p e below s Z R Ret T (mkF m pc Ls st) := by
  subst hp ; obtain ⟨_, _, _, _, _, Y, _⟩ := X; exact G.step fun t k => XT.iincV Y.here E.1 rfl v (hb E.2.2.2.1 hd) hv hl hl' k
theorem gIincV (E : oE p l e R s m args below meth c Z bytes own nm maxL ret) (X : oX p l e R s m args below meth c Z T V cells slots) {k : Nat} {cst : Int} {x : Int32} {l' : Array Slot} (v z : Int32) (hd : decode bytes pc = .ok (.iinc k cst, 3)) (hv : Int32.ofInt cst = v) (hl : Ls[k]? = some (.val (.int x))) (hz : x + v = z) (hl' : storeLocals Ls k (.int z) = some l') (hp : pc + 3 = q) (G : oG p e below s Z R Ret T (mkF m q l' st)) : oG p e below s Z R Ret T (mkF m pc Ls st) := by
  subst hp hz; obtain ⟨_, _, _, _, _, Y, _⟩ := X; exact G.step fun t k => XT.iincV Y.here E.1 rfl v (hb E.2.2.2.1 hd) hv hl hl' k
theorem gGoto (E : oE p l e R s m args below meth c Z bytes own nm maxL ret) (X : oX p l e R s m args below meth c Z T V cells slots) {o : Int} (hd : decode bytes pc = .ok (.goto o, 3)) (ho : 0 ≤ (pc : Int) + o) (hp : ((pc : Int) + o).toNat = q) (G : oG p e below s Z R Ret T (mkF m q Ls st)) : oG p e below s Z R Ret T (mkF m pc Ls st) := by
  obtain ⟨_, _, _, _, _, Y, _⟩ := X; exact G.step fun t k => XS.goto Y.here E.1 rfl (pc0 := pc) rfl (hb E.2.2.2.1 hd) ho hp k
theorem gIc_eq (E : oE p l e R s m args below meth c Z bytes own nm maxL ret) (X : oX p l e R s m args below meth c Z T V cells slots) {x y : Int32} {o : Int} {q' : Nat} (hd : decode bytes pc = .ok (.if_icmp .eq o, 3)) (ho : 0 ≤ (pc : Int) + o) (hp : ((pc : Int) + o).toNat = q) (hp' : pc + 3 = q') (G1 : x = y → oG p e below s Z R Ret T (mkF m q Ls st)) (G0 : ¬ (x = y) → oG p e below s Z R Ret T (mkF m q' Ls st)) : oG p e below s Z R Ret T (mkF m pc Ls (.int y :: .int x :: st)) := by
  obtain ⟨_, _, _, _, _, Y, _⟩ := X
  by_cases hq : x = y
  · exact (G1 hq).step fun t k => XS.icmpYes Y.here E.1 rfl (pc0 := pc) rfl (hb E.2.2.2.1 hd) rfl (XT.ii_eq_t hq) ho hp k
  · subst hp'; exact (G0 hq).step fun t k => XS.icmpNo Y.here E.1 rfl (hb E.2.2.2.1 hd) rfl (XT.ii_eq_f hq) k
theorem gIf_eq (E : oE p l e R s m args below meth c Z bytes own nm maxL ret) (X : oX p l e R s m args below meth c Z T V cells slots) {x : Int32} {o : Int} {q' : Nat} (hd : decode bytes pc = .ok (.ifCond .eq o, 3)) (ho : 0 ≤ (pc : Int) + o) (hp : ((pc : Int) + o).toNat = q) (hp' : pc + 3 = q') (G1 : x = 0 → oG p e below s Z R Ret T (mkF m q Ls st)) (G0 : ¬ (x = 0) → oG p e below s Z R Ret T (mkF m q' Ls st)) : oG p e below s Z R Ret T (mkF m pc Ls (.int x :: st)) := by
  obtain ⟨_, _, _, _, _, Y, _⟩ := X
  by_cases hq : x = 0
  · exact (G1 hq).step fun t k => XS.ifYes Y.here E.1 rfl (pc0 := pc) rfl (hb E.2.2.2.1 hd) rfl (XT.i0_eq_t hq) ho hp k
  · subst hp'; exact (G0 hq).step fun t k => XS.ifNo Y.here E.1 rfl (hb E.2.2.2.1 hd) rfl (XT.i0_eq_f hq) k
theorem gLc_eq (E : oE p l e R s m args below meth c Z bytes own nm maxL ret) (X : oX p l e R s m args below meth c Z T V cells slots) {x y : Int64} {o : Int} {q' : Nat} (hd : decode bytes pc = .ok (.ifCond .eq o, 3)) (ho : 0 ≤ (pc : Int) + o) (hp : ((pc : Int) + o).toNat = q) (hp' : pc + 3 = q') (G1 : x = y → oG p e below s Z R Ret T (mkF m q Ls st)) (G0 : ¬ (x = y) → oG p e below s Z R Ret T (mkF m q' Ls st)) : oG p e below s Z R Ret T (mkF m pc Ls (.int (XT.cmpL x y) :: st)) := by
  obtain ⟨_, _, _, _, _, Y, _⟩ := X
  by_cases hq : x = y
  · exact (G1 hq).step fun t k => XS.ifYes Y.here E.1 rfl (pc0 := pc) rfl (hb E.2.2.2.1 hd) rfl (XT.ll_eq_t hq) ho hp k
  · subst hp'; exact (G0 hq).step fun t k => XS.ifNo Y.here E.1 rfl (hb E.2.2.2.1 hd) rfl (XT.ll_eq_f hq) k
theorem gIc_ne (E : oE p l e R s m args below meth c Z bytes own nm maxL ret) (X : oX p l e R s m args below meth c Z T V cells slots) {x y : Int32} {o : Int} {q' : Nat} (hd : decode bytes pc = .ok (.if_icmp .ne o, 3)) (ho : 0 ≤ (pc : Int) + o) (hp : ((pc : Int) + o).toNat = q) (hp' : pc + 3 = q') (G1 : ¬ (x = y) → oG p e below s Z R Ret T (mkF m q Ls st)) (G0 : x = y → oG p e below s Z R Ret T (mkF m q' Ls st)) : oG p e below s Z R Ret T (mkF m pc Ls (.int y :: .int x :: st)) := by
  obtain ⟨_, _, _, _, _, Y, _⟩ := X
  by_cases hq : x = y
  · subst hp'; exact (G0 hq).step fun t k => XS.icmpNo Y.here E.1 rfl (hb E.2.2.2.1 hd) rfl (XT.ii_ne_f hq) k
  · exact (G1 hq).step fun t k => XS.icmpYes Y.here E.1 rfl (pc0 := pc) rfl (hb E.2.2.2.1 hd) rfl (XT.ii_ne_t hq) ho hp k
theorem gIf_ne (E : oE p l e R s m args below meth c Z bytes own nm maxL ret) (X : oX p l e R s m args below meth c Z T V cells slots) {x : Int32} {o : Int} {q' : Nat} (hd : decode bytes pc = .ok (.ifCond .ne o, 3)) (ho : 0 ≤ (pc : Int) + o) (hp : ((pc : Int) + o).toNat = q) (hp' : pc + 3 = q') (G1 : ¬ (x = 0) → oG p e below s Z R Ret T (mkF m q Ls st)) (G0 : x = 0 → oG p e below s Z R Ret T (mkF m q' Ls st)) : oG p e below s Z R Ret T (mkF m pc Ls (.int x :: st)) := by
  obtain ⟨_, _, _, _, _, Y, _⟩ := X
  by_cases hq : x = 0
  · subst hp'; exact (G0 hq).step fun t k => XS.ifNo Y.here E.1 rfl (hb E.2.2.2.1 hd) rfl (XT.i0_ne_f hq) k
  · exact (G1 hq).step fun t k => XS.ifYes Y.here E.1 rfl (pc0 := pc) rfl (hb E.2.2.2.1 hd) rfl (XT.i0_ne_t hq) ho hp k
theorem gLc_ne (E : oE p l e R s m args below meth c Z bytes own nm maxL ret) (X : oX p l e R s m args below meth c Z T V cells slots) {x y : Int64} {o : Int} {q' : Nat} (hd : decode bytes pc = .ok (.ifCond .ne o, 3)) (ho : 0 ≤ (pc : Int) + o) (hp : ((pc : Int) + o).toNat = q) (hp' : pc + 3 = q') (G1 : ¬ (x = y) → oG p e below s Z R Ret T (mkF m q Ls st)) (G0 : x = y → oG p e below s Z R Ret T (mkF m q' Ls st)) : oG p e below s Z R Ret T (mkF m pc Ls (.int (XT.cmpL x y) :: st)) := by
  obtain ⟨_, _, _, _, _, Y, _⟩ := X
  by_cases hq : x = y
  · subst hp'; exact (G0 hq).step fun t k => XS.ifNo Y.here E.1 rfl (hb E.2.2.2.1 hd) rfl (XT.ll_ne_f hq) k
  · exact (G1 hq).step fun t k => XS.ifYes Y.here E.1 rfl (pc0 := pc) rfl (hb E.2.2.2.1 hd) rfl (XT.ll_ne_t hq) ho hp k
theorem gIc_lt (E : oE p l e R s m args below meth c Z bytes own nm maxL ret) (X : oX p l e R s m args below meth c Z T V cells slots) {x y : Int32} {o : Int} {q' : Nat} (hd : decode bytes pc = .ok (.if_icmp .lt o, 3)) (ho : 0 ≤ (pc : Int) + o) (hp : ((pc : Int) + o).toNat = q) (hp' : pc + 3 = q') (G1 : x < y → oG p e below s Z R Ret T (mkF m q Ls st)) (G0 : ¬ (x < y) → oG p e below s Z R Ret T (mkF m q' Ls st)) : oG p e below s Z R Ret T (mkF m pc Ls (.int y :: .int x :: st)) := by
  obtain ⟨_, _, _, _, _, Y, _⟩ := X
  by_cases hq : x < y
  · exact (G1 hq).step fun t k => XS.icmpYes Y.here E.1 rfl (pc0 := pc) rfl (hb E.2.2.2.1 hd) rfl (XT.ii_lt_t hq) ho hp k
  · subst hp'; exact (G0 hq).step fun t k => XS.icmpNo Y.here E.1 rfl (hb E.2.2.2.1 hd) rfl (XT.ii_lt_f hq) k
theorem gIf_lt (E : oE p l e R s m args below meth c Z bytes own nm maxL ret) (X : oX p l e R s m args below meth c Z T V cells slots) {x : Int32} {o : Int} {q' : Nat} (hd : decode bytes pc = .ok (.ifCond .lt o, 3)) (ho : 0 ≤ (pc : Int) + o) (hp : ((pc : Int) + o).toNat = q) (hp' : pc + 3 = q') (G1 : x < 0 → oG p e below s Z R Ret T (mkF m q Ls st)) (G0 : ¬ (x < 0) → oG p e below s Z R Ret T (mkF m q' Ls st)) : oG p e below s Z R Ret T (mkF m pc Ls (.int x :: st)) := by
  obtain ⟨_, _, _, _, _, Y, _⟩ := X
  by_cases hq : x < 0
  · exact (G1 hq).step fun t k => XS.ifYes Y.here E.1 rfl (pc0 := pc) rfl (hb E.2.2.2.1 hd) rfl (XT.i0_lt_t hq) ho hp k
  · subst hp'; exact (G0 hq).step fun t k => XS.ifNo Y.here E.1 rfl (hb E.2.2.2.1 hd) rfl (XT.i0_lt_f hq) k
theorem gLc_lt (E : oE p l e R s m args below meth c Z bytes own nm maxL ret) (X : oX p l e R s m args below meth c Z T V cells slots) {x y : Int64} {o : Int} {q' : Nat} (hd : decode bytes pc = .ok (.ifCond .lt o, 3)) (ho : 0 ≤ (pc : Int) + o) (hp : ((pc : Int) + o).toNat = q) (hp' : pc + 3 = q') (G1 : x < y → oG p e below s Z R Ret T (mkF m q Ls st)) (G0 : ¬ (x < y) → oG p e below s Z R Ret T (mkF m q' Ls st)) : oG p e below s Z R Ret T (mkF m pc Ls (.int (XT.cmpL x y) :: st)) := by
  obtain ⟨_, _, _, _, _, Y, _⟩ := X
  by_cases hq : x < y
  · exact (G1 hq).step fun t k => XS.ifYes Y.here E.1 rfl (pc0 := pc) rfl (hb E.2.2.2.1 hd) rfl (XT.ll_lt_t hq) ho hp k
  · subst hp'; exact (G0 hq).step fun t k => XS.ifNo Y.here E.1 rfl (hb E.2.2.2.1 hd) rfl (XT.ll_lt_f hq) k
theorem gIc_ge (E : oE p l e R s m args below meth c Z bytes own nm maxL ret) (X : oX p l e R s m args below meth c Z T V cells slots) {x y : Int32} {o : Int} {q' : Nat} (hd : decode bytes pc = .ok (.if_icmp .ge o, 3)) (ho : 0 ≤ (pc : Int) + o) (hp : ((pc : Int) + o).toNat = q) (hp' : pc + 3 = q') (G1 : ¬ (x < y) → oG p e below s Z R Ret T (mkF m q Ls st)) (G0 : x < y → oG p e below s Z R Ret T (mkF m q' Ls st)) : oG p e below s Z R Ret T (mkF m pc Ls (.int y :: .int x :: st)) := by
  obtain ⟨_, _, _, _, _, Y, _⟩ := X
  by_cases hq : x < y
  · subst hp'; exact (G0 hq).step fun t k => XS.icmpNo Y.here E.1 rfl (hb E.2.2.2.1 hd) rfl (XT.ii_ge_f hq) k
  · exact (G1 hq).step fun t k => XS.icmpYes Y.here E.1 rfl (pc0 := pc) rfl (hb E.2.2.2.1 hd) rfl (XT.ii_ge_t hq) ho hp k
theorem gIf_ge (E : oE p l e R s m args below meth c Z bytes own nm maxL ret) (X : oX p l e R s m args below meth c Z T V cells slots) {x : Int32} {o : Int} {q' : Nat} (hd : decode bytes pc = .ok (.ifCond .ge o, 3)) (ho : 0 ≤ (pc : Int) + o) (hp : ((pc : Int) + o).toNat = q) (hp' : pc + 3 = q') (G1 : ¬ (x < 0) → oG p e below s Z R Ret T (mkF m q Ls st)) (G0 : x < 0 → oG p e below s Z R Ret T (mkF m q' Ls st)) : oG p e below s Z R Ret T (mkF m pc Ls (.int x :: st)) := by
  obtain ⟨_, _, _, _, _, Y, _⟩ := X
  by_cases hq : x < 0
  · subst hp'; exact (G0 hq).step fun t k => XS.ifNo Y.here E.1 rfl (hb E.2.2.2.1 hd) rfl (XT.i0_ge_f hq) k
  · exact (G1 hq).step fun t k => XS.ifYes Y.here E.1 rfl (pc0 := pc) rfl (hb E.2.2.2.1 hd) rfl (XT.i0_ge_t hq) ho hp k
theorem gLc_ge (E : oE p l e R s m args below meth c Z bytes own nm maxL ret) (X : oX p l e R s m args below meth c Z T V cells slots) {x y : Int64} {o : Int} {q' : Nat} (hd : decode bytes pc = .ok (.ifCond .ge o, 3)) (ho : 0 ≤ (pc : Int) + o) (hp : ((pc : Int) + o).toNat = q) (hp' : pc + 3 = q') (G1 : ¬ (x < y) → oG p e below s Z R Ret T (mkF m q Ls st)) (G0 : x < y → oG p e below s Z R Ret T (mkF m q' Ls st)) : oG p e below s Z R Ret T (mkF m pc Ls (.int (XT.cmpL x y) :: st)) := by
  obtain ⟨_, _, _, _, _, Y, _⟩ := X
  by_cases hq : x < y
  · subst hp'; exact (G0 hq).step fun t k => XS.ifNo Y.here E.1 rfl (hb E.2.2.2.1 hd) rfl (XT.ll_ge_f hq) k
  · exact (G1 hq).step fun t k => XS.ifYes Y.here E.1 rfl (pc0 := pc) rfl (hb E.2.2.2.1 hd) rfl (XT.ll_ge_t hq) ho hp k
theorem gIc_gt (E : oE p l e R s m args below meth c Z bytes own nm maxL ret) (X : oX p l e R s m args below meth c Z T V cells slots) {x y : Int32} {o : Int} {q' : Nat} (hd : decode bytes pc = .ok (.if_icmp .gt o, 3)) (ho : 0 ≤ (pc : Int) + o) (hp : ((pc : Int) + o).toNat = q) (hp' : pc + 3 = q') (G1 : y < x → oG p e below s Z R Ret T (mkF m q Ls st)) (G0 : ¬ (y < x) → oG p e below s Z R Ret T (mkF m q' Ls st)) : oG p e below s Z R Ret T (mkF m pc Ls (.int y :: .int x :: st)) := by
  obtain ⟨_, _, _, _, _, Y, _⟩ := X
  by_cases hq : y < x
  · exact (G1 hq).step fun t k => XS.icmpYes Y.here E.1 rfl (pc0 := pc) rfl (hb E.2.2.2.1 hd) rfl (XT.ii_gt_t hq) ho hp k
  · subst hp'; exact (G0 hq).step fun t k => XS.icmpNo Y.here E.1 rfl (hb E.2.2.2.1 hd) rfl (XT.ii_gt_f hq) k
theorem gIf_gt (E : oE p l e R s m args below meth c Z bytes own nm maxL ret) (X : oX p l e R s m args below meth c Z T V cells slots) {x : Int32} {o : Int} {q' : Nat} (hd : decode bytes pc = .ok (.ifCond .gt o, 3)) (ho : 0 ≤ (pc : Int) + o) (hp : ((pc : Int) + o).toNat = q) (hp' : pc + 3 = q') (G1 : 0 < x → oG p e below s Z R Ret T (mkF m q Ls st)) (G0 : ¬ (0 < x) → oG p e below s Z R Ret T (mkF m q' Ls st)) : oG p e below s Z R Ret T (mkF m pc Ls (.int x :: st)) := by
  obtain ⟨_, _, _, _, _, Y, _⟩ := X
  by_cases hq : 0 < x
  · exact (G1 hq).step fun t k => XS.ifYes Y.here E.1 rfl (pc0 := pc) rfl (hb E.2.2.2.1 hd) rfl (XT.i0_gt_t hq) ho hp k
  · subst hp'; exact (G0 hq).step fun t k => XS.ifNo Y.here E.1 rfl (hb E.2.2.2.1 hd) rfl (XT.i0_gt_f hq) k
theorem gLc_gt (E : oE p l e R s m args below meth c Z bytes own nm maxL ret) (X : oX p l e R s m args below meth c Z T V cells slots) {x y : Int64} {o : Int} {q' : Nat} (hd : decode bytes pc = .ok (.ifCond .gt o, 3)) (ho : 0 ≤ (pc : Int) + o) (hp : ((pc : Int) + o).toNat = q) (hp' : pc + 3 = q') (G1 : y < x → oG p e below s Z R Ret T (mkF m q Ls st)) (G0 : ¬ (y < x) → oG p e below s Z R Ret T (mkF m q' Ls st)) : oG p e below s Z R Ret T (mkF m pc Ls (.int (XT.cmpL x y) :: st)) := by
  obtain ⟨_, _, _, _, _, Y, _⟩ := X
  by_cases hq : y < x
  · exact (G1 hq).step fun t k => XS.ifYes Y.here E.1 rfl (pc0 := pc) rfl (hb E.2.2.2.1 hd) rfl (XT.ll_gt_t hq) ho hp k
  · subst hp'; exact (G0 hq).step fun t k => XS.ifNo Y.here E.1 rfl (hb E.2.2.2.1 hd) rfl (XT.ll_gt_f hq) k
theorem gIc_le (E : oE p l e R s m args below meth c Z bytes own nm maxL ret) (X : oX p l e R s m args below meth c Z T V cells slots) {x y : Int32} {o : Int} {q' : Nat} (hd : decode bytes pc = .ok (.if_icmp .le o, 3)) (ho : 0 ≤ (pc : Int) + o) (hp : ((pc : Int) + o).toNat = q) (hp' : pc + 3 = q') (G1 : ¬ (y < x) → oG p e below s Z R Ret T (mkF m q Ls st)) (G0 : y < x → oG p e below s Z R Ret T (mkF m q' Ls st)) : oG p e below s Z R Ret T (mkF m pc Ls (.int y :: .int x :: st)) := by
  obtain ⟨_, _, _, _, _, Y, _⟩ := X
  by_cases hq : y < x
  · subst hp'; exact (G0 hq).step fun t k => XS.icmpNo Y.here E.1 rfl (hb E.2.2.2.1 hd) rfl (XT.ii_le_f hq) k
  · exact (G1 hq).step fun t k => XS.icmpYes Y.here E.1 rfl (pc0 := pc) rfl (hb E.2.2.2.1 hd) rfl (XT.ii_le_t hq) ho hp k
theorem gIf_le (E : oE p l e R s m args below meth c Z bytes own nm maxL ret) (X : oX p l e R s m args below meth c Z T V cells slots) {x : Int32} {o : Int} {q' : Nat} (hd : decode bytes pc = .ok (.ifCond .le o, 3)) (ho : 0 ≤ (pc : Int) + o) (hp : ((pc : Int) + o).toNat = q) (hp' : pc + 3 = q') (G1 : ¬ (0 < x) → oG p e below s Z R Ret T (mkF m q Ls st)) (G0 : 0 < x → oG p e below s Z R Ret T (mkF m q' Ls st)) : oG p e below s Z R Ret T (mkF m pc Ls (.int x :: st)) := by
  obtain ⟨_, _, _, _, _, Y, _⟩ := X
  by_cases hq : 0 < x
  · subst hp'; exact (G0 hq).step fun t k => XS.ifNo Y.here E.1 rfl (hb E.2.2.2.1 hd) rfl (XT.i0_le_f hq) k
  · exact (G1 hq).step fun t k => XS.ifYes Y.here E.1 rfl (pc0 := pc) rfl (hb E.2.2.2.1 hd) rfl (XT.i0_le_t hq) ho hp k
theorem gLc_le (E : oE p l e R s m args below meth c Z bytes own nm maxL ret) (X : oX p l e R s m args below meth c Z T V cells slots) {x y : Int64} {o : Int} {q' : Nat} (hd : decode bytes pc = .ok (.ifCond .le o, 3)) (ho : 0 ≤ (pc : Int) + o) (hp : ((pc : Int) + o).toNat = q) (hp' : pc + 3 = q') (G1 : ¬ (y < x) → oG p e below s Z R Ret T (mkF m q Ls st)) (G0 : y < x → oG p e below s Z R Ret T (mkF m q' Ls st)) : oG p e below s Z R Ret T (mkF m pc Ls (.int (XT.cmpL x y) :: st)) := by
  obtain ⟨_, _, _, _, _, Y, _⟩ := X
  by_cases hq : y < x
  · subst hp'; exact (G0 hq).step fun t k => XS.ifNo Y.here E.1 rfl (hb E.2.2.2.1 hd) rfl (XT.ll_le_f hq) k
  · exact (G1 hq).step fun t k => XS.ifYes Y.here E.1 rfl (pc0 := pc) rfl (hb E.2.2.2.1 hd) rfl (XT.ll_le_t hq) ho hp k
theorem gAc_eq (E : oE p l e R s m args below meth c Z bytes own nm maxL ret) (X : oX p l e R s m args below meth c Z T V cells slots) {v w : Value} (hv : v.isRef = true) (hw' : w.isRef = true) {o : Int} {q' : Nat} (hd : decode bytes pc = .ok (.if_acmp .eq o, 3)) (ho : 0 ≤ (pc : Int) + o) (hp : ((pc : Int) + o).toNat = q) (hp' : pc + 3 = q') (G1 : v = w → oG p e below s Z R Ret T (mkF m q Ls st)) (G0 : ¬ (v = w) → oG p e below s Z R Ret T (mkF m q' Ls st)) : oG p e below s Z R Ret T (mkF m pc Ls (w :: v :: st)) := by
  obtain ⟨_, _, _, _, _, Y, _⟩ := X
  by_cases hq : v = w
  · exact (G1 hq).step fun t k => XT.acmpYes Y.here E.1 rfl (pc0 := pc) rfl (hb E.2.2.2.1 hd) rfl hv hw' (XT.aa_eq_t hq) ho hp k
  · subst hp'; exact (G0 hq).step fun t k => XT.acmpNo Y.here E.1 rfl (hb E.2.2.2.1 hd) rfl hv hw' (XT.aa_eq_f hq) k
theorem gAc_ne (E : oE p l e R s m args below meth c Z bytes own nm maxL ret) (X : oX p l e R s m args below meth c Z T V cells slots) {v w : Value} (hv : v.isRef = true) (hw' : w.isRef = true) {o : Int} {q' : Nat} (hd : decode bytes pc = .ok (.if_acmp .ne o, 3)) (ho : 0 ≤ (pc : Int) + o) (hp : ((pc : Int) + o).toNat = q) (hp' : pc + 3 = q') (G1 : ¬ (v = w) → oG p e below s Z R Ret T (mkF m q Ls st)) (G0 : v = w → oG p e below s Z R Ret T (mkF m q' Ls st)) : oG p e below s Z R Ret T (mkF m pc Ls (w :: v :: st)) := by
  obtain ⟨_, _, _, _, _, Y, _⟩ := X
  by_cases hq : v = w
  · subst hp'; exact (G0 hq).step fun t k => XT.acmpNo Y.here E.1 rfl (hb E.2.2.2.1 hd) rfl hv hw' (XT.aa_ne_f hq) k
  · exact (G1 hq).step fun t k => XT.acmpYes Y.here E.1 rfl (pc0 := pc) rfl (hb E.2.2.2.1 hd) rfl hv hw' (XT.aa_ne_t hq) ho hp k
theorem gNull_y (E : oE p l e R s m args below meth c Z bytes own nm maxL ret) (X : oX p l e R s m args below meth c Z T V cells slots) {v : Value} (hv : v.isRef = true) {o : Int} {q' : Nat} (hd : decode bytes pc = .ok (.ifnull o, 3)) (ho : 0 ≤ (pc : Int) + o) (hp : ((pc : Int) + o).toNat = q) (hp' : pc + 3 = q') (G1 : v = .null → oG p e below s Z R Ret T (mkF m q Ls st)) (G0 : ¬ (v = .null) → oG p e below s Z R Ret T (mkF m q' Ls st)) : oG p e below s Z R Ret T (mkF m pc Ls (v :: st)) := by
  obtain ⟨_, _, _, _, _, Y, _⟩ := X
  by_cases hq : v = .null
  · exact (G1 hq).step fun t k => XT.nullYes Y.here E.1 rfl (pc0 := pc) rfl (hb E.2.2.2.1 hd) rfl hq ho hp k
  · subst hp'; exact (G0 hq).step fun t k => XT.nullNo Y.here E.1 rfl (hb E.2.2.2.1 hd) rfl hv hq k
theorem gNull_n (E : oE p l e R s m args below meth c Z bytes own nm maxL ret) (X : oX p l e R s m args below meth c Z T V cells slots) {v : Value} (hv : v.isRef = true) {o : Int} {q' : Nat} (hd : decode bytes pc = .ok (.ifnonnull o, 3)) (ho : 0 ≤ (pc : Int) + o) (hp : ((pc : Int) + o).toNat = q) (hp' : pc + 3 = q') (G1 : ¬ (v = .null) → oG p e below s Z R Ret T (mkF m q Ls st)) (G0 : v = .null → oG p e below s Z R Ret T (mkF m q' Ls st)) : oG p e below s Z R Ret T (mkF m pc Ls (v :: st)) := by
  obtain ⟨_, _, _, _, _, Y, _⟩ := X
  by_cases hq : v = .null
  · subst hp'; exact (G0 hq).step fun t k => XT.nonnullNo Y.here E.1 rfl (hb E.2.2.2.1 hd) rfl hq k
  · exact (G1 hq).step fun t k => XT.nonnullYes Y.here E.1 rfl (pc0 := pc) rfl (hb E.2.2.2.1 hd) rfl hv hq ho hp k
theorem gLdcI (E : oE p l e R s m args below meth c Z bytes own nm maxL ret) (X : oX p l e R s m args below meth c Z T V cells slots) {i : Nat} {v : Int32} (hd : decode bytes pc = .ok (.ldc i, 2)) (w : (Jvm.Cond.constant own i v).before a0 Z = true) (hp : pc + 2 = q) (G : oG p e below s Z R Ret T (mkF m q Ls (.int v :: st))) : oG p e below s Z R Ret T (mkF m pc Ls st) := by
  subst hp; obtain ⟨_, _, _, _, _, Y, _⟩ := X; exact G.step fun t k => Y.ldcI E.1 E.2.2.1 (mvT E.2.1 w) rfl (hb E.2.2.2.1 hd) k
theorem gLdcWI (E : oE p l e R s m args below meth c Z bytes own nm maxL ret) (X : oX p l e R s m args below meth c Z T V cells slots) {i : Nat} {v : Int32} (hd : decode bytes pc = .ok (.ldc_w i, 3)) (w : (Jvm.Cond.constant own i v).before a0 Z = true) (hp : pc + 3 = q) (G : oG p e below s Z R Ret T (mkF m q Ls (.int v :: st))) : oG p e below s Z R Ret T (mkF m pc Ls st) := by
  subst hp; obtain ⟨_, _, _, _, _, Y, _⟩ := X; exact G.step fun t k => Y.ldcWI E.1 E.2.2.1 (mvT E.2.1 w) rfl (hb E.2.2.2.1 hd) k
theorem gLdc2J (E : oE p l e R s m args below meth c Z bytes own nm maxL ret) (X : oX p l e R s m args below meth c Z T V cells slots) {i : Nat} {v : Int64} (hd : decode bytes pc = .ok (.ldc2_w i, 3)) (w : (Jvm.Cond.constantLong own i v).before a0 Z = true) (hp : pc + 3 = q) (G : oG p e below s Z R Ret T (mkF m q Ls (.long v :: st))) : oG p e below s Z R Ret T (mkF m pc Ls st) := by
  subst hp; obtain ⟨_, _, _, _, _, Y, _⟩ := X; exact G.step fun t k => Y.ldc2J E.1 E.2.2.1 (mvT E.2.1 w) rfl (hb E.2.2.2.1 hd) k
/-! 5. objects -/
theorem gGetF (E : oE p l e R s m args below meth c Z bytes own nm maxL ret) (X : oX p l e R s m args below meth c Z T V cells slots) {R0 O n d C : String} {index i j : Nat} {a : Addr} {fs : List (String × String × String × Value)} {v : Value} (hd : decode bytes pc = .ok (.getfield index, 3))
    (w : (Jvm.Cond.fieldLink own index R0 n d).before a0 Z = true) (via : Via Z R0 O n d) (hi : V[i]? = some (a, .inl (C, fs))) (hj : fs[j]? = some (O, n, d, v)) (hp : pc + 3 = q)
    (G : ∀ T', oX p l e R s m args below meth c Z T' V cells slots → oG p e below s Z R Ret T' (mkF m q Ls (v :: st))) : oG p e below s Z R Ret T (mkF m pc Ls (.ref a :: st)) := by
  subst hp; obtain ⟨locs, c', s', q1, q2, Y, N, H⟩ := X
  obtain ⟨T', Y', e', k⟩ := getF Y E.1 E.2.1 E.2.2.1 (host := "") (Or.inl w) via rfl ((H.sat hi).2.2 _ (List.mem_of_getElem? hj)) (g := mkF m pc Ls (.ref a :: st)) rfl rfl (hb E.2.2.2.1 hd)
  exact (G T' ⟨locs, c', s', q1, q2, Y', N, e' ▸ H⟩).step k
theorem gGetFN (E : oE p l e R s m args below meth c Z bytes own nm maxL ret) (X : oX p l e R s m args below meth c Z T V cells slots) {R0 O n d C host : String} {index i j : Nat} {a : Addr} {fs : List (String × String × String × Value)} {v : Value} (hd : decode bytes pc = .ok (.getfield index, 3))
    (w : (Jvm.Cond.fieldLinkNest own index R0 n d host).before a0 Z = true) (via : Via Z R0 O n d) (hi : V[i]? = some (a, .inl (C, fs))) (hj : fs[j]? = some (O, n, d, v)) (hp : pc + 3 = q)
    (G : ∀ T', oX p l e R s m args below meth c Z T' V cells slots → oG p e below s Z R Ret T' (mkF m q Ls (v :: st))) : oG p e below s Z R Ret T (mkF m pc Ls (.ref a :: st)) := by
  subst hp; obtain ⟨locs, c', s', q1, q2, Y, N, H⟩ := X
  obtain ⟨T', Y', e', k⟩ := getF Y E.1 E.2.1 E.2.2.1 (host := host) (Or.inr w) via rfl ((H.sat hi).2.2 _ (List.mem_of_getElem? hj)) (g := mkF m pc Ls (.ref a :: st)) rfl rfl (hb E.2.2.2.1 hd)
  exact (G T' ⟨locs, c', s', q1, q2, Y', N, e' ▸ H⟩).step k
/-- a field of an object that stood at the start -/
theorem gGetF0 (E : oE p l e R s m args below meth c Z bytes own nm maxL ret) (X : oX p l e R s m args below meth c Z T V cells slots) {R0 O n d : String} {index : Nat} {a : Addr} {v : Value} (hd : decode bytes pc = .ok (.getfield index, 3))
    (w : (Jvm.Cond.fieldLink own index R0 n d).before a0 Z = true) (via : Via Z R0 O n d) (F : Fld Z Z.heap a O n d v) (hp : pc + 3 = q)
    (G : ∀ T', oX p l e R s m args below meth c Z T' V cells slots → oG p e below s Z R Ret T' (mkF m q Ls (v :: st))) : oG p e below s Z R Ret T (mkF m pc Ls (.ref a :: st)) := by
  subst hp; obtain ⟨locs, c', s', q1, q2, Y, N, H⟩ := X
  obtain ⟨T', Y', e', k⟩ := getF Y E.1 E.2.1 E.2.2.1 (host := "") (Or.inl w) via rfl (F.ext H.1) (g := mkF m pc Ls (.ref a :: st)) rfl rfl (hb E.2.2.2.1 hd)
  exact (G T' ⟨locs, c', s', q1, q2, Y', N, e' ▸ H⟩).step k
theorem gGetS (E : oE p l e R s m args below meth c Z bytes own nm maxL ret) (X : oX p l e R s m args below meth c Z T V cells slots) {R0 O n d : String} {index : Nat} {v : Value} (hd : decode bytes pc = .ok (.getstatic index, 3))
    (w : (Jvm.Cond.fieldLink own index R0 n d).before a0 Z = true) (via : Via Z R0 O n d) (F : Sta Z Z.heap O n d v) (hp : pc + 3 = q)
    (G : ∀ T', oX p l e R s m args below meth c Z T' V cells slots → oG p e below s Z R Ret T' (mkF m q Ls (v :: st))) : oG p e below s Z R Ret T (mkF m pc Ls st) := by
  subst hp; obtain ⟨locs, c', s', q1, q2, Y, N, H⟩ := X
  obtain ⟨T', Y', e', k⟩ := getS Y E.1 E.2.1 E.2.2.1 (host := "") w via rfl (F.ext H.1) (g := mkF m pc Ls st) rfl (hb E.2.2.2.1 hd)
  exact (G T' ⟨locs, c', s', q1, q2, Y', N, e' ▸ H⟩).step k
theorem gPutF (E : oE p l e R s m args below meth c Z bytes own nm maxL ret) (X : oX p l e R s m args below meth c Z T V cells slots) {R0 O n d C : String} {index i j kk : Nat} {a : Addr} {fs : List (String × String × String × Value)} {v old : Value} {ty : FieldType} (hd : decode bytes pc = .ok (.putfield index, 3))
    (w : (Jvm.Cond.fieldLink own index R0 n d).before a0 Z = true) (via : Via Z R0 O n d) (hi : V[i]? = some (a, .inl (C, fs))) (hj : fs[j]? = some (O, n, d, old)) (L : (Jvm.Cond.lays C O n d).before a0 Z = true ∨ ((Jvm.Cond.laysFinal C O n d).before a0 Z = true ∧ own = O ∧ nm = "<init>")) (wi : (Jvm.Cond.instantiable C kk).before a0 Z = true)
    (hty : parseFieldDescriptor d = some ty) (hn : narrow ty v = v) (hf : fits ty v = true) (hV : V.set i (a, .inl (C, fs.set j (O, n, d, v))) = V') (hp : pc + 3 = q)
    (G : ∀ T', oX p l e R s m args below meth c Z T' V' cells slots → oG p e below s Z R Ret T' (mkF m q Ls st)) : oG p e below s Z R Ret T (mkF m pc Ls (v :: .ref a :: st)) := by
  subst hp hV; obtain ⟨locs, c', s', q1, q2, Y, N, H⟩ := X
  have S := H.sat hi
  obtain ⟨T', h', Y', e', W, k⟩ := putF Y E.1 E.2.1 E.2.2.1 (host := "") (Or.inl w) via rfl (S.2.2 _ (List.mem_of_getElem? hj)) S.1 (L.imp id fun z => ⟨z.1, z.2.1, E.2.2.2.2.2.2.1.trans z.2.2⟩) wi hty hn hf (g := mkF m pc Ls (v :: .ref a :: st)) rfl rfl (hb E.2.2.2.1 hd)
  subst e'
  exact (G T' ⟨_, c', s', q1, q2, Y', Fr.snoc Y' N (H.ge hi), H.wr W hi (S.wrF hj W)⟩).step k
theorem gPutFN (E : oE p l e R s m args below meth c Z bytes own nm maxL ret) (X : oX p l e R s m args below meth c Z T V cells slots) {R0 O n d C host : String} {index i j kk : Nat} {a : Addr} {fs : List (String × String × String × Value)} {v old : Value} {ty : FieldType} (hd : decode bytes pc = .ok (.putfield index, 3))
    (w : (Jvm.Cond.fieldLinkNest own index R0 n d host).before a0 Z = true) (via : Via Z R0 O n d) (hi : V[i]? = some (a, .inl (C, fs))) (hj : fs[j]? = some (O, n, d, old)) (L : (Jvm.Cond.lays C O n d).before a0 Z = true ∨ ((Jvm.Cond.laysFinal C O n d).before a0 Z = true ∧ own = O ∧ nm = "<init>")) (wi : (Jvm.Cond.instantiable C kk).before a0 Z = true)
    (hty : parseFieldDescriptor d = some ty) (hn : narrow ty v = v) (hf : fits ty v = true) (hV : V.set i (a, .inl (C, fs.set j (O, n, d, v))) = V') (hp : pc + 3 = q)
    (G : ∀ T', oX p l e R s m args below meth c Z T' V' cells slots → oG p e below s Z R Ret T' (mkF m q Ls st)) : oG p e below s Z R Ret T (mkF m pc Ls (v :: .ref a :: st)) := by
  subst hp hV; obtain ⟨locs, c', s', q1, q2, Y, N, H⟩ := X
  have S := H.sat hi
  obtain ⟨T', h', Y', e', W, k⟩ := putF Y E.1 E.2.1 E.2.2.1 (host := host) (Or.inr w) via rfl (S.2.2 _ (List.mem_of_getElem? hj)) S.1 (L.imp id fun z => ⟨z.1, z.2.1, E.2.2.2.2.2.2.1.trans z.2.2⟩) wi hty hn hf (g := mkF m pc Ls (v :: .ref a :: st)) rfl rfl (hb E.2.2.2.1 hd)
  subst e'
  exact (G T' ⟨_, c', s', q1, q2, Y', Fr.snoc Y' N (H.ge hi), H.wr W hi (S.wrF hj W)⟩).step k
theorem gNew (E : oE p l e R s m args below meth c Z bytes own nm maxL ret) (X : oX p l e R s m args below meth c Z T V cells slots) {C : String} {index n : Nat} {fs : List (String × String × String × Value)} (hd : decode bytes pc = .ok (.new index, 3))
    (w : (Jvm.Cond.classLink own index C).before a0 Z = true) (wi : (Jvm.Cond.instantiable C n).before a0 Z = true) (wz : (Jvm.Cond.initialized C).before a0 Z = true) (hL : oLay Z a0 C fs) (hc : cells + 1 ≤ c2) (hs : slots + n ≤ s2) (hc2 : c2 ≤ R.cells) (hs2 : s2 ≤ R.slots) (hp : pc + 3 = q)
    (G : ∀ T' a, oX p l e R s m args below meth c Z T' (V ++ [(a, .inl (C, fs))]) c2 s2 → oG p e below s Z R Ret T' (mkF m q Ls (.ref a :: st))) : oG p e below s Z R Ret T (mkF m pc Ls st) := by
  subst hp; obtain ⟨locs, c', s', q1, q2, Y, N, H⟩ := X
  obtain ⟨T', h', Y', e', Ex, A, D, -, k⟩ := newO Y E.1 E.2.1 E.2.2.1 w wi wz rfl (g := mkF m pc Ls st) rfl (hb E.2.2.2.1 hd) (by omega) (by omega)
  subst e'
  refine (G T' T.heap.size ⟨_, _, _, by omega, by omega, Y', N, H.new Ex ⟨A, hL.1, fun f hf => ?_⟩⟩).step k
  obtain ⟨L1, ty, t1, t2⟩ := hL.2 f hf
  rw [t2]; exact D L1 t1
theorem gInitO (E : oE p l e R s m args below meth c Z bytes own nm maxL ret) (X : oX p l e R s m args below meth c Z T V cells slots) {index : Nat} {a : Addr} {W : Nat} (hd : decode bytes pc = .ok (.invokespecial index, 3))
    (w1 : (Jvm.Cond.methodLink own index Lib.objectInit).before a0 Z = true) (w2 : (Jvm.Cond.instanceMethod Lib.objectInit).before a0 Z = true) (w3 : (Jvm.Cond.code Lib.objectInit ⟨#[0xb1]⟩ 1 none).before a0 Z = true) (hsz : Ls.size = maxL) (hf : 1 ≤ R.frames) (hW : (st.map fun v => v.category).sum ≤ W) (hl : W + 12 ≤ R.locals) (hp : pc + 3 = q)
    (G : ∀ T', oX p l e R s m args below meth c Z T' V cells slots → oG p e below s Z R Ret T' (mkF m q Ls st)) : oG p e below s Z R Ret T (mkF m pc Ls (.ref a :: st)) := by
  subst hp; obtain ⟨locs, c', s', q1, q2, Y, N, H⟩ := X
  obtain ⟨T', Y', e', k⟩ := initO Y E.1 E.2.1 E.2.2.1 w1 w2 w3 rfl (g := mkF m pc Ls (.ref a :: st)) rfl (by rw [E.2.2.2.2.1]; exact hsz) rfl (hb E.2.2.2.1 hd) hf (W := W) (by show 2 * 0 + _ ≤ _; omega) hl
  exact (G T' ⟨locs, c', s', q1, q2, Y', N, e' ▸ H⟩).step k
theorem gInstY (E : oE p l e R s m args below meth c Z bytes own nm maxL ret) (X : oX p l e R s m args below meth c Z T V cells slots) {K C : String} {index i : Nat} {a : Addr} {fs : List (String × String × String × Value)} (hd : decode bytes pc = .ok (.instanceof index, 3))
    (w : (Jvm.Cond.classLink own index K).before a0 Z = true) (hi : V[i]? = some (a, .inl (C, fs))) (wc : (Jvm.Cond.castable C K).before a0 Z = true) (hp : pc + 3 = q)
    (G : ∀ T', oX p l e R s m args below meth c Z T' V cells slots → oG p e below s Z R Ret T' (mkF m q Ls (.int 1 :: st))) : oG p e below s Z R Ret T (mkF m pc Ls (.ref a :: st)) := by
  subst hp; obtain ⟨locs, c', s', q1, q2, Y, N, H⟩ := X
  obtain ⟨T', Y', e', k⟩ := instY Y E.1 E.2.1 E.2.2.1 w rfl (Ins.of_exa (H.sat hi).1 wc) (g := mkF m pc Ls (.ref a :: st)) rfl rfl (hb E.2.2.2.1 hd)
  exact (G T' ⟨locs, c', s', q1, q2, Y', N, e' ▸ H⟩).step k
theorem gInstNo (E : oE p l e R s m args below meth c Z bytes own nm maxL ret) (X : oX p l e R s m args below meth c Z T V cells slots) {K C : String} {index : Nat} {a : Addr} (hd : decode bytes pc = .ok (.instanceof index, 3))
    (w : (Jvm.Cond.classLink own index K).before a0 Z = true) (hE : ∀ h, oHv Z h V → Exa Z h a C) (F : ∃ c t, Z.vm.findClass C = some c ∧ Z.vm.findClass K = some t ∧ Z.vm.assignable c t = false) (hp : pc + 3 = q)
    (G : ∀ T', oX p l e R s m args below meth c Z T' V cells slots → oG p e below s Z R Ret T' (mkF m q Ls (.int 0 :: st))) : oG p e below s Z R Ret T (mkF m pc Ls (.ref a :: st)) := by
  subst hp; obtain ⟨locs, c', s', q1, q2, Y, N, H⟩ := X
  obtain ⟨T', Y', e', k⟩ := instNo Y E.1 E.2.1 E.2.2.1 w rfl (hE _ H) F (g := mkF m pc Ls (.ref a :: st)) rfl rfl (hb E.2.2.2.1 hd)
  exact (G T' ⟨locs, c', s', q1, q2, Y', N, e' ▸ H⟩).step k
theorem gInstNull (E : oE p l e R s m args below meth c Z bytes own nm maxL ret) (X : oX p l e R s m args below meth c Z T V cells slots) {index : Nat} (hd : decode bytes pc = .ok (.instanceof index, 3)) (hp : pc + 3 = q) (G : oG p e below s Z R Ret T (mkF m q Ls (.int 0 :: st))) : oG p e below s Z R Ret T (mkF m pc Ls (.null :: st)) := by
  subst hp; obtain ⟨_, _, _, _, _, Y, _⟩ := X; exact G.step fun t k => Y.instanceofNull E.1 (g := mkF m pc Ls (.null :: st)) rfl rfl (hb E.2.2.2.1 hd) t k
theorem gCastY (E : oE p l e R s m args below meth c Z bytes own nm maxL ret) (X : oX p l e R s m args below meth c Z T V cells slots) {K C : String} {index i : Nat} {a : Addr} {fs : List (String × String × String × Value)} (hd : decode bytes pc = .ok (.checkcast index, 3))
    (w : (Jvm.Cond.classLink own index K).before a0 Z = true) (hi : V[i]? = some (a, .inl (C, fs))) (wc : (Jvm.Cond.castable C K).before a0 Z = true) (hp : pc + 3 = q)
    (G : ∀ T', oX p l e R s m args below meth c Z T' V cells slots → oG p e below s Z R Ret T' (mkF m q Ls (.ref a :: st))) : oG p e below s Z R Ret T (mkF m pc Ls (.ref a :: st)) := by
  subst hp; obtain ⟨locs, c', s', q1, q2, Y, N, H⟩ := X
  obtain ⟨T', Y', e', k⟩ := castY Y E.1 E.2.1 E.2.2.1 w rfl (Ins.of_exa (H.sat hi).1 wc) (g := mkF m pc Ls (.ref a :: st)) rfl rfl (hb E.2.2.2.1 hd)
  exact (G T' ⟨locs, c', s', q1, q2, Y', N, e' ▸ H⟩).step k
/-! 6. arrays -/
theorem oNat {j : Int32} (hj : ¬ j < 0) {n : Nat} (hn : n < 2 ^ 31) (h : n.toInt32 = j) : j.toNatClampNeg = n := by
  subst h; simp only [Int32.toNatClampNeg, len_toInt hn]; omega
theorem oIn {c : Cell} {vs : List Value} {j : Int32} {v : Value} (h : c.slots.toList = vs) (hj : ¬ j < 0) (hv : vs[j.toNatClampNeg]? = some v) : ¬ (j < 0 ∨ c.slots.size ≤ j.toNatClampNeg) ∧ c.slots[j.toNatClampNeg]? = some v := by
  subst h
  rw [Array.getElem?_toList] at hv
  exact ⟨fun z => z.elim hj fun y => (by rw [Array.getElem?_eq_none y] at hv; cases hv), hv⟩
theorem gNewA (E : oE p l e R s m args below meth c Z bytes own nm maxL ret) (X : oX p l e R s m args below meth c Z T V cells slots) {aty : ArrayType} {n : Int32} {cap : Nat} {vs : List Value} {ty : FieldType} (hty : newarray.typeOf aty = ty) (hd : decode bytes pc = .ok (.newarray aty, 2))
    (w : (Jvm.Cond.arrayClass (newarray.typeOf aty)).before a0 Z = true) (hn : ¬ n < 0) (hcap : n.toNatClampNeg ≤ cap) (hb8 : cap * 8 ≤ 536870912) (hvs : List.replicate n.toNatClampNeg (defaultValue ty) = vs) (hc : cells + 1 ≤ c2) (hs : slots + cap ≤ s2) (hc2 : c2 ≤ R.cells) (hs2 : s2 ≤ R.slots) (hp : pc + 2 = q)
    (G : ∀ T' a, oX p l e R s m args below meth c Z T' (V ++ [(a, .inr (ty, vs))]) c2 s2 → oG p e below s Z R Ret T' (mkF m q Ls (.ref a :: st))) : oG p e below s Z R Ret T (mkF m pc Ls (.int n :: st)) := by
  subst hp hvs hty; obtain ⟨locs, c', s', q1, q2, Y, N, H⟩ := X
  obtain ⟨T', h', cA, Y', e', Ex, A, k⟩ := newP Y E.1 E.2.1 w rfl (g := mkF m pc Ls (.int n :: st)) rfl (hb E.2.2.2.1 hd) rfl hn hcap hb8 (by omega) (by omega)
  subst e'
  refine (G T' T.heap.size ⟨_, _, _, by omega, by omega, Y', N, H.new Ex ⟨_, A, by simp [newA], ?_⟩⟩).step k
  rw [List.length_replicate]; exact (back32 hn).2
theorem gLen (E : oE p l e R s m args below meth c Z bytes own nm maxL ret) (X : oX p l e R s m args below meth c Z T V cells slots) {i : Nat} {a : Addr} {ty : FieldType} {vs : List Value} {z : Int32} (hd : decode bytes pc = .ok (.arraylength, 1))
    (hi : V[i]? = some (a, .inr (ty, vs))) (hz : vs.length.toInt32 = z) (hp : pc + 1 = q) (G : oG p e below s Z R Ret T (mkF m q Ls (.int z :: st))) : oG p e below s Z R Ret T (mkF m pc Ls (.ref a :: st)) := by
  subst hp hz; obtain ⟨locs, c', s', q1, q2, Y, N, H⟩ := X
  obtain ⟨cl, A, r1, r2⟩ := H.sat hi
  simp only at r1
  subst r1
  exact G.step fun t k => Y.arraylength E.1 A.1 (State.isArrayOf_alike E.2.1.alike A.2.1) (g := mkF m pc Ls (.ref a :: st)) rfl rfl (hb E.2.2.2.1 hd) t (by rw [Array.length_toList] at k; exact k)
/-- v's length, whether she stood at the start or was made since -/
def oLn (Z : State) (V : oVw) (a : Addr) (z : Int32) : Prop := (∃ cl ty, Arr Z Z.heap a cl ty ∧ cl.slots.size.toInt32 = z) ∨ ∃ (k : Nat) (ty : FieldType) (vs : List Value), V[k]? = some (a, .inr (ty, vs)) ∧ vs.length.toInt32 = z
theorem oLn.app {a : Addr} {z : Int32} {L : oVw} (h : oLn Z V a z) : oLn Z (V ++ L) a z := h.imp id fun ⟨k, ty, vs, h1, h2⟩ => ⟨k, ty, vs, oAppGet h1, h2⟩
theorem oLn.set {a b : Addr} {z : Int32} {i : Nat} {q q' : String × List (String × String × String × Value)} (h : oLn Z V a z) (hi : V[i]? = some (b, .inl q)) : oLn Z (V.set i (b, .inl q')) a z := h.imp id fun ⟨k, ty, vs, h1, h2⟩ => ⟨k, ty, vs, oSetNe (fun e => by subst e; rw [hi] at h1; cases h1) h1, h2⟩
theorem gLenG (E : oE p l e R s m args below meth c Z bytes own nm maxL ret) (X : oX p l e R s m args below meth c Z T V cells slots) {a : Addr} {z : Int32} (hd : decode bytes pc = .ok (.arraylength, 1))
    (hL : oLn Z V a z) (hp : pc + 1 = q) (G : oG p e below s Z R Ret T (mkF m q Ls (.int z :: st))) : oG p e below s Z R Ret T (mkF m pc Ls (.ref a :: st)) := by
  rcases hL with ⟨cl, ty, A, hz⟩ | ⟨k, ty, vs, h1, h2⟩
  · subst hp hz; obtain ⟨locs, c', s', q1, q2, Y, N, H⟩ := X
    exact G.step fun t k => Y.arraylength E.1 (A.ext H.1).1 (State.isArrayOf_alike E.2.1.alike A.2.1) (g := mkF m pc Ls (.ref a :: st)) rfl rfl (hb E.2.2.2.1 hd) t k
  · exact gLen E X hd h1 h2 hp G
theorem oRepLen {n : Int32} {d : Value} (hn : ¬ n < 0) : (List.replicate n.toNatClampNeg d).length.toInt32 = n := by rw [List.length_replicate]; exact (back32 hn).1
theorem gLen0 (E : oE p l e R s m args below meth c Z bytes own nm maxL ret) (X : oX p l e R s m args below meth c Z T V cells slots) {a : Addr} {ty : FieldType} {cl : Cell} {z : Int32} (hd : decode bytes pc = .ok (.arraylength, 1))
    (A : Arr Z Z.heap a cl ty) (hz : cl.slots.size.toInt32 = z) (hp : pc + 1 = q) (G : oG p e below s Z R Ret T (mkF m q Ls (.int z :: st))) : oG p e below s Z R Ret T (mkF m pc Ls (.ref a :: st)) := by
  subst hp hz; obtain ⟨locs, c', s', q1, q2, Y, N, H⟩ := X
  exact G.step fun t k => Y.arraylength E.1 (A.ext H.1).1 (State.isArrayOf_alike E.2.1.alike A.2.1) (g := mkF m pc Ls (.ref a :: st)) rfl rfl (hb E.2.2.2.1 hd) t k
theorem gBaload (E : oE p l e R s m args below meth c Z bytes own nm maxL ret) (X : oX p l e R s m args below meth c Z T V cells slots) {i : Nat} {a : Addr} {vs : List Value} {j : Int32} {v : Value} (hd : decode bytes pc = .ok (.baload, 1))
    (hi : V[i]? = some (a, .inr (.byte, vs))) (hj : ¬ j < 0) (hv : vs[j.toNatClampNeg]? = some v) (hp : pc + 1 = q) (G : oG p e below s Z R Ret T (mkF m q Ls (v :: st))) : oG p e below s Z R Ret T (mkF m pc Ls (.int j :: .ref a :: st)) := by
  subst hp; obtain ⟨locs, c', s', q1, q2, Y, N, H⟩ := X
  obtain ⟨cl, A, r1, r2⟩ := H.sat hi
  obtain ⟨z1, z2⟩ := oIn r1 hj hv
  exact G.step fun t k => Y.baloadBytes E.1 A.1 (State.isArrayOf_alike E.2.1.alike A.2.1) A.2.2 z1 z2 (g := mkF m pc Ls (.int j :: .ref a :: st)) rfl rfl (hb E.2.2.2.1 hd) t k
theorem gBaload0 (E : oE p l e R s m args below meth c Z bytes own nm maxL ret) (X : oX p l e R s m args below meth c Z T V cells slots) {a : Addr} {cl : Cell} {j : Int32} {v : Value} (hd : decode bytes pc = .ok (.baload, 1))
    (A : Arr Z Z.heap a cl .byte) (hj : ¬ (j < 0 ∨ cl.slots.size ≤ j.toNatClampNeg)) (hv : cl.slots[j.toNatClampNeg]? = some v) (hp : pc + 1 = q) (G : oG p e below s Z R Ret T (mkF m q Ls (v :: st))) : oG p e below s Z R Ret T (mkF m pc Ls (.int j :: .ref a :: st)) := by
  subst hp; obtain ⟨locs, c', s', q1, q2, Y, N, H⟩ := X
  exact G.step fun t k => Y.baloadBytes E.1 (A.ext H.1).1 (State.isArrayOf_alike E.2.1.alike A.2.1) A.2.2 hj hv (g := mkF m pc Ls (.int j :: .ref a :: st)) rfl rfl (hb E.2.2.2.1 hd) t k
theorem gIaload (E : oE p l e R s m args below meth c Z bytes own nm maxL ret) (X : oX p l e R s m args below meth c Z T V cells slots) {i : Nat} {a : Addr} {vs : List Value} {j : Int32} {v : Value} (hd : decode bytes pc = .ok (.iaload, 1))
    (hi : V[i]? = some (a, .inr (.int, vs))) (hj : ¬ j < 0) (hv : vs[j.toNatClampNeg]? = some v) (hp : pc + 1 = q) (G : oG p e below s Z R Ret T (mkF m q Ls (v :: st))) : oG p e below s Z R Ret T (mkF m pc Ls (.int j :: .ref a :: st)) := by
  subst hp; obtain ⟨locs, c', s', q1, q2, Y, N, H⟩ := X
  obtain ⟨cl, A, r1, r2⟩ := H.sat hi
  obtain ⟨z1, z2⟩ := oIn r1 hj hv
  exact G.step fun t k => Y.iaload E.1 A.1 (State.isArrayOf_alike E.2.1.alike A.2.1) A.2.2 z1 z2 (g := mkF m pc Ls (.int j :: .ref a :: st)) rfl rfl (hb E.2.2.2.1 hd) t k
theorem gIaload0 (E : oE p l e R s m args below meth c Z bytes own nm maxL ret) (X : oX p l e R s m args below meth c Z T V cells slots) {a : Addr} {cl : Cell} {j : Int32} {v : Value} (hd : decode bytes pc = .ok (.iaload, 1))
    (A : Arr Z Z.heap a cl .int) (hj : ¬ (j < 0 ∨ cl.slots.size ≤ j.toNatClampNeg)) (hv : cl.slots[j.toNatClampNeg]? = some v) (hp : pc + 1 = q) (G : oG p e below s Z R Ret T (mkF m q Ls (v :: st))) : oG p e below s Z R Ret T (mkF m pc Ls (.int j :: .ref a :: st)) := by
  subst hp; obtain ⟨locs, c', s', q1, q2, Y, N, H⟩ := X
  exact G.step fun t k => Y.iaload E.1 (A.ext H.1).1 (State.isArrayOf_alike E.2.1.alike A.2.1) A.2.2 hj hv (g := mkF m pc Ls (.int j :: .ref a :: st)) rfl rfl (hb E.2.2.2.1 hd) t k
theorem gLaload (E : oE p l e R s m args below meth c Z bytes own nm maxL ret) (X : oX p l e R s m args below meth c Z T V cells slots) {i : Nat} {a : Addr} {vs : List Value} {j : Int32} {v : Value} (hd : decode bytes pc = .ok (.laload, 1))
    (hi : V[i]? = some (a, .inr (.long, vs))) (hj : ¬ j < 0) (hv : vs[j.toNatClampNeg]? = some v) (hp : pc + 1 = q) (G : oG p e below s Z R Ret T (mkF m q Ls (v :: st))) : oG p e below s Z R Ret T (mkF m pc Ls (.int j :: .ref a :: st)) := by
  subst hp; obtain ⟨locs, c', s', q1, q2, Y, N, H⟩ := X
  obtain ⟨cl, A, r1, r2⟩ := H.sat hi
  obtain ⟨z1, z2⟩ := oIn r1 hj hv
  exact G.step fun t k => Y.laload E.1 A.1 (State.isArrayOf_alike E.2.1.alike A.2.1) A.2.2 z1 z2 (g := mkF m pc Ls (.int j :: .ref a :: st)) rfl rfl (hb E.2.2.2.1 hd) t k
theorem gLaload0 (E : oE p l e R s m args below meth c Z bytes own nm maxL ret) (X : oX p l e R s m args below meth c Z T V cells slots) {a : Addr} {cl : Cell} {j : Int32} {v : Value} (hd : decode bytes pc = .ok (.laload, 1))
    (A : Arr Z Z.heap a cl .long) (hj : ¬ (j < 0 ∨ cl.slots.size ≤ j.toNatClampNeg)) (hv : cl.slots[j.toNatClampNeg]? = some v) (hp : pc + 1 = q) (G : oG p e below s Z R Ret T (mkF m q Ls (v :: st))) : oG p e below s Z R Ret T (mkF m pc Ls (.int j :: .ref a :: st)) := by
  subst hp; obtain ⟨locs, c', s', q1, q2, Y, N, H⟩ := X
  exact G.step fun t k => Y.laload E.1 (A.ext H.1).1 (State.isArrayOf_alike E.2.1.alike A.2.1) A.2.2 hj hv (g := mkF m pc Ls (.int j :: .ref a :: st)) rfl rfl (hb E.2.2.2.1 hd) t k
theorem gCaload (E : oE p l e R s m args below meth c Z bytes own nm maxL ret) (X : oX p l e R s m args below meth c Z T V cells slots) {i : Nat} {a : Addr} {vs : List Value} {j : Int32} {v : Value} (hd : decode bytes pc = .ok (.caload, 1))
    (hi : V[i]? = some (a, .inr (.char, vs))) (hj : ¬ j < 0) (hv : vs[j.toNatClampNeg]? = some v) (hp : pc + 1 = q) (G : oG p e below s Z R Ret T (mkF m q Ls (v :: st))) : oG p e below s Z R Ret T (mkF m pc Ls (.int j :: .ref a :: st)) := by
  subst hp; obtain ⟨locs, c', s', q1, q2, Y, N, H⟩ := X
  obtain ⟨cl, A, r1, r2⟩ := H.sat hi
  obtain ⟨z1, z2⟩ := oIn r1 hj hv
  exact G.step fun t k => Y.caload E.1 A.1 (State.isArrayOf_alike E.2.1.alike A.2.1) A.2.2 z1 z2 (g := mkF m pc Ls (.int j :: .ref a :: st)) rfl rfl (hb E.2.2.2.1 hd) t k
theorem gCaload0 (E : oE p l e R s m args below meth c Z bytes own nm maxL ret) (X : oX p l e R s m args below meth c Z T V cells slots) {a : Addr} {cl : Cell} {j : Int32} {v : Value} (hd : decode bytes pc = .ok (.caload, 1))
    (A : Arr Z Z.heap a cl .char) (hj : ¬ (j < 0 ∨ cl.slots.size ≤ j.toNatClampNeg)) (hv : cl.slots[j.toNatClampNeg]? = some v) (hp : pc + 1 = q) (G : oG p e below s Z R Ret T (mkF m q Ls (v :: st))) : oG p e below s Z R Ret T (mkF m pc Ls (.int j :: .ref a :: st)) := by
  subst hp; obtain ⟨locs, c', s', q1, q2, Y, N, H⟩ := X
  exact G.step fun t k => Y.caload E.1 (A.ext H.1).1 (State.isArrayOf_alike E.2.1.alike A.2.1) A.2.2 hj hv (g := mkF m pc Ls (.int j :: .ref a :: st)) rfl rfl (hb E.2.2.2.1 hd) t k
theorem gAaload (E : oE p l e R s m args below meth c Z bytes own nm maxL ret) (X : oX p l e R s m args below meth c Z T V cells slots) {i : Nat} {a : Addr} {ty : FieldType} {vs : List Value} {j : Int32} {v : Value} (hd : decode bytes pc = .ok (.aaload, 1))
    (hi : V[i]? = some (a, .inr (ty, vs))) (ht : ty.isReference = true) (hj : ¬ j < 0) (hv : vs[j.toNatClampNeg]? = some v) (hp : pc + 1 = q) (G : oG p e below s Z R Ret T (mkF m q Ls (v :: st))) : oG p e below s Z R Ret T (mkF m pc Ls (.int j :: .ref a :: st)) := by
  subst hp; obtain ⟨locs, c', s', q1, q2, Y, N, H⟩ := X
  obtain ⟨cl, A, r1, r2⟩ := H.sat hi
  obtain ⟨z1, z2⟩ := oIn r1 hj hv
  exact G.step fun t k => Y.aaload E.1 A.1 (State.isArrayOf_alike E.2.1.alike A.2.1) ht A.2.2 z1 z2 (g := mkF m pc Ls (.int j :: .ref a :: st)) rfl rfl (hb E.2.2.2.1 hd) t k
theorem gAaload0 (E : oE p l e R s m args below meth c Z bytes own nm maxL ret) (X : oX p l e R s m args below meth c Z T V cells slots) {a : Addr} {ty : FieldType} {cl : Cell} {j : Int32} {v : Value} (hd : decode bytes pc = .ok (.aaload, 1))
    (A : Arr Z Z.heap a cl ty) (ht : ty.isReference = true) (hj : ¬ (j < 0 ∨ cl.slots.size ≤ j.toNatClampNeg)) (hv : cl.slots[j.toNatClampNeg]? = some v) (hp : pc + 1 = q) (G : oG p e below s Z R Ret T (mkF m q Ls (v :: st))) : oG p e below s Z R Ret T (mkF m pc Ls (.int j :: .ref a :: st)) := by
  subst hp; obtain ⟨locs, c', s', q1, q2, Y, N, H⟩ := X
  exact G.step fun t k => Y.aaload E.1 (A.ext H.1).1 (State.isArrayOf_alike E.2.1.alike A.2.1) ht A.2.2 hj hv (g := mkF m pc Ls (.int j :: .ref a :: st)) rfl rfl (hb E.2.2.2.1 hd) t k
theorem gBastore (E : oE p l e R s m args below meth c Z bytes own nm maxL ret) (X : oX p l e R s m args below meth c Z T V cells slots) {i jn : Nat} {a : Addr} {vs : List Value} {j : Int32} {x x' : Int32} (hd : decode bytes pc = .ok (.bastore, 1))
    (hi : V[i]? = some (a, .inr (.byte, vs))) (hj : ¬ j < 0) (hjn : j.toNatClampNeg = jn) (hlt : jn < vs.length) (hx' : nar .byte x = x') (hV : V.set i (a, .inr (.byte, vs.set jn (.int x'))) = V') (hp : pc + 1 = q)
    (G : ∀ T', oX p l e R s m args below meth c Z T' V' cells slots → oG p e below s Z R Ret T' (mkF m q Ls st)) : oG p e below s Z R Ret T (mkF m pc Ls (.int x :: .int j :: .ref a :: st)) := by
  subst hp hV hjn hx'; obtain ⟨locs, c', s', q1, q2, Y, N, H⟩ := X
  have S := H.sat hi
  obtain ⟨cl, A, r1, r2⟩ := id S
  have hin : ¬ (j < 0 ∨ cl.slots.size ≤ j.toNatClampNeg) := fun z => z.elim hj fun y => by
    have r1' : cl.slots.toList = vs := r1
    rw [← r1', Array.length_toList] at hlt; omega
  obtain ⟨T', h', Y', e', W, k⟩ := stB Y E.1 E.2.1 rfl A hin (g := mkF m pc Ls (.int x :: .int j :: .ref a :: st)) rfl rfl (hb E.2.2.2.1 hd)
  subst e'
  exact (G T' ⟨_, c', s', q1, q2, Y', Fr.snoc Y' N (H.ge hi), H.wr W hi (S.wrA W)⟩).step k
theorem gIastore (E : oE p l e R s m args below meth c Z bytes own nm maxL ret) (X : oX p l e R s m args below meth c Z T V cells slots) {i jn : Nat} {a : Addr} {vs : List Value} {j : Int32} {x x' : Int32} (hd : decode bytes pc = .ok (.iastore, 1))
    (hi : V[i]? = some (a, .inr (.int, vs))) (hj : ¬ j < 0) (hjn : j.toNatClampNeg = jn) (hlt : jn < vs.length) (hx' : x = x') (hV : V.set i (a, .inr (.int, vs.set jn (.int x'))) = V') (hp : pc + 1 = q)
    (G : ∀ T', oX p l e R s m args below meth c Z T' V' cells slots → oG p e below s Z R Ret T' (mkF m q Ls st)) : oG p e below s Z R Ret T (mkF m pc Ls (.int x :: .int j :: .ref a :: st)) := by
  subst hp hV hjn hx'; obtain ⟨locs, c', s', q1, q2, Y, N, H⟩ := X
  have S := H.sat hi
  obtain ⟨cl, A, r1, r2⟩ := id S
  have hin : ¬ (j < 0 ∨ cl.slots.size ≤ j.toNatClampNeg) := fun z => z.elim hj fun y => by
    have r1' : cl.slots.toList = vs := r1
    rw [← r1', Array.length_toList] at hlt; omega
  obtain ⟨T', h', Y', e', W, k⟩ := stI Y E.1 E.2.1 rfl A hin (g := mkF m pc Ls (.int x :: .int j :: .ref a :: st)) rfl rfl (hb E.2.2.2.1 hd)
  subst e'
  exact (G T' ⟨_, c', s', q1, q2, Y', Fr.snoc Y' N (H.ge hi), H.wr W hi (S.wrA W)⟩).step k
theorem gLastore (E : oE p l e R s m args below meth c Z bytes own nm maxL ret) (X : oX p l e R s m args below meth c Z T V cells slots) {i jn : Nat} {a : Addr} {vs : List Value} {j : Int32} {x x' : Int64} (hd : decode bytes pc = .ok (.lastore, 1))
    (hi : V[i]? = some (a, .inr (.long, vs))) (hj : ¬ j < 0) (hjn : j.toNatClampNeg = jn) (hlt : jn < vs.length) (hx' : x = x') (hV : V.set i (a, .inr (.long, vs.set jn (.long x'))) = V') (hp : pc + 1 = q)
    (G : ∀ T', oX p l e R s m args below meth c Z T' V' cells slots → oG p e below s Z R Ret T' (mkF m q Ls st)) : oG p e below s Z R Ret T (mkF m pc Ls (.long x :: .int j :: .ref a :: st)) := by
  subst hp hV hjn hx'; obtain ⟨locs, c', s', q1, q2, Y, N, H⟩ := X
  have S := H.sat hi
  obtain ⟨cl, A, r1, r2⟩ := id S
  have hin : ¬ (j < 0 ∨ cl.slots.size ≤ j.toNatClampNeg) := fun z => z.elim hj fun y => by
    have r1' : cl.slots.toList = vs := r1
    rw [← r1', Array.length_toList] at hlt; omega
  obtain ⟨T', h', Y', e', W, k⟩ := stJ Y E.1 E.2.1 rfl A hin (g := mkF m pc Ls (.long x :: .int j :: .ref a :: st)) rfl rfl (hb E.2.2.2.1 hd)
  subst e'
  exact (G T' ⟨_, c', s', q1, q2, Y', Fr.snoc Y' N (H.ge hi), H.wr W hi (S.wrA W)⟩).step k
theorem gCastore (E : oE p l e R s m args below meth c Z bytes own nm maxL ret) (X : oX p l e R s m args below meth c Z T V cells slots) {i jn : Nat} {a : Addr} {vs : List Value} {j : Int32} {x x' : Int32} (hd : decode bytes pc = .ok (.castore, 1))
    (hi : V[i]? = some (a, .inr (.char, vs))) (hj : ¬ j < 0) (hjn : j.toNatClampNeg = jn) (hlt : jn < vs.length) (hx' : nar .char x = x') (hV : V.set i (a, .inr (.char, vs.set jn (.int x'))) = V') (hp : pc + 1 = q)
    (G : ∀ T', oX p l e R s m args below meth c Z T' V' cells slots → oG p e below s Z R Ret T' (mkF m q Ls st)) : oG p e below s Z R Ret T (mkF m pc Ls (.int x :: .int j :: .ref a :: st)) := by
  subst hp hV hjn hx'; obtain ⟨locs, c', s', q1, q2, Y, N, H⟩ := X
  have S := H.sat hi
  obtain ⟨cl, A, r1, r2⟩ := id S
  have hin : ¬ (j < 0 ∨ cl.slots.size ≤ j.toNatClampNeg) := fun z => z.elim hj fun y => by
    have r1' : cl.slots.toList = vs := r1
    rw [← r1', Array.length_toList] at hlt; omega
  obtain ⟨T', h', Y', e', W, k⟩ := stC Y E.1 E.2.1 rfl A hin (g := mkF m pc Ls (.int x :: .int j :: .ref a :: st)) rfl rfl (hb E.2.2.2.1 hd)
  subst e'
  exact (G T' ⟨_, c', s', q1, q2, Y', Fr.snoc Y' N (H.ge hi), H.wr W hi (S.wrA W)⟩).step k
/-! 7. calls -/
theorem oBack {y : MethodName} {bs : ByteArray} {mx : Nat} {rt : Option FieldType} {rm : Room} {as' : Array Value} {Ret' : Option Value → oVw → Prop} {W len : Nat} (E : oE p l e R s m args below meth c Z bytes own nm maxL ret) (K : oCon l Z y bs mx rt rm as' V Ret') {h : Heap} (H : oHv Z h V)
    (wc : (Jvm.Cond.code y bs mx rt).before a0 Z = true) (wz : (Jvm.Cond.initialized y.cls).before a0 Z = true) (hf : rm.frames + 1 ≤ R.frames) (hl : W + (mx + 11) + rm.locals ≤ R.locals) :
    Back l R p e below s args y len W (fun A a => a = as' ∧ A.U.heap = h ∧ A.cells + rm.cells ≤ R.cells ∧ A.slots + rm.slots ≤ R.slots) (fun A _ v B => ∃ L, (Fr Z.heap.size L ∧ ∃ V', Ret' v V' ∧ oHv Z B.U.heap V') ∧ B.locs = A.locs ++ L ∧ B.cells = A.cells + rm.cells ∧ B.slots = A.slots + rm.slots) :=
  backOf (W := W) (Q := fun v h L => Fr Z.heap.size L ∧ ∃ V', Ret' v V' ∧ oHv Z h V') (K [] h H) E.2.1 wc wz hf hl
theorem gCallS (E : oE p l e R s m args below meth c Z bytes own nm maxL ret) (X : oX p l e R s m args below meth c Z T V cells slots) {y : MethodName} {index : Nat} {bs : ByteArray} {mx : Nat} {rt : Option FieldType} {rm : Room} {Ret' : Option Value → oVw → Prop} {W : Nat} {ps : List FieldType} {r : Option FieldType} (argsL rest : List Value) (hd : decode bytes pc = .ok (.invokestatic index, 3))
    (w1 : (Jvm.Cond.methodLink own index y).before a0 Z = true) (w2 : (Jvm.Cond.static y).before a0 Z = true) (w3 : (Jvm.Cond.initialized y.cls).before a0 Z = true) (w4 : (Jvm.Cond.code y bs mx rt).before a0 Z = true) (hy : y.cls ≠ "java/lang/invoke/MethodHandle" ∧ y.cls ≠ "java/lang/invoke/VarHandle")
    (K : oCon l Z y bs mx rt rm argsL.toArray V Ret') (hds : parseMethodDescriptor y.desc = some ⟨ps, r⟩) (hlen : argsL.length = ps.length) (hst : st = argsL.reverse ++ rest) (hsz : Ls.size = maxL) (hf : rm.frames + 1 ≤ R.frames) (hW : (rest.map fun v => v.category).sum ≤ W) (hl : W + (mx + 11) + rm.locals ≤ R.locals)
    (hc : cells + rm.cells ≤ c2) (hs : slots + rm.slots ≤ s2) (hc2 : c2 ≤ R.cells) (hs2 : s2 ≤ R.slots) (hp : pc + 3 = q)
    (G : ∀ T' v V', Ret' v V' → oX p l e R s m args below meth c Z T' V' c2 s2 → oG p e below s Z R Ret T' (mkF m q Ls (v.toList ++ rest))) : oG p e below s Z R Ret T (mkF m pc Ls st) := by
  subst hp; obtain ⟨locs, c', s', q1, q2, Y, N, H⟩ := X
  obtain ⟨v, vm₁, ⟨T', L', k', n'⟩, -, Y', ⟨Lc, ⟨hN, V', hR, hV⟩, l', y', z'⟩, k⟩ := Jvm.LawKit.callS Y E.1 (y := y) E.2.2.1 (mvT E.2.1 w1) (mvT E.2.1 w2) (mvT E.2.1 w3) (mvT E.2.1 w4) hy (oBack (W := W) E K H w4 w3 hf hl) (g := mkF m pc Ls st) rfl (by rw [E.2.2.2.2.1]; exact hsz) (argsL := argsL) (rest := rest) (lenOf hds hlen) hst (by show 2 * 0 + _ ≤ _; omega) (hb E.2.2.2.1 hd) (fun _ _ => ⟨rfl, rfl, by dsimp only [Pt.cells]; omega, by dsimp only [Pt.slots]; omega⟩)
  dsimp only [Pt.U, Pt.locs, Pt.cells, Pt.slots] at Y' l' y' z' k hV
  subst l' y' z'
  exact (G T' v V' hR ⟨_, _, _, by omega, by omega, Y', Fr.app N hN, hV⟩).step k
theorem gCallI (E : oE p l e R s m args below meth c Z bytes own nm maxL ret) (X : oX p l e R s m args below meth c Z T V cells slots) {y : MethodName} {index : Nat} {bs : ByteArray} {mx : Nat} {rm : Room} {Ret' : Option Value → oVw → Prop} {W : Nat} {ps : List FieldType} {r : Option FieldType} {a : Addr} (argsL rest : List Value) (hd : decode bytes pc = .ok (.invokespecial index, 3)) (hy1 : y.name = "<init>")
    (w1 : (Jvm.Cond.methodLink own index y).before a0 Z = true) (w2 : (Jvm.Cond.instanceMethod y).before a0 Z = true) (w3 : (Jvm.Cond.initialized y.cls).before a0 Z = true) (w4 : (Jvm.Cond.code y bs mx none).before a0 Z = true) (hy : y.cls ≠ "java/lang/invoke/MethodHandle" ∧ y.cls ≠ "java/lang/invoke/VarHandle")
    (K : oCon l Z y bs mx none rm (.ref a :: argsL).toArray V Ret') (hds : parseMethodDescriptor y.desc = some ⟨ps, r⟩) (hlen : argsL.length = ps.length) (hst : st = argsL.reverse ++ .ref a :: rest) (hsz : Ls.size = maxL) (hf : rm.frames + 1 ≤ R.frames) (hW : (rest.map fun v => v.category).sum ≤ W) (hl : W + (mx + 11) + rm.locals ≤ R.locals)
    (hc : cells + rm.cells ≤ c2) (hs : slots + rm.slots ≤ s2) (hc2 : c2 ≤ R.cells) (hs2 : s2 ≤ R.slots) (hp : pc + 3 = q)
    (G : ∀ T' v V', Ret' v V' → oX p l e R s m args below meth c Z T' V' c2 s2 → oG p e below s Z R Ret T' (mkF m q Ls (v.toList ++ rest))) : oG p e below s Z R Ret T (mkF m pc Ls st) := by
  subst hp; obtain ⟨locs, c', s', q1, q2, Y, N, H⟩ := X
  obtain ⟨v, vm₁, ⟨T', L', k', n'⟩, -, Y', ⟨Lc, ⟨hN, V', hR, hV⟩, l', y', z'⟩, k⟩ := Y.specialBack E.1 (y := y) hy1 E.2.2.1 (mvT E.2.1 w1) (mvT E.2.1 w2) (mvT E.2.1 w4) hy (oBack (W := W) E K H w4 w3 hf hl) (g := mkF m pc Ls st) rfl (by rw [E.2.2.2.2.1]; exact hsz) (Steps.refl _) (a := a) (argsL := argsL) (rest := rest) (lenOf hds hlen) hst (by show 2 * 0 + _ ≤ _; omega) (hb E.2.2.2.1 hd) (fun _ _ => ⟨rfl, rfl, by dsimp only [Pt.cells]; omega, by dsimp only [Pt.slots]; omega⟩)
  dsimp only [Pt.U, Pt.locs, Pt.cells, Pt.slots] at Y' l' y' z' k hV
  subst l' y' z'
  exact (G T' v V' hR ⟨_, _, _, by omega, by omega, Y', Fr.app N hN, hV⟩).steps k
theorem gCallV (E : oE p l e R s m args below meth c Z bytes own nm maxL ret) (X : oX p l e R s m args below meth c Z T V cells slots) {y z : MethodName} {C : String} {index i : Nat} {bs : ByteArray} {mx : Nat} {rt : Option FieldType} {rm : Room} {Ret' : Option Value → oVw → Prop} {W : Nat} {ps : List FieldType} {r : Option FieldType} {a : Addr} {fs : List (String × String × String × Value)} (argsL rest : List Value) (hd : decode bytes pc = .ok (.invokevirtual index, 3)) (hi : V[i]? = some (a, .inl (C, fs)))
    (w1 : (Jvm.Cond.methodLink own index y).before a0 Z = true) (w2 : (Jvm.Cond.declares y).before a0 Z = true) (w5 : (Jvm.Cond.selects C y z).before a0 Z = true) (w6 : (Jvm.Cond.selects y.cls y y).before a0 Z = true) (w7 : (Jvm.Cond.instanceMethod z).before a0 Z = true) (w3 : (Jvm.Cond.initialized z.cls).before a0 Z = true) (w4 : (Jvm.Cond.code z bs mx rt).before a0 Z = true) (hy : y.cls ≠ "java/lang/invoke/MethodHandle" ∧ y.cls ≠ "java/lang/invoke/VarHandle")
    (K : oCon l Z z bs mx rt rm (.ref a :: argsL).toArray V Ret') (hds : parseMethodDescriptor y.desc = some ⟨ps, r⟩) (hlen : argsL.length = ps.length) (hst : st = argsL.reverse ++ .ref a :: rest) (hsz : Ls.size = maxL) (hf : rm.frames + 1 ≤ R.frames) (hW : (rest.map fun v => v.category).sum ≤ W) (hl : W + (mx + 11) + rm.locals ≤ R.locals)
    (hc : cells + rm.cells ≤ c2) (hs : slots + rm.slots ≤ s2) (hc2 : c2 ≤ R.cells) (hs2 : s2 ≤ R.slots) (hp : pc + 3 = q)
    (G : ∀ T' v V', Ret' v V' → oX p l e R s m args below meth c Z T' V' c2 s2 → oG p e below s Z R Ret T' (mkF m q Ls (v.toList ++ rest))) : oG p e below s Z R Ret T (mkF m pc Ls st) := by
  subst hp; obtain ⟨locs, c', s', q1, q2, Y, N, H⟩ := X
  obtain ⟨cq, kq, qa, qb, qc⟩ := isOf E.2.1 (T := T) rfl (H.sat hi).1
  obtain ⟨v, vm₁, ⟨T', L', k', n'⟩, -, Y', ⟨Lc, ⟨hN, V', hR, hV⟩, l', y', z'⟩, k⟩ := Y.virtualBack E.1 (y := y) (z := z) E.2.2.1 (mvT E.2.1 w1) (mvT E.2.1 w2) (notFace_of_selects (args := #[]) (mvT E.2.1 w6)) (mvT E.2.1 w5) (mvT E.2.1 w7) hy (oBack (W := W) E K H w4 w3 hf hl) qa qc (g := mkF m pc Ls st) rfl (by rw [E.2.2.2.2.1]; exact hsz) (Steps.refl _) (argsL := argsL) (rest := rest) (lenOf hds hlen) hst (by show 2 * 0 + _ ≤ _; omega) (hb E.2.2.2.1 hd) (fun _ _ => ⟨rfl, rfl, by dsimp only [Pt.cells]; omega, by dsimp only [Pt.slots]; omega⟩)
  dsimp only [Pt.U, Pt.locs, Pt.cells, Pt.slots] at Y' l' y' z' k hV
  subst l' y' z'
  exact (G T' v V' hR ⟨_, _, _, by omega, by omega, Y', Fr.app N hN, hV⟩).steps k
theorem gCallV0 (E : oE p l e R s m args below meth c Z bytes own nm maxL ret) (X : oX p l e R s m args below meth c Z T V cells slots) {y z : MethodName} {C : String} {index : Nat} {bs : ByteArray} {mx : Nat} {rt : Option FieldType} {rm : Room} {Ret' : Option Value → oVw → Prop} {W : Nat} {ps : List FieldType} {r : Option FieldType} {a : Addr} (argsL rest : List Value) (hd : decode bytes pc = .ok (.invokevirtual index, 3)) (hE : Exa Z Z.heap a C)
    (w1 : (Jvm.Cond.methodLink own index y).before a0 Z = true) (w2 : (Jvm.Cond.declares y).before a0 Z = true) (w5 : (Jvm.Cond.selects C y z).before a0 Z = true) (w6 : (Jvm.Cond.selects y.cls y y).before a0 Z = true) (w7 : (Jvm.Cond.instanceMethod z).before a0 Z = true) (w3 : (Jvm.Cond.initialized z.cls).before a0 Z = true) (w4 : (Jvm.Cond.code z bs mx rt).before a0 Z = true) (hy : y.cls ≠ "java/lang/invoke/MethodHandle" ∧ y.cls ≠ "java/lang/invoke/VarHandle")
    (K : oCon l Z z bs mx rt rm (.ref a :: argsL).toArray V Ret') (hds : parseMethodDescriptor y.desc = some ⟨ps, r⟩) (hlen : argsL.length = ps.length) (hst : st = argsL.reverse ++ .ref a :: rest) (hsz : Ls.size = maxL) (hf : rm.frames + 1 ≤ R.frames) (hW : (rest.map fun v => v.category).sum ≤ W) (hl : W + (mx + 11) + rm.locals ≤ R.locals)
    (hc : cells + rm.cells ≤ c2) (hs : slots + rm.slots ≤ s2) (hc2 : c2 ≤ R.cells) (hs2 : s2 ≤ R.slots) (hp : pc + 3 = q)
    (G : ∀ T' v V', Ret' v V' → oX p l e R s m args below meth c Z T' V' c2 s2 → oG p e below s Z R Ret T' (mkF m q Ls (v.toList ++ rest))) : oG p e below s Z R Ret T (mkF m pc Ls st) := by
  subst hp; obtain ⟨locs, c', s', q1, q2, Y, N, H⟩ := X
  obtain ⟨cq, kq, qa, qb, qc⟩ := isOf E.2.1 (T := T) rfl (hE.ext H.1)
  obtain ⟨v, vm₁, ⟨T', L', k', n'⟩, -, Y', ⟨Lc, ⟨hN, V', hR, hV⟩, l', y', z'⟩, k⟩ := Y.virtualBack E.1 (y := y) (z := z) E.2.2.1 (mvT E.2.1 w1) (mvT E.2.1 w2) (notFace_of_selects (args := #[]) (mvT E.2.1 w6)) (mvT E.2.1 w5) (mvT E.2.1 w7) hy (oBack (W := W) E K H w4 w3 hf hl) qa qc (g := mkF m pc Ls st) rfl (by rw [E.2.2.2.2.1]; exact hsz) (Steps.refl _) (argsL := argsL) (rest := rest) (lenOf hds hlen) hst (by show 2 * 0 + _ ≤ _; omega) (hb E.2.2.2.1 hd) (fun _ _ => ⟨rfl, rfl, by dsimp only [Pt.cells]; omega, by dsimp only [Pt.slots]; omega⟩)
  dsimp only [Pt.U, Pt.locs, Pt.cells, Pt.slots] at Y' l' y' z' k hV
  subst l' y' z'
  exact (G T' v V' hR ⟨_, _, _, by omega, by omega, Y', Fr.app N hN, hV⟩).steps k
end Walk

theorem oRemEq (x y : Int32) : x - x / y * y = x % y := by
  apply Int32.toInt_inj.mp
  rw [Int32.toInt_sub, Int32.toInt_mul, Int32.toInt_div, Int32.toInt_mod, Int.bmod_mul_bmod, Int.sub_bmod_bmod]
  have : x.toInt - x.toInt.tdiv y.toInt * y.toInt = x.toInt.tmod y.toInt := by rw [Int.tmod_def, Int.mul_comm]
  rw [this, ← Int32.toInt_mod]
  have h := rng32 (x % y)
  exact Int.bmod_eq_of_le (by omega) (by omega)
theorem oRemEqL (x y : Int64) : x - x / y * y = x % y := by
  apply Int64.toInt_inj.mp
  rw [Int64.toInt_sub, Int64.toInt_mul, Int64.toInt_div, Int64.toInt_mod, Int.bmod_mul_bmod, Int.sub_bmod_bmod]
  have : x.toInt - x.toInt.tdiv y.toInt * y.toInt = x.toInt.tmod y.toInt := by rw [Int.tmod_def, Int.mul_comm]
  rw [this, ← Int64.toInt_mod]
  have h := rng64 (x % y)
  exact Int.bmod_eq_of_le (by omega) (by omega)
theorem oBm32 {n : Int} (h : -2147483648 ≤ n ∧ n < 2147483648) : n.bmod (2 ^ 32) = n := Int.bmod_eq_of_le (by have := h.1; omega) (by have := h.2; omega)
theorem oBm64 {n : Int} (h : -9223372036854775808 ≤ n ∧ n < 9223372036854775808) : n.bmod (2 ^ 64) = n := Int.bmod_eq_of_le (by have := h.1; omega) (by have := h.2; omega)
theorem oAdd32 {x y : Int32} (h : -2147483648 ≤ (x.toInt + y.toInt) ∧ (x.toInt + y.toInt) < 2147483648) : (x + y).toInt = x.toInt + y.toInt := by rw [Int32.toInt_add, oBm32 h]
theorem oSub32 {x y : Int32} (h : -2147483648 ≤ (x.toInt - y.toInt) ∧ (x.toInt - y.toInt) < 2147483648) : (x - y).toInt = x.toInt - y.toInt := by rw [Int32.toInt_sub, oBm32 h]
theorem oMul32 {x y : Int32} (h : -2147483648 ≤ (x.toInt * y.toInt) ∧ (x.toInt * y.toInt) < 2147483648) : (x * y).toInt = x.toInt * y.toInt := by rw [Int32.toInt_mul, oBm32 h]
theorem oAdd64 {x y : Int64} (h : -9223372036854775808 ≤ (x.toInt + y.toInt) ∧ (x.toInt + y.toInt) < 9223372036854775808) : (x + y).toInt = x.toInt + y.toInt := by rw [Int64.toInt_add, oBm64 h]
theorem oSub64 {x y : Int64} (h : -9223372036854775808 ≤ (x.toInt - y.toInt) ∧ (x.toInt - y.toInt) < 9223372036854775808) : (x - y).toInt = x.toInt - y.toInt := by rw [Int64.toInt_sub, oBm64 h]
theorem oMul64 {x y : Int64} (h : -9223372036854775808 ≤ (x.toInt * y.toInt) ∧ (x.toInt * y.toInt) < 9223372036854775808) : (x * y).toInt = x.toInt * y.toInt := by rw [Int64.toInt_mul, oBm64 h]
theorem oRem32 {x y : Int32} (hx : 0 ≤ x.toInt) : (x % y).toInt = x.toInt % y.toInt := by rw [Int32.toInt_mod, Int.tmod_eq_emod_of_nonneg hx]
theorem oIx (x k : Int32) (hx : 0 ≤ x.toInt) (hk : 0 ≤ k.toInt) (h : x.toInt + k.toInt < 2147483648) : ¬ (x + k) < 0 ∧ (x + k).toNatClampNeg = x.toNatClampNeg + k.toNatClampNeg := by
  have e : (x + k).toInt = x.toInt + k.toInt := XT.add32 ⟨by omega, by omega⟩
  refine ⟨by rw [XT.negI32]; omega, ?_⟩
  simp only [Int32.toNatClampNeg, e]; omega
theorem oSto {l l' : Array Slot} {i : Nat} {v : Value} {o : Slot} (hold : l[i]? = some o) (ho : One o) (hv : v.category = 1) (e : l.setIfInBounds i (.val v) = l') : storeLocals l i v = some l' := by rw [XS.store1 hold ho hv, e]
theorem oEqI {t : Term} {n : Int32} {args : Array Value} {s : State} (h : (Jvm.Cond.eq t (.int n)).value args s none s [] = some true) : t.eval args s none [] s = some (.int n) := by
  simp only [Cond.value, Term.eval] at h
  cases ht : t.eval args s none [] s with
  | none => simp [ht] at h
  | some x => cases x <;> simp [ht] at h ⊢ <;> exact h
theorem oEqR {t u : Term} {b : Addr} {args : Array Value} {s : State} (h : (Jvm.Cond.eq t u).value args s none s [] = some true) (hu : u.eval args s none [] s = some (.ref b)) : t.eval args s none [] s = some (.ref b) := by
  simp only [Cond.value, hu] at h
  cases ht : t.eval args s none [] s with
  | none => simp [ht] at h
  | some x => cases x <;> simp [ht] at h ⊢ <;> exact h
theorem oN0 {x : Int32} (hx : 0 ≤ x.toInt) : ¬ x < 0 := by rw [XT.negI32]; omega
theorem oB8 (x : Int32) : nar .byte x.toInt8.toInt32 = x.toInt8.toInt32 := by simp [nar]
theorem oLt {α : Type} {l : List α} {i : Nat} {x : α} (h : l[i]? = some x) : i < l.length := (List.getElem?_eq_some_iff.mp h).1
theorem oNarR {t : FieldType} {v : Value} (h : v.isRef = true) : narrow t v = v := by cases v <;> simp [Value.isRef] at h <;> cases t <;> rfl
theorem oFitR {t : FieldType} {v : Value} (ht : t.isReference = true) (h : v.isRef = true) : fits t v = true := by cases v <;> simp [Value.isRef] at h <;> cases t <;> first | rfl | cases ht
def own_pick (u : Int32) : Int32 := if u &&& (3 : Int32) = 0 then (10 : Int32) else if u &&& (3 : Int32) = (1 : Int32) then (13 : Int32) else (u >>> ((2 : Int32) &&& 31)).toInt8.toInt32
theorem own_pb (u : Int32) : nar .byte (own_pick u) = own_pick u := by
  unfold own_pick
  by_cases q : u &&& (3 : Int32) = 0
  · rw [if_pos q]; decide
  · rw [if_neg q]
    by_cases q2 : u &&& (3 : Int32) = (1 : Int32)
    · rw [if_pos q2]; decide
    · rw [if_neg q2]; exact oB8 _
def own_g (ws : List Int32) (j : Nat) : Int32 := ws.getD j 0
theorem own_rd {ws : List Int32} {j : Nat} (h : j < ws.length) : (ws.map Value.int)[j]? = some (.int (own_g ws j)) := by
  simp [own_g, List.getD_eq_getElem?_getD, h]
theorem own_n (u : Int32) : (u &&& (3 : Int32)) = 0 ∨ (u &&& (3 : Int32)) = 1 ∨ (u &&& (3 : Int32)) = 2 ∨ (u &&& (3 : Int32)) = 3 := by
  have h := c_mask u 3 2 (by decide) (by decide)
  simp only [← Int32.toInt_inj, h]
  show _ = 0 ∨ _ = 1 ∨ _ = 2 ∨ _ = 3
  omega
def own_line (ws : List Int32) (nx iv ev : Int32) (I : Nat) : Prop := iv.toInt = (I : Int) ∧ nx.toInt ≤ (I : Int) ∧ I ≤ ws.length ∧ (∀ j : Nat, nx.toInt ≤ (j : Int) → j < I → ¬ own_g ws j = (10 : Int32)) ∧ (I < ws.length → own_g ws I = (10 : Int32)) ∧
  ((ev.toInt = (I : Int) ∧ ¬ (I < ws.length ∧ nx.toInt < (I : Int) ∧ own_g ws (I - 1) = (13 : Int32))) ∨ (ev.toInt = (I : Int) - 1 ∧ I < ws.length ∧ nx.toInt < (I : Int) ∧ own_g ws (I - 1) = (13 : Int32)))
theorem d5_0 : decode method_2_code 0 = .ok (.iload_n 0, 1) := by decide +kernel
theorem d5_1 : decode method_2_code 1 = .ok (.iconst 3, 1) := by decide +kernel
theorem d5_2 : decode method_2_code 2 = .ok (.iand, 1) := by decide +kernel
theorem d5_3 : decode method_2_code 3 = .ok (.istore_n 1, 1) := by decide +kernel
theorem d5_4 : decode method_2_code 4 = .ok (.iload_n 1, 1) := by decide +kernel
theorem d5_5 : decode method_2_code 5 = .ok (.ifCond .ne 6, 3) := by decide +kernel
theorem d5_8 : decode method_2_code 8 = .ok (.bipush 10, 2) := by decide +kernel
theorem d5_10 : decode method_2_code 10 = .ok (.ireturn, 1) := by decide +kernel
theorem d5_11 : decode method_2_code 11 = .ok (.iload_n 1, 1) := by decide +kernel
theorem d5_12 : decode method_2_code 12 = .ok (.iconst 1, 1) := by decide +kernel
theorem d5_13 : decode method_2_code 13 = .ok (.if_icmp .ne 6, 3) := by decide +kernel
theorem d5_16 : decode method_2_code 16 = .ok (.bipush 13, 2) := by decide +kernel
theorem d5_18 : decode method_2_code 18 = .ok (.ireturn, 1) := by decide +kernel
theorem d5_19 : decode method_2_code 19 = .ok (.iload_n 0, 1) := by decide +kernel
theorem d5_20 : decode method_2_code 20 = .ok (.iconst 2, 1) := by decide +kernel
theorem d5_21 : decode method_2_code 21 = .ok (.ishr, 1) := by decide +kernel
theorem d5_22 : decode method_2_code 22 = .ok (.i2b, 1) := by decide +kernel
theorem d5_23 : decode method_2_code 23 = .ok (.ireturn, 1) := by decide +kernel
theorem pn_com_example_meanfix_meanfix_LinesNextPinLaw : plainName "com/example/meanfix/meanfix/LinesNextPinLaw" = true := by first | (simp [plainName, overriddenIn]; done) | decide +kernel
set_option maxRecDepth 65536 in
set_option maxHeartbeats 40000000 in
theorem cP (l : Launch) (Z : State) (a0 : Array Value) (hw : ∀ d ∈ tables_1, d.before a0 Z = true) {V : oVw} (y0 : Int32)   :
    oCon l Z (⟨"com/example/meanfix/meanfix/LinesNextPinLaw", "pick", "(I)B"⟩ : MethodName) method_2_code 2 (some .byte) ({ frames := 0, cells := 0, slots := 0, locals := 0 } : Room) #[(.int y0)] V (fun v V' => v = some (.int (own_pick y0)) ∧ V' = V) := by
  refine oEnter (plainFor_of_name pn_com_example_meanfix_meanfix_LinesNextPinLaw) (Ls := #[.val (.int y0), .unset]) (fun m => by first | (simp [entryFrame, mkF, argsToLocals, Value.category]; done) | rfl) ?_
  intro p e s m below meth c T E X
  refine gIloadN E X d5_0 rfl (q := 1) rfl ?_
  refine gIconst E X d5_1 (v := (3 : Int32)) (by decide) (q := 2) rfl ?_
  refine gIand E X d5_2 (z := (y0 &&& (3 : Int32))) rfl (q := 3) rfl ?_
  refine gIstoreN E X d5_3 (l' := #[.val (.int y0), .val (.int (y0 &&& (3 : Int32)))]) rfl (q := 4) rfl ?_
  refine gIloadN E X d5_4 rfl (q := 5) rfl ?_
  refine gIf_ne E X d5_5 (by decide) (q := 11) (by decide) (q' := 8) rfl (fun h5 => ?_) (fun h5 => ?_)
  · refine gIloadN E X d5_11 rfl (q := 12) rfl ?_
    refine gIconst E X d5_12 (v := (1 : Int32)) (by decide) (q := 13) rfl ?_
    refine gIc_ne E X d5_13 (by decide) (q := 19) (by decide) (q' := 16) rfl (fun h13 => ?_) (fun h13 => ?_)
    · refine gIloadN E X d5_19 rfl (q := 20) rfl ?_
      refine gIconst E X d5_20 (v := (2 : Int32)) (by decide) (q := 21) rfl ?_
      refine gIshr E X d5_21 (z := (y0 >>> ((2 : Int32) &&& 31))) rfl (q := 22) rfl ?_
      refine gI2b E X d5_22 (z := (y0 >>> ((2 : Int32) &&& 31)).toInt8.toInt32) rfl (q := 23) rfl ?_
      exact gRetN E X (by simp) d5_23 (by decide) (by decide) (⟨by rw [own_pick, if_neg h5, if_neg h13, oB8], rfl⟩)
    · refine gBipush E X d5_16 (v := (13 : Int32)) (by decide) (q := 18) rfl ?_
      exact gRetN E X (by simp) d5_18 (by decide) (by decide) (⟨by rw [own_pick, if_neg h5, if_pos h13]; decide, rfl⟩)
  · refine gBipush E X d5_8 (v := (10 : Int32)) (by decide) (q := 10) rfl ?_
    exact gRetN E X (by simp) d5_10 (by decide) (by decide) (⟨by rw [own_pick, if_pos h5]; decide, rfl⟩)
theorem d1_0 : decode prog_52_method_1_code 0 = .ok (.aload_n 0, 1) := by decide +kernel
theorem d1_1 : decode prog_52_method_1_code 1 = .ok (.invokespecial 1, 3) := by decide +kernel
theorem d1_4 : decode prog_52_method_1_code 4 = .ok (.aload_n 0, 1) := by decide +kernel
theorem d1_5 : decode prog_52_method_1_code 5 = .ok (.aload_n 1, 1) := by decide +kernel
theorem d1_6 : decode prog_52_method_1_code 6 = .ok (.putfield 7, 3) := by decide +kernel
theorem d1_9 : decode prog_52_method_1_code 9 = .ok (.return_, 1) := by decide +kernel
theorem pn_com_example_meanfix_meanfix_TextFile_Lines : plainName "com/example/meanfix/meanfix/TextFile$Lines" = true := by first | (simp [plainName, overriddenIn]; done) | decide +kernel
set_option maxRecDepth 65536 in
set_option maxHeartbeats 40000000 in
theorem cI (l : Launch) (Z : State) (a0 : Array Value) (hw : ∀ d ∈ tables_1, d.before a0 Z = true) {V : oVw} (a : Addr) (b : Addr) {i : Nat} (hi : V[i]? = some (a, (.inl ("com/example/meanfix/meanfix/TextFile$Lines", [("com/example/meanfix/meanfix/TextFile$Lines", "bytes", "[B", .null), ("com/example/meanfix/meanfix/TextFile$Lines", "next", "I", (.int (0 : Int32))), ("com/example/meanfix/meanfix/TextFile$Lines", "start", "I", (.int (0 : Int32))), ("com/example/meanfix/meanfix/TextFile$Lines", "end", "I", (.int (0 : Int32)))]))))  :
    oCon l Z (⟨"com/example/meanfix/meanfix/TextFile$Lines", "<init>", "([B)V"⟩ : MethodName) prog_52_method_1_code 2 none ({ frames := 1, cells := 0, slots := 0, locals := 12 } : Room) #[(.ref a), (.ref b)] V (fun v V' => v = none ∧ V' = V.set i (a, (.inl ("com/example/meanfix/meanfix/TextFile$Lines", [("com/example/meanfix/meanfix/TextFile$Lines", "bytes", "[B", (.ref b)), ("com/example/meanfix/meanfix/TextFile$Lines", "next", "I", (.int (0 : Int32))), ("com/example/meanfix/meanfix/TextFile$Lines", "start", "I", (.int (0 : Int32))), ("com/example/meanfix/meanfix/TextFile$Lines", "end", "I", (.int (0 : Int32)))])))) := by
  refine oEnter (plainFor_of_name pn_com_example_meanfix_meanfix_TextFile_Lines) (Ls := #[.val (.ref a), .val (.ref b)]) (fun m => by first | (simp [entryFrame, mkF, argsToLocals, Value.category]; done) | rfl) ?_
  intro p e s m below meth c T E X
  refine gAloadN E X d1_0 rfl rfl (q := 1) rfl ?_
  refine gInitO E X (W := 0) d1_1 (hw _ (List.mem_of_getElem? (i := 7) rfl)) (hw _ (List.mem_of_getElem? (i := 8) rfl)) (hw _ (List.mem_of_getElem? (i := 9) rfl)) rfl (by decide) (Nat.le_of_eq rfl) (by decide) (q := 4) rfl ?_
  intro T1 X1
  refine gAloadN E X1 d1_4 rfl rfl (q := 5) rfl ?_
  refine gAloadN E X1 d1_5 rfl rfl (q := 6) rfl ?_
  refine gPutF E X1 d1_6 (hw _ (List.mem_of_getElem? (i := 10) rfl)) Via.refl (i := i) hi (j := 0) rfl (Or.inr ⟨(hw _ (List.mem_of_getElem? (i := 11) rfl)), rfl, rfl⟩) (hw _ (List.mem_of_getElem? (i := 2) rfl)) (ty := (.array .byte)) (by decide) rfl rfl (V' := (V.set i (a, (.inl ("com/example/meanfix/meanfix/TextFile$Lines", [("com/example/meanfix/meanfix/TextFile$Lines", "bytes", "[B", (.ref b)), ("com/example/meanfix/meanfix/TextFile$Lines", "next", "I", (.int (0 : Int32))), ("com/example/meanfix/meanfix/TextFile$Lines", "start", "I", (.int (0 : Int32))), ("com/example/meanfix/meanfix/TextFile$Lines", "end", "I", (.int (0 : Int32)))]))))) rfl (q := 9) rfl ?_
  intro T2 X2
  obtain ⟨V2, eV2⟩ : ∃ z, z = (V.set i (a, (.inl ("com/example/meanfix/meanfix/TextFile$Lines", [("com/example/meanfix/meanfix/TextFile$Lines", "bytes", "[B", (.ref b)), ("com/example/meanfix/meanfix/TextFile$Lines", "next", "I", (.int (0 : Int32))), ("com/example/meanfix/meanfix/TextFile$Lines", "start", "I", (.int (0 : Int32))), ("com/example/meanfix/meanfix/TextFile$Lines", "end", "I", (.int (0 : Int32)))])))) := ⟨_, rfl⟩
  rw [← eV2] at X2
  have i2_0 := (eV2 ▸ oSetGet hi : V2[i]? = some (a, (.inl ("com/example/meanfix/meanfix/TextFile$Lines", [("com/example/meanfix/meanfix/TextFile$Lines", "bytes", "[B", (.ref b)), ("com/example/meanfix/meanfix/TextFile$Lines", "next", "I", (.int (0 : Int32))), ("com/example/meanfix/meanfix/TextFile$Lines", "start", "I", (.int (0 : Int32))), ("com/example/meanfix/meanfix/TextFile$Lines", "end", "I", (.int (0 : Int32)))]))))
  exact gRetV E X2 d1_9 (by decide) (by decide) (⟨rfl, by simp only [eV2, List.set_set]⟩)
theorem d6_0 : decode prog_52_method_4_code 0 = .ok (.aload_n 0, 1) := by decide +kernel
theorem d6_1 : decode prog_52_method_4_code 1 = .ok (.getfield 17, 3) := by decide +kernel
theorem d6_4 : decode prog_52_method_4_code 4 = .ok (.ireturn, 1) := by decide +kernel
set_option maxRecDepth 65536 in
set_option maxHeartbeats 40000000 in
theorem cS (l : Launch) (Z : State) (a0 : Array Value) (hw : ∀ d ∈ tables_1, d.before a0 Z = true) {V : oVw} (a : Addr) (b : Addr) (y1 : Int32) (y2 : Int32) (y3 : Int32) {i : Nat} (hi : V[i]? = some (a, (.inl ("com/example/meanfix/meanfix/TextFile$Lines", [("com/example/meanfix/meanfix/TextFile$Lines", "bytes", "[B", (.ref b)), ("com/example/meanfix/meanfix/TextFile$Lines", "next", "I", (.int y1)), ("com/example/meanfix/meanfix/TextFile$Lines", "start", "I", (.int y2)), ("com/example/meanfix/meanfix/TextFile$Lines", "end", "I", (.int y3))]))))  :
    oCon l Z (⟨"com/example/meanfix/meanfix/TextFile$Lines", "start", "()I"⟩ : MethodName) prog_52_method_4_code 1 (some .int) ({ frames := 0, cells := 0, slots := 0, locals := 0 } : Room) #[(.ref a)] V (fun v V' => v = some (.int y2) ∧ V' = V) := by
  refine oEnter (plainFor_of_name pn_com_example_meanfix_meanfix_TextFile_Lines) (Ls := #[.val (.ref a)]) (fun m => by first | (simp [entryFrame, mkF, argsToLocals, Value.category]; done) | rfl) ?_
  intro p e s m below meth c T E X
  refine gAloadN E X d6_0 rfl rfl (q := 1) rfl ?_
  refine gGetF E X d6_1 (hw _ (List.mem_of_getElem? (i := 26) rfl)) Via.refl (i := i) hi (j := 2) rfl (q := 4) rfl ?_
  intro T1 X1
  exact gRetI E X1 d6_4 (by decide) (by decide) (⟨rfl, rfl⟩)
theorem d7_0 : decode prog_52_method_5_code 0 = .ok (.aload_n 0, 1) := by decide +kernel
theorem d7_1 : decode prog_52_method_5_code 1 = .ok (.getfield 20, 3) := by decide +kernel
theorem d7_4 : decode prog_52_method_5_code 4 = .ok (.ireturn, 1) := by decide +kernel
set_option maxRecDepth 65536 in
set_option maxHeartbeats 40000000 in
theorem cE (l : Launch) (Z : State) (a0 : Array Value) (hw : ∀ d ∈ tables_1, d.before a0 Z = true) {V : oVw} (a : Addr) (b : Addr) (y1 : Int32) (y2 : Int32) (y3 : Int32) {i : Nat} (hi : V[i]? = some (a, (.inl ("com/example/meanfix/meanfix/TextFile$Lines", [("com/example/meanfix/meanfix/TextFile$Lines", "bytes", "[B", (.ref b)), ("com/example/meanfix/meanfix/TextFile$Lines", "next", "I", (.int y1)), ("com/example/meanfix/meanfix/TextFile$Lines", "start", "I", (.int y2)), ("com/example/meanfix/meanfix/TextFile$Lines", "end", "I", (.int y3))]))))  :
    oCon l Z (⟨"com/example/meanfix/meanfix/TextFile$Lines", "end", "()I"⟩ : MethodName) prog_52_method_5_code 1 (some .int) ({ frames := 0, cells := 0, slots := 0, locals := 0 } : Room) #[(.ref a)] V (fun v V' => v = some (.int y3) ∧ V' = V) := by
  refine oEnter (plainFor_of_name pn_com_example_meanfix_meanfix_TextFile_Lines) (Ls := #[.val (.ref a)]) (fun m => by first | (simp [entryFrame, mkF, argsToLocals, Value.category]; done) | rfl) ?_
  intro p e s m below meth c T E X
  refine gAloadN E X d7_0 rfl rfl (q := 1) rfl ?_
  refine gGetF E X d7_1 (hw _ (List.mem_of_getElem? (i := 28) rfl)) Via.refl (i := i) hi (j := 3) rfl (q := 4) rfl ?_
  intro T1 X1
  exact gRetI E X1 d7_4 (by decide) (by decide) (⟨rfl, rfl⟩)
theorem d4_0 : decode prog_52_method_2_code 0 = .ok (.aload_n 0, 1) := by decide +kernel
theorem d4_1 : decode prog_52_method_2_code 1 = .ok (.getfield 13, 3) := by decide +kernel
theorem d4_4 : decode prog_52_method_2_code 4 = .ok (.aload_n 0, 1) := by decide +kernel
theorem d4_5 : decode prog_52_method_2_code 5 = .ok (.getfield 7, 3) := by decide +kernel
theorem d4_8 : decode prog_52_method_2_code 8 = .ok (.arraylength, 1) := by decide +kernel
theorem d4_9 : decode prog_52_method_2_code 9 = .ok (.if_icmp .lt 5, 3) := by decide +kernel
theorem d4_12 : decode prog_52_method_2_code 12 = .ok (.iconst 0, 1) := by decide +kernel
theorem d4_13 : decode prog_52_method_2_code 13 = .ok (.ireturn, 1) := by decide +kernel
set_option maxRecDepth 65536 in
set_option maxHeartbeats 40000000 in
theorem cN0 (l : Launch) (Z : State) (a0 : Array Value) (hw : ∀ d ∈ tables_1, d.before a0 Z = true) {V : oVw} (a : Addr) (b : Addr) (ws : List Int32) (N : Int32) (y1 : Int32) (y2 : Int32) (y3 : Int32) {i : Nat} (hi : V[i]? = some (a, (.inl ("com/example/meanfix/meanfix/TextFile$Lines", [("com/example/meanfix/meanfix/TextFile$Lines", "bytes", "[B", (.ref b)), ("com/example/meanfix/meanfix/TextFile$Lines", "next", "I", (.int y1)), ("com/example/meanfix/meanfix/TextFile$Lines", "start", "I", (.int y2)), ("com/example/meanfix/meanfix/TextFile$Lines", "end", "I", (.int y3))])))) {k : Nat} (hk : V[k]? = some (b, (.inr (.byte, (ws.map Value.int))))) (hik : k ≠ i) (hN : N.toInt = (ws.length : Int)) (hN' : (ws.map Value.int).length.toInt32 = N) (hs : ¬ y1 < N) :
    oCon l Z (⟨"com/example/meanfix/meanfix/TextFile$Lines", "next", "()Z"⟩ : MethodName) prog_52_method_2_code 2 (some .boolean) ({ frames := 0, cells := 0, slots := 0, locals := 0 } : Room) #[(.ref a)] V (fun v V' => v = some (.int 0) ∧ V' = V) := by
  refine oEnter (plainFor_of_name pn_com_example_meanfix_meanfix_TextFile_Lines) (Ls := #[.val (.ref a), .unset]) (fun m => by first | (simp [entryFrame, mkF, argsToLocals, Value.category]; done) | rfl) ?_
  intro p e s m below meth c T E X
  refine gAloadN E X d4_0 rfl rfl (q := 1) rfl ?_
  refine gGetF E X d4_1 (hw _ (List.mem_of_getElem? (i := 21) rfl)) Via.refl (i := i) hi (j := 1) rfl (q := 4) rfl ?_
  intro T1 X1
  refine gAloadN E X1 d4_4 rfl rfl (q := 5) rfl ?_
  refine gGetF E X1 d4_5 (hw _ (List.mem_of_getElem? (i := 10) rfl)) Via.refl (i := i) hi (j := 0) rfl (q := 8) rfl ?_
  intro T2 X2
  refine gLen E X2 (i := k) (z := N) d4_8 hk hN' (q := 9) rfl ?_
  refine gIc_lt E X2 d4_9 (by decide) (q := 14) (by decide) (q' := 12) rfl (fun h9 => by exfalso; exact hs h9) (fun h9 => ?_)
  refine gIconst E X2 d4_12 (v := (0 : Int32)) (by decide) (q := 13) rfl ?_
  exact gRetN E X2 (by simp) d4_13 (by decide) (by decide) (⟨rfl, rfl⟩)
theorem d4_14 : decode prog_52_method_2_code 14 = .ok (.aload_n 0, 1) := by decide +kernel
theorem d4_15 : decode prog_52_method_2_code 15 = .ok (.aload_n 0, 1) := by decide +kernel
theorem d4_16 : decode prog_52_method_2_code 16 = .ok (.getfield 13, 3) := by decide +kernel
theorem d4_19 : decode prog_52_method_2_code 19 = .ok (.putfield 17, 3) := by decide +kernel
theorem d4_22 : decode prog_52_method_2_code 22 = .ok (.aload_n 0, 1) := by decide +kernel
theorem d4_23 : decode prog_52_method_2_code 23 = .ok (.getfield 17, 3) := by decide +kernel
theorem d4_26 : decode prog_52_method_2_code 26 = .ok (.istore_n 1, 1) := by decide +kernel
theorem d4_27 : decode prog_52_method_2_code 27 = .ok (.iload_n 1, 1) := by decide +kernel
theorem d4_28 : decode prog_52_method_2_code 28 = .ok (.aload_n 0, 1) := by decide +kernel
theorem d4_29 : decode prog_52_method_2_code 29 = .ok (.getfield 7, 3) := by decide +kernel
theorem d4_32 : decode prog_52_method_2_code 32 = .ok (.arraylength, 1) := by decide +kernel
theorem d4_33 : decode prog_52_method_2_code 33 = .ok (.if_icmp .ge 20, 3) := by decide +kernel
theorem d4_36 : decode prog_52_method_2_code 36 = .ok (.aload_n 0, 1) := by decide +kernel
theorem d4_37 : decode prog_52_method_2_code 37 = .ok (.getfield 7, 3) := by decide +kernel
theorem d4_40 : decode prog_52_method_2_code 40 = .ok (.iload_n 1, 1) := by decide +kernel
theorem d4_41 : decode prog_52_method_2_code 41 = .ok (.baload, 1) := by decide +kernel
theorem d4_42 : decode prog_52_method_2_code 42 = .ok (.bipush 10, 2) := by decide +kernel
theorem d4_44 : decode prog_52_method_2_code 44 = .ok (.if_icmp .eq 9, 3) := by decide +kernel
theorem d4_47 : decode prog_52_method_2_code 47 = .ok (.iinc 1 1, 3) := by decide +kernel
theorem d4_50 : decode prog_52_method_2_code 50 = .ok (.goto (-23), 3) := by decide +kernel
theorem d4_53 : decode prog_52_method_2_code 53 = .ok (.aload_n 0, 1) := by decide +kernel
theorem d4_54 : decode prog_52_method_2_code 54 = .ok (.iload_n 1, 1) := by decide +kernel
theorem d4_55 : decode prog_52_method_2_code 55 = .ok (.putfield 20, 3) := by decide +kernel
theorem d4_58 : decode prog_52_method_2_code 58 = .ok (.iload_n 1, 1) := by decide +kernel
theorem d4_59 : decode prog_52_method_2_code 59 = .ok (.aload_n 0, 1) := by decide +kernel
theorem d4_60 : decode prog_52_method_2_code 60 = .ok (.getfield 7, 3) := by decide +kernel
theorem d4_63 : decode prog_52_method_2_code 63 = .ok (.arraylength, 1) := by decide +kernel
theorem d4_64 : decode prog_52_method_2_code 64 = .ok (.if_icmp .ge 40, 3) := by decide +kernel
theorem d4_67 : decode prog_52_method_2_code 67 = .ok (.aload_n 0, 1) := by decide +kernel
theorem d4_68 : decode prog_52_method_2_code 68 = .ok (.getfield 20, 3) := by decide +kernel
theorem d4_71 : decode prog_52_method_2_code 71 = .ok (.aload_n 0, 1) := by decide +kernel
theorem d4_72 : decode prog_52_method_2_code 72 = .ok (.getfield 17, 3) := by decide +kernel
theorem d4_75 : decode prog_52_method_2_code 75 = .ok (.if_icmp .le 29, 3) := by decide +kernel
theorem d4_78 : decode prog_52_method_2_code 78 = .ok (.aload_n 0, 1) := by decide +kernel
theorem d4_79 : decode prog_52_method_2_code 79 = .ok (.getfield 7, 3) := by decide +kernel
theorem d4_82 : decode prog_52_method_2_code 82 = .ok (.aload_n 0, 1) := by decide +kernel
theorem d4_83 : decode prog_52_method_2_code 83 = .ok (.getfield 20, 3) := by decide +kernel
theorem d4_86 : decode prog_52_method_2_code 86 = .ok (.iconst 1, 1) := by decide +kernel
theorem d4_87 : decode prog_52_method_2_code 87 = .ok (.isub, 1) := by decide +kernel
theorem d4_88 : decode prog_52_method_2_code 88 = .ok (.baload, 1) := by decide +kernel
theorem d4_89 : decode prog_52_method_2_code 89 = .ok (.bipush 13, 2) := by decide +kernel
theorem d4_91 : decode prog_52_method_2_code 91 = .ok (.if_icmp .ne 13, 3) := by decide +kernel
theorem d4_94 : decode prog_52_method_2_code 94 = .ok (.aload_n 0, 1) := by decide +kernel
theorem d4_95 : decode prog_52_method_2_code 95 = .ok (.dup, 1) := by decide +kernel
theorem d4_96 : decode prog_52_method_2_code 96 = .ok (.getfield 20, 3) := by decide +kernel
theorem d4_99 : decode prog_52_method_2_code 99 = .ok (.iconst 1, 1) := by decide +kernel
theorem d4_100 : decode prog_52_method_2_code 100 = .ok (.isub, 1) := by decide +kernel
theorem d4_101 : decode prog_52_method_2_code 101 = .ok (.putfield 20, 3) := by decide +kernel
theorem d4_104 : decode prog_52_method_2_code 104 = .ok (.aload_n 0, 1) := by decide +kernel
theorem d4_105 : decode prog_52_method_2_code 105 = .ok (.iload_n 1, 1) := by decide +kernel
theorem d4_106 : decode prog_52_method_2_code 106 = .ok (.iconst 1, 1) := by decide +kernel
theorem d4_107 : decode prog_52_method_2_code 107 = .ok (.iadd, 1) := by decide +kernel
theorem d4_108 : decode prog_52_method_2_code 108 = .ok (.putfield 13, 3) := by decide +kernel
theorem d4_111 : decode prog_52_method_2_code 111 = .ok (.iconst 1, 1) := by decide +kernel
theorem d4_112 : decode prog_52_method_2_code 112 = .ok (.ireturn, 1) := by decide +kernel
set_option maxRecDepth 65536 in
set_option maxHeartbeats 40000000 in
theorem cN1 (l : Launch) (Z : State) (a0 : Array Value) (hw : ∀ d ∈ tables_1, d.before a0 Z = true) {V : oVw} (a : Addr) (b : Addr) (ws : List Int32) (N : Int32) (y1 : Int32) (y2 : Int32) (y3 : Int32) {i : Nat} (hi : V[i]? = some (a, (.inl ("com/example/meanfix/meanfix/TextFile$Lines", [("com/example/meanfix/meanfix/TextFile$Lines", "bytes", "[B", (.ref b)), ("com/example/meanfix/meanfix/TextFile$Lines", "next", "I", (.int y1)), ("com/example/meanfix/meanfix/TextFile$Lines", "start", "I", (.int y2)), ("com/example/meanfix/meanfix/TextFile$Lines", "end", "I", (.int y3))])))) {k : Nat} (hk : V[k]? = some (b, (.inr (.byte, (ws.map Value.int))))) (hik : k ≠ i) (hN : N.toInt = (ws.length : Int)) (hN' : (ws.map Value.int).length.toInt32 = N) (hs : y1 < N) (h0 : 0 ≤ y1.toInt) :
    oCon l Z (⟨"com/example/meanfix/meanfix/TextFile$Lines", "next", "()Z"⟩ : MethodName) prog_52_method_2_code 2 (some .boolean) ({ frames := 0, cells := 0, slots := 0, locals := 0 } : Room) #[(.ref a)] V (fun v V' => ∃ (iv ev : Int32) (I : Nat), v = some (.int 1) ∧ V' = V.set i (a, (.inl ("com/example/meanfix/meanfix/TextFile$Lines", [("com/example/meanfix/meanfix/TextFile$Lines", "bytes", "[B", (.ref b)), ("com/example/meanfix/meanfix/TextFile$Lines", "next", "I", (.int (iv + (1 : Int32)))), ("com/example/meanfix/meanfix/TextFile$Lines", "start", "I", (.int y1)), ("com/example/meanfix/meanfix/TextFile$Lines", "end", "I", (.int ev))]))) ∧ own_line ws y1 iv ev I) := by
  refine oEnter (plainFor_of_name pn_com_example_meanfix_meanfix_TextFile_Lines) (Ls := #[.val (.ref a), .unset]) (fun m => by first | (simp [entryFrame, mkF, argsToLocals, Value.category]; done) | rfl) ?_
  intro p e s m below meth c T E X
  refine gAloadN E X d4_0 rfl rfl (q := 1) rfl ?_
  refine gGetF E X d4_1 (hw _ (List.mem_of_getElem? (i := 21) rfl)) Via.refl (i := i) hi (j := 1) rfl (q := 4) rfl ?_
  intro T1 X1
  refine gAloadN E X1 d4_4 rfl rfl (q := 5) rfl ?_
  refine gGetF E X1 d4_5 (hw _ (List.mem_of_getElem? (i := 10) rfl)) Via.refl (i := i) hi (j := 0) rfl (q := 8) rfl ?_
  intro T2 X2
  refine gLen E X2 (i := k) (z := N) d4_8 hk hN' (q := 9) rfl ?_
  refine gIc_lt E X2 d4_9 (by decide) (q := 14) (by decide) (q' := 12) rfl (fun h9 => ?_) (fun h9 => by exfalso; exact h9 hs)
  refine gAloadN E X2 d4_14 rfl rfl (q := 15) rfl ?_
  refine gAloadN E X2 d4_15 rfl rfl (q := 16) rfl ?_
  refine gGetF E X2 d4_16 (hw _ (List.mem_of_getElem? (i := 21) rfl)) Via.refl (i := i) hi (j := 1) rfl (q := 19) rfl ?_
  intro T3 X3
  refine gPutF E X3 d4_19 (hw _ (List.mem_of_getElem? (i := 26) rfl)) Via.refl (i := i) hi (j := 2) rfl (Or.inl (hw _ (List.mem_of_getElem? (i := 27) rfl))) (hw _ (List.mem_of_getElem? (i := 2) rfl)) (ty := .int) (by decide) rfl rfl (V' := (V.set i (a, (.inl ("com/example/meanfix/meanfix/TextFile$Lines", [("com/example/meanfix/meanfix/TextFile$Lines", "bytes", "[B", (.ref b)), ("com/example/meanfix/meanfix/TextFile$Lines", "next", "I", (.int y1)), ("com/example/meanfix/meanfix/TextFile$Lines", "start", "I", (.int y1)), ("com/example/meanfix/meanfix/TextFile$Lines", "end", "I", (.int y3))]))))) rfl (q := 22) rfl ?_
  intro T4 X4
  obtain ⟨V4, eV4⟩ : ∃ z, z = (V.set i (a, (.inl ("com/example/meanfix/meanfix/TextFile$Lines", [("com/example/meanfix/meanfix/TextFile$Lines", "bytes", "[B", (.ref b)), ("com/example/meanfix/meanfix/TextFile$Lines", "next", "I", (.int y1)), ("com/example/meanfix/meanfix/TextFile$Lines", "start", "I", (.int y1)), ("com/example/meanfix/meanfix/TextFile$Lines", "end", "I", (.int y3))])))) := ⟨_, rfl⟩
  rw [← eV4] at X4
  have i4_0 := (eV4 ▸ oSetGet hi : V4[i]? = some (a, (.inl ("com/example/meanfix/meanfix/TextFile$Lines", [("com/example/meanfix/meanfix/TextFile$Lines", "bytes", "[B", (.ref b)), ("com/example/meanfix/meanfix/TextFile$Lines", "next", "I", (.int y1)), ("com/example/meanfix/meanfix/TextFile$Lines", "start", "I", (.int y1)), ("com/example/meanfix/meanfix/TextFile$Lines", "end", "I", (.int y3))]))))
  have i4_1 := (eV4 ▸ oSetNe (Ne.symm hik) hk : V4[k]? = some (b, (.inr (.byte, (ws.map Value.int)))))
  refine gAloadN E X4 d4_22 rfl rfl (q := 23) rfl ?_
  refine gGetF E X4 d4_23 (hw _ (List.mem_of_getElem? (i := 26) rfl)) Via.refl (i := i) i4_0 (j := 2) rfl (q := 26) rfl ?_
  intro T5 X5
  refine gIstoreN E X5 d4_26 (l' := #[.val (.ref a), .val (.int y1)]) rfl (q := 27) rfl ?_
  have ext : ∀ (T : State) (cI : Int32) (I : Nat), cI.toInt = (I : Int) → y1.toInt ≤ (I : Int) → I ≤ ws.length → (∀ j : Nat, y1.toInt ≤ (j : Int) → j < I → ¬ own_g ws j = (10 : Int32)) → (I < ws.length → own_g ws I = (10 : Int32)) → oX p l e ({ frames := 0, cells := 0, slots := 0, locals := 0 } : Room) s m #[(.ref a)] below meth c Z T V4 0 0 → oG p e below s Z ({ frames := 0, cells := 0, slots := 0, locals := 0 } : Room) (fun v V' => ∃ (iv ev : Int32) (I : Nat), v = some (.int 1) ∧ V' = V.set i (a, (.inl ("com/example/meanfix/meanfix/TextFile$Lines", [("com/example/meanfix/meanfix/TextFile$Lines", "bytes", "[B", (.ref b)), ("com/example/meanfix/meanfix/TextFile$Lines", "next", "I", (.int (iv + (1 : Int32)))), ("com/example/meanfix/meanfix/TextFile$Lines", "start", "I", (.int y1)), ("com/example/meanfix/meanfix/TextFile$Lines", "end", "I", (.int ev))]))) ∧ own_line ws y1 iv ev I) T (mkF m 53 #[.val (.ref a), .val (.int cI)] []) := by
    intro T cI I hc hS hI hP1 hP2 X
    have hcn : cI.toNatClampNeg = I := by simp only [Int32.toNatClampNeg]; omega
    have k1 : (1 : Int32).toInt = 1 := rfl
    have hr := rng32 N
    refine gAloadN E X d4_53 rfl rfl (q := 54) rfl ?_
    refine gIloadN E X d4_54 rfl (q := 55) rfl ?_
    refine gPutF E X d4_55 (hw _ (List.mem_of_getElem? (i := 28) rfl)) Via.refl (i := i) i4_0 (j := 3) rfl (Or.inl (hw _ (List.mem_of_getElem? (i := 29) rfl))) (hw _ (List.mem_of_getElem? (i := 2) rfl)) (ty := .int) (by decide) rfl rfl (V' := (V4.set i (a, (.inl ("com/example/meanfix/meanfix/TextFile$Lines", [("com/example/meanfix/meanfix/TextFile$Lines", "bytes", "[B", (.ref b)), ("com/example/meanfix/meanfix/TextFile$Lines", "next", "I", (.int y1)), ("com/example/meanfix/meanfix/TextFile$Lines", "start", "I", (.int y1)), ("com/example/meanfix/meanfix/TextFile$Lines", "end", "I", (.int cI))]))))) rfl (q := 58) rfl ?_
    intro T6 X6
    obtain ⟨V6, eV6⟩ : ∃ z, z = (V4.set i (a, (.inl ("com/example/meanfix/meanfix/TextFile$Lines", [("com/example/meanfix/meanfix/TextFile$Lines", "bytes", "[B", (.ref b)), ("com/example/meanfix/meanfix/TextFile$Lines", "next", "I", (.int y1)), ("com/example/meanfix/meanfix/TextFile$Lines", "start", "I", (.int y1)), ("com/example/meanfix/meanfix/TextFile$Lines", "end", "I", (.int cI))])))) := ⟨_, rfl⟩
    rw [← eV6] at X6
    have i6_0 := (eV6 ▸ oSetGet i4_0 : V6[i]? = some (a, (.inl ("com/example/meanfix/meanfix/TextFile$Lines", [("com/example/meanfix/meanfix/TextFile$Lines", "bytes", "[B", (.ref b)), ("com/example/meanfix/meanfix/TextFile$Lines", "next", "I", (.int y1)), ("com/example/meanfix/meanfix/TextFile$Lines", "start", "I", (.int y1)), ("com/example/meanfix/meanfix/TextFile$Lines", "end", "I", (.int cI))]))))
    have i6_1 := (eV6 ▸ oSetNe (Ne.symm hik) i4_1 : V6[k]? = some (b, (.inr (.byte, (ws.map Value.int)))))
    refine gIloadN E X6 d4_58 rfl (q := 59) rfl ?_
    refine gAloadN E X6 d4_59 rfl rfl (q := 60) rfl ?_
    refine gGetF E X6 d4_60 (hw _ (List.mem_of_getElem? (i := 10) rfl)) Via.refl (i := i) i6_0 (j := 0) rfl (q := 63) rfl ?_
    intro T7 X7
    refine gLen E X7 (i := k) (z := N) d4_63 i6_1 hN' (q := 64) rfl ?_
    refine gIc_ge E X7 d4_64 (by decide) (q := 104) (by decide) (q' := 67) rfl (fun h64 => ?_) (fun h64 => ?_)
    · refine gAloadN E X7 d4_104 rfl rfl (q := 105) rfl ?_
      refine gIloadN E X7 d4_105 rfl (q := 106) rfl ?_
      refine gIconst E X7 d4_106 (v := (1 : Int32)) (by decide) (q := 107) rfl ?_
      refine gIadd E X7 d4_107 (z := (cI + (1 : Int32))) rfl (q := 108) rfl ?_
      refine gPutF E X7 d4_108 (hw _ (List.mem_of_getElem? (i := 21) rfl)) Via.refl (i := i) i6_0 (j := 1) rfl (Or.inl (hw _ (List.mem_of_getElem? (i := 22) rfl))) (hw _ (List.mem_of_getElem? (i := 2) rfl)) (ty := .int) (by decide) rfl rfl (V' := (V6.set i (a, (.inl ("com/example/meanfix/meanfix/TextFile$Lines", [("com/example/meanfix/meanfix/TextFile$Lines", "bytes", "[B", (.ref b)), ("com/example/meanfix/meanfix/TextFile$Lines", "next", "I", (.int (cI + (1 : Int32)))), ("com/example/meanfix/meanfix/TextFile$Lines", "start", "I", (.int y1)), ("com/example/meanfix/meanfix/TextFile$Lines", "end", "I", (.int cI))]))))) rfl (q := 111) rfl ?_
      intro T8 X8
      obtain ⟨V8, eV8⟩ : ∃ z, z = (V6.set i (a, (.inl ("com/example/meanfix/meanfix/TextFile$Lines", [("com/example/meanfix/meanfix/TextFile$Lines", "bytes", "[B", (.ref b)), ("com/example/meanfix/meanfix/TextFile$Lines", "next", "I", (.int (cI + (1 : Int32)))), ("com/example/meanfix/meanfix/TextFile$Lines", "start", "I", (.int y1)), ("com/example/meanfix/meanfix/TextFile$Lines", "end", "I", (.int cI))])))) := ⟨_, rfl⟩
      rw [← eV8] at X8
      have i8_0 := (eV8 ▸ oSetGet i6_0 : V8[i]? = some (a, (.inl ("com/example/meanfix/meanfix/TextFile$Lines", [("com/example/meanfix/meanfix/TextFile$Lines", "bytes", "[B", (.ref b)), ("com/example/meanfix/meanfix/TextFile$Lines", "next", "I", (.int (cI + (1 : Int32)))), ("com/example/meanfix/meanfix/TextFile$Lines", "start", "I", (.int y1)), ("com/example/meanfix/meanfix/TextFile$Lines", "end", "I", (.int cI))]))))
      have i8_1 := (eV8 ▸ oSetNe (Ne.symm hik) i6_1 : V8[k]? = some (b, (.inr (.byte, (ws.map Value.int)))))
      refine gIconst E X8 d4_111 (v := (1 : Int32)) (by decide) (q := 112) rfl ?_
      exact gRetN E X8 (by simp) d4_112 (by decide) (by decide) (⟨cI, cI, I, rfl, by simp only [eV8, eV6, eV4, List.set_set], hc, hS, hI, hP1, hP2, Or.inl ⟨hc, fun z => by first | exact h64 (by rw [Int32.lt_iff_toInt_lt]; omega) | exact h75 (by rw [Int32.lt_iff_toInt_lt]; omega) | exact h91 z.2.2⟩⟩)
    · refine gAloadN E X7 d4_67 rfl rfl (q := 68) rfl ?_
      refine gGetF E X7 d4_68 (hw _ (List.mem_of_getElem? (i := 28) rfl)) Via.refl (i := i) i6_0 (j := 3) rfl (q := 71) rfl ?_
      intro T9 X9
      refine gAloadN E X9 d4_71 rfl rfl (q := 72) rfl ?_
      refine gGetF E X9 d4_72 (hw _ (List.mem_of_getElem? (i := 26) rfl)) Via.refl (i := i) i6_0 (j := 2) rfl (q := 75) rfl ?_
      intro T10 X10
      refine gIc_le E X10 d4_75 (by decide) (q := 104) (by decide) (q' := 78) rfl (fun h75 => ?_) (fun h75 => ?_)
      · refine gAloadN E X10 d4_104 rfl rfl (q := 105) rfl ?_
        refine gIloadN E X10 d4_105 rfl (q := 106) rfl ?_
        refine gIconst E X10 d4_106 (v := (1 : Int32)) (by decide) (q := 107) rfl ?_
        refine gIadd E X10 d4_107 (z := (cI + (1 : Int32))) rfl (q := 108) rfl ?_
        refine gPutF E X10 d4_108 (hw _ (List.mem_of_getElem? (i := 21) rfl)) Via.refl (i := i) i6_0 (j := 1) rfl (Or.inl (hw _ (List.mem_of_getElem? (i := 22) rfl))) (hw _ (List.mem_of_getElem? (i := 2) rfl)) (ty := .int) (by decide) rfl rfl (V' := (V6.set i (a, (.inl ("com/example/meanfix/meanfix/TextFile$Lines", [("com/example/meanfix/meanfix/TextFile$Lines", "bytes", "[B", (.ref b)), ("com/example/meanfix/meanfix/TextFile$Lines", "next", "I", (.int (cI + (1 : Int32)))), ("com/example/meanfix/meanfix/TextFile$Lines", "start", "I", (.int y1)), ("com/example/meanfix/meanfix/TextFile$Lines", "end", "I", (.int cI))]))))) rfl (q := 111) rfl ?_
        intro T11 X11
        obtain ⟨V11, eV11⟩ : ∃ z, z = (V6.set i (a, (.inl ("com/example/meanfix/meanfix/TextFile$Lines", [("com/example/meanfix/meanfix/TextFile$Lines", "bytes", "[B", (.ref b)), ("com/example/meanfix/meanfix/TextFile$Lines", "next", "I", (.int (cI + (1 : Int32)))), ("com/example/meanfix/meanfix/TextFile$Lines", "start", "I", (.int y1)), ("com/example/meanfix/meanfix/TextFile$Lines", "end", "I", (.int cI))])))) := ⟨_, rfl⟩
        rw [← eV11] at X11
        have i11_0 := (eV11 ▸ oSetGet i6_0 : V11[i]? = some (a, (.inl ("com/example/meanfix/meanfix/TextFile$Lines", [("com/example/meanfix/meanfix/TextFile$Lines", "bytes", "[B", (.ref b)), ("com/example/meanfix/meanfix/TextFile$Lines", "next", "I", (.int (cI + (1 : Int32)))), ("com/example/meanfix/meanfix/TextFile$Lines", "start", "I", (.int y1)), ("com/example/meanfix/meanfix/TextFile$Lines", "end", "I", (.int cI))]))))
        have i11_1 := (eV11 ▸ oSetNe (Ne.symm hik) i6_1 : V11[k]? = some (b, (.inr (.byte, (ws.map Value.int)))))
        refine gIconst E X11 d4_111 (v := (1 : Int32)) (by decide) (q := 112) rfl ?_
        exact gRetN E X11 (by simp) d4_112 (by decide) (by decide) (⟨cI, cI, I, rfl, by simp only [eV11, eV6, eV4, List.set_set], hc, hS, hI, hP1, hP2, Or.inl ⟨hc, fun z => by first | exact h64 (by rw [Int32.lt_iff_toInt_lt]; omega) | exact h75 (by rw [Int32.lt_iff_toInt_lt]; omega) | exact h91 z.2.2⟩⟩)
      · have q75 := h75
        rw [Int32.lt_iff_toInt_lt] at q75
        have d1 : (cI - (1 : Int32)).toInt = cI.toInt - 1 := by rw [oSub32] <;> rw [k1] <;> omega
        have d2 : (cI - (1 : Int32)).toNatClampNeg = I - 1 := by simp only [Int32.toNatClampNeg, d1]; omega
        refine gAloadN E X10 d4_78 rfl rfl (q := 79) rfl ?_
        refine gGetF E X10 d4_79 (hw _ (List.mem_of_getElem? (i := 10) rfl)) Via.refl (i := i) i6_0 (j := 0) rfl (q := 82) rfl ?_
        intro T12 X12
        refine gAloadN E X12 d4_82 rfl rfl (q := 83) rfl ?_
        refine gGetF E X12 d4_83 (hw _ (List.mem_of_getElem? (i := 28) rfl)) Via.refl (i := i) i6_0 (j := 3) rfl (q := 86) rfl ?_
        intro T13 X13
        refine gIconst E X13 d4_86 (v := (1 : Int32)) (by decide) (q := 87) rfl ?_
        refine gIsub E X13 d4_87 (z := (cI - (1 : Int32))) rfl (q := 88) rfl ?_
        refine gBaload E X13 (i := k) (v := (.int (own_g ws (I - 1)))) d4_88 i6_1 (oN0 (by rw [d1]; rw [Int32.lt_iff_toInt_lt] at h75; omega)) (by rw [d2]; exact own_rd (by omega)) (q := 89) rfl ?_
        refine gBipush E X13 d4_89 (v := (13 : Int32)) (by decide) (q := 91) rfl ?_
        refine gIc_ne E X13 d4_91 (by decide) (q := 104) (by decide) (q' := 94) rfl (fun h91 => ?_) (fun h91 => ?_)
        · refine gAloadN E X13 d4_104 rfl rfl (q := 105) rfl ?_
          refine gIloadN E X13 d4_105 rfl (q := 106) rfl ?_
          refine gIconst E X13 d4_106 (v := (1 : Int32)) (by decide) (q := 107) rfl ?_
          refine gIadd E X13 d4_107 (z := (cI + (1 : Int32))) rfl (q := 108) rfl ?_
          refine gPutF E X13 d4_108 (hw _ (List.mem_of_getElem? (i := 21) rfl)) Via.refl (i := i) i6_0 (j := 1) rfl (Or.inl (hw _ (List.mem_of_getElem? (i := 22) rfl))) (hw _ (List.mem_of_getElem? (i := 2) rfl)) (ty := .int) (by decide) rfl rfl (V' := (V6.set i (a, (.inl ("com/example/meanfix/meanfix/TextFile$Lines", [("com/example/meanfix/meanfix/TextFile$Lines", "bytes", "[B", (.ref b)), ("com/example/meanfix/meanfix/TextFile$Lines", "next", "I", (.int (cI + (1 : Int32)))), ("com/example/meanfix/meanfix/TextFile$Lines", "start", "I", (.int y1)), ("com/example/meanfix/meanfix/TextFile$Lines", "end", "I", (.int cI))]))))) rfl (q := 111) rfl ?_
          intro T14 X14
          obtain ⟨V14, eV14⟩ : ∃ z, z = (V6.set i (a, (.inl ("com/example/meanfix/meanfix/TextFile$Lines", [("com/example/meanfix/meanfix/TextFile$Lines", "bytes", "[B", (.ref b)), ("com/example/meanfix/meanfix/TextFile$Lines", "next", "I", (.int (cI + (1 : Int32)))), ("com/example/meanfix/meanfix/TextFile$Lines", "start", "I", (.int y1)), ("com/example/meanfix/meanfix/TextFile$Lines", "end", "I", (.int cI))])))) := ⟨_, rfl⟩
          rw [← eV14] at X14
          have i14_0 := (eV14 ▸ oSetGet i6_0 : V14[i]? = some (a, (.inl ("com/example/meanfix/meanfix/TextFile$Lines", [("com/example/meanfix/meanfix/TextFile$Lines", "bytes", "[B", (.ref b)), ("com/example/meanfix/meanfix/TextFile$Lines", "next", "I", (.int (cI + (1 : Int32)))), ("com/example/meanfix/meanfix/TextFile$Lines", "start", "I", (.int y1)), ("com/example/meanfix/meanfix/TextFile$Lines", "end", "I", (.int cI))]))))
          have i14_1 := (eV14 ▸ oSetNe (Ne.symm hik) i6_1 : V14[k]? = some (b, (.inr (.byte, (ws.map Value.int)))))
          refine gIconst E X14 d4_111 (v := (1 : Int32)) (by decide) (q := 112) rfl ?_
          exact gRetN E X14 (by simp) d4_112 (by decide) (by decide) (⟨cI, cI, I, rfl, by simp only [eV14, eV6, eV4, List.set_set], hc, hS, hI, hP1, hP2, Or.inl ⟨hc, fun z => by first | exact h64 (by rw [Int32.lt_iff_toInt_lt]; omega) | exact h75 (by rw [Int32.lt_iff_toInt_lt]; omega) | exact h91 z.2.2⟩⟩)
        · refine gAloadN E X13 d4_94 rfl rfl (q := 95) rfl ?_
          refine gDup E X13 d4_95 rfl (q := 96) rfl ?_
          refine gGetF E X13 d4_96 (hw _ (List.mem_of_getElem? (i := 28) rfl)) Via.refl (i := i) i6_0 (j := 3) rfl (q := 99) rfl ?_
          intro T15 X15
          refine gIconst E X15 d4_99 (v := (1 : Int32)) (by decide) (q := 100) rfl ?_
          refine gIsub E X15 d4_100 (z := (cI - (1 : Int32))) rfl (q := 101) rfl ?_
          refine gPutF E X15 d4_101 (hw _ (List.mem_of_getElem? (i := 28) rfl)) Via.refl (i := i) i6_0 (j := 3) rfl (Or.inl (hw _ (List.mem_of_getElem? (i := 29) rfl))) (hw _ (List.mem_of_getElem? (i := 2) rfl)) (ty := .int) (by decide) rfl rfl (V' := (V6.set i (a, (.inl ("com/example/meanfix/meanfix/TextFile$Lines", [("com/example/meanfix/meanfix/TextFile$Lines", "bytes", "[B", (.ref b)), ("com/example/meanfix/meanfix/TextFile$Lines", "next", "I", (.int y1)), ("com/example/meanfix/meanfix/TextFile$Lines", "start", "I", (.int y1)), ("com/example/meanfix/meanfix/TextFile$Lines", "end", "I", (.int (cI - (1 : Int32))))]))))) rfl (q := 104) rfl ?_
          intro T16 X16
          obtain ⟨V16, eV16⟩ : ∃ z, z = (V6.set i (a, (.inl ("com/example/meanfix/meanfix/TextFile$Lines", [("com/example/meanfix/meanfix/TextFile$Lines", "bytes", "[B", (.ref b)), ("com/example/meanfix/meanfix/TextFile$Lines", "next", "I", (.int y1)), ("com/example/meanfix/meanfix/TextFile$Lines", "start", "I", (.int y1)), ("com/example/meanfix/meanfix/TextFile$Lines", "end", "I", (.int (cI - (1 : Int32))))])))) := ⟨_, rfl⟩
          rw [← eV16] at X16
          have i16_0 := (eV16 ▸ oSetGet i6_0 : V16[i]? = some (a, (.inl ("com/example/meanfix/meanfix/TextFile$Lines", [("com/example/meanfix/meanfix/TextFile$Lines", "bytes", "[B", (.ref b)), ("com/example/meanfix/meanfix/TextFile$Lines", "next", "I", (.int y1)), ("com/example/meanfix/meanfix/TextFile$Lines", "start", "I", (.int y1)), ("com/example/meanfix/meanfix/TextFile$Lines", "end", "I", (.int (cI - (1 : Int32))))]))))
          have i16_1 := (eV16 ▸ oSetNe (Ne.symm hik) i6_1 : V16[k]? = some (b, (.inr (.byte, (ws.map Value.int)))))
          refine gAloadN E X16 d4_104 rfl rfl (q := 105) rfl ?_
          refine gIloadN E X16 d4_105 rfl (q := 106) rfl ?_
          refine gIconst E X16 d4_106 (v := (1 : Int32)) (by decide) (q := 107) rfl ?_
          refine gIadd E X16 d4_107 (z := (cI + (1 : Int32))) rfl (q := 108) rfl ?_
          refine gPutF E X16 d4_108 (hw _ (List.mem_of_getElem? (i := 21) rfl)) Via.refl (i := i) i16_0 (j := 1) rfl (Or.inl (hw _ (List.mem_of_getElem? (i := 22) rfl))) (hw _ (List.mem_of_getElem? (i := 2) rfl)) (ty := .int) (by decide) rfl rfl (V' := (V16.set i (a, (.inl ("com/example/meanfix/meanfix/TextFile$Lines", [("com/example/meanfix/meanfix/TextFile$Lines", "bytes", "[B", (.ref b)), ("com/example/meanfix/meanfix/TextFile$Lines", "next", "I", (.int (cI + (1 : Int32)))), ("com/example/meanfix/meanfix/TextFile$Lines", "start", "I", (.int y1)), ("com/example/meanfix/meanfix/TextFile$Lines", "end", "I", (.int (cI - (1 : Int32))))]))))) rfl (q := 111) rfl ?_
          intro T17 X17
          obtain ⟨V17, eV17⟩ : ∃ z, z = (V16.set i (a, (.inl ("com/example/meanfix/meanfix/TextFile$Lines", [("com/example/meanfix/meanfix/TextFile$Lines", "bytes", "[B", (.ref b)), ("com/example/meanfix/meanfix/TextFile$Lines", "next", "I", (.int (cI + (1 : Int32)))), ("com/example/meanfix/meanfix/TextFile$Lines", "start", "I", (.int y1)), ("com/example/meanfix/meanfix/TextFile$Lines", "end", "I", (.int (cI - (1 : Int32))))])))) := ⟨_, rfl⟩
          rw [← eV17] at X17
          have i17_0 := (eV17 ▸ oSetGet i16_0 : V17[i]? = some (a, (.inl ("com/example/meanfix/meanfix/TextFile$Lines", [("com/example/meanfix/meanfix/TextFile$Lines", "bytes", "[B", (.ref b)), ("com/example/meanfix/meanfix/TextFile$Lines", "next", "I", (.int (cI + (1 : Int32)))), ("com/example/meanfix/meanfix/TextFile$Lines", "start", "I", (.int y1)), ("com/example/meanfix/meanfix/TextFile$Lines", "end", "I", (.int (cI - (1 : Int32))))]))))
          have i17_1 := (eV17 ▸ oSetNe (Ne.symm hik) i16_1 : V17[k]? = some (b, (.inr (.byte, (ws.map Value.int)))))
          refine gIconst E X17 d4_111 (v := (1 : Int32)) (by decide) (q := 112) rfl ?_
          exact gRetN E X17 (by simp) d4_112 (by decide) (by decide) (⟨cI, (cI - (1 : Int32)), I, rfl, by simp only [eV17, eV16, eV6, eV4, List.set_set], hc, hS, hI, hP1, hP2, Or.inr ⟨by rw [d1]; omega, by rw [Int32.lt_iff_toInt_lt] at h64; omega, by rw [Int32.lt_iff_toInt_lt] at h75; omega, h91⟩⟩)
  have loop : ∀ (q : Nat) (T : State) (cI : Int32) (j : Nat), cI.toInt = (j : Int) → y1.toInt ≤ (j : Int) → j + q = ws.length → (∀ z : Nat, y1.toInt ≤ (z : Int) → z < j → ¬ own_g ws z = (10 : Int32)) → oX p l e ({ frames := 0, cells := 0, slots := 0, locals := 0 } : Room) s m #[(.ref a)] below meth c Z T V4 0 0 → oG p e below s Z ({ frames := 0, cells := 0, slots := 0, locals := 0 } : Room) (fun v V' => ∃ (iv ev : Int32) (I : Nat), v = some (.int 1) ∧ V' = V.set i (a, (.inl ("com/example/meanfix/meanfix/TextFile$Lines", [("com/example/meanfix/meanfix/TextFile$Lines", "bytes", "[B", (.ref b)), ("com/example/meanfix/meanfix/TextFile$Lines", "next", "I", (.int (iv + (1 : Int32)))), ("com/example/meanfix/meanfix/TextFile$Lines", "start", "I", (.int y1)), ("com/example/meanfix/meanfix/TextFile$Lines", "end", "I", (.int ev))]))) ∧ own_line ws y1 iv ev I) T (mkF m 27 #[.val (.ref a), .val (.int cI)] []) := by
    intro q
    induction q with
    | zero =>
      intro T cI j hc hS hj hP X
      refine gIloadN E X d4_27 rfl (q := 28) rfl ?_
      refine gAloadN E X d4_28 rfl rfl (q := 29) rfl ?_
      refine gGetF E X d4_29 (hw _ (List.mem_of_getElem? (i := 10) rfl)) Via.refl (i := i) i4_0 (j := 0) rfl (q := 32) rfl ?_
      intro T18 X18
      refine gLen E X18 (i := k) (z := N) d4_32 i4_1 hN' (q := 33) rfl ?_
      refine gIc_ge E X18 d4_33 (by decide) (q := 53) (by decide) (q' := 36) rfl (fun h33 => ?_) (fun h33 => by exfalso; rw [Int32.lt_iff_toInt_lt] at h33; omega)
      exact ext T18 _ j hc hS (by omega) hP (fun z => by omega) X18
    | succ q ih =>
      intro T cI j hc hS hj hP X
      have hcn : cI.toNatClampNeg = j := by simp only [Int32.toNatClampNeg]; omega
      have hr := rng32 N
      have k1 : (1 : Int32).toInt = 1 := rfl
      have hc' : (cI + (1 : Int32)).toInt = ((j + 1 : Nat) : Int) := by rw [oAdd32] <;> rw [k1] <;> omega
      refine gIloadN E X d4_27 rfl (q := 28) rfl ?_
      refine gAloadN E X d4_28 rfl rfl (q := 29) rfl ?_
      refine gGetF E X d4_29 (hw _ (List.mem_of_getElem? (i := 10) rfl)) Via.refl (i := i) i4_0 (j := 0) rfl (q := 32) rfl ?_
      intro T19 X19
      refine gLen E X19 (i := k) (z := N) d4_32 i4_1 hN' (q := 33) rfl ?_
      refine gIc_ge E X19 d4_33 (by decide) (q := 53) (by decide) (q' := 36) rfl (fun h33 => by exfalso; exact h33 (by rw [Int32.lt_iff_toInt_lt]; omega)) (fun h33 => ?_)
      refine gAloadN E X19 d4_36 rfl rfl (q := 37) rfl ?_
      refine gGetF E X19 d4_37 (hw _ (List.mem_of_getElem? (i := 10) rfl)) Via.refl (i := i) i4_0 (j := 0) rfl (q := 40) rfl ?_
      intro T20 X20
      refine gIloadN E X20 d4_40 rfl (q := 41) rfl ?_
      refine gBaload E X20 (i := k) (v := (.int (own_g ws j))) d4_41 i4_1 (oN0 (by omega)) (by rw [hcn]; exact own_rd (by omega)) (q := 42) rfl ?_
      refine gBipush E X20 d4_42 (v := (10 : Int32)) (by decide) (q := 44) rfl ?_
      refine gIc_eq E X20 d4_44 (by decide) (q := 53) (by decide) (q' := 47) rfl (fun h44 => ?_) (fun h44 => ?_)
      · exact ext T20 _ j hc hS (by omega) hP (fun _ => h44) X20
      · refine gIinc E X20 (1 : Int32) d4_47 (by decide) rfl (l' := #[.val (.ref a), .val (.int (cI + (1 : Int32)))]) rfl (q := 50) rfl ?_
        refine gGoto E X20 d4_50 (by decide) (q := 27) (by decide) ?_
        exact ih T20 _ (j + 1) hc' (by omega) (by omega) (fun z h1 h2 => by rcases Nat.lt_succ_iff_lt_or_eq.mp h2 with h3 | h3; (exact hP z h1 h3); (rw [h3]; exact h44)) X20
  exact loop (ws.length - y1.toInt.toNat) T5 _ y1.toInt.toNat (by omega) (by omega) (by rw [Int32.lt_iff_toInt_lt] at hs; omega) (fun z h1 h2 => by omega) X5
theorem d8_0 : decode method_3_code 0 = .ok (.iload_n 1, 1) := by decide +kernel
theorem d8_1 : decode method_3_code 1 = .ok (.ifCond .gt 20, 3) := by decide +kernel
theorem d8_4 : decode method_3_code 4 = .ok (.iconst 0, 1) := by decide +kernel
theorem d8_5 : decode method_3_code 5 = .ok (.iload_n 2, 1) := by decide +kernel
theorem d8_6 : decode method_3_code 6 = .ok (.if_icmp .ge 15, 3) := by decide +kernel
theorem d8_9 : decode method_3_code 9 = .ok (.aload_n 0, 1) := by decide +kernel
theorem d8_10 : decode method_3_code 10 = .ok (.iconst 0, 1) := by decide +kernel
theorem d8_11 : decode method_3_code 11 = .ok (.baload, 1) := by decide +kernel
theorem d8_12 : decode method_3_code 12 = .ok (.bipush 10, 2) := by decide +kernel
theorem d8_14 : decode method_3_code 14 = .ok (.if_icmp .ne 7, 3) := by decide +kernel
theorem d8_21 : decode method_3_code 21 = .ok (.iconst 0, 1) := by decide +kernel
theorem d8_22 : decode method_3_code 22 = .ok (.istore_n 3, 1) := by decide +kernel
theorem d8_23 : decode method_3_code 23 = .ok (.iload_n 1, 1) := by decide +kernel
theorem d8_24 : decode method_3_code 24 = .ok (.iconst 1, 1) := by decide +kernel
theorem d8_25 : decode method_3_code 25 = .ok (.if_icmp .gt 20, 3) := by decide +kernel
theorem d8_28 : decode method_3_code 28 = .ok (.iconst 1, 1) := by decide +kernel
theorem d8_29 : decode method_3_code 29 = .ok (.iload_n 2, 1) := by decide +kernel
theorem d8_30 : decode method_3_code 30 = .ok (.if_icmp .ge 15, 3) := by decide +kernel
theorem d8_33 : decode method_3_code 33 = .ok (.aload_n 0, 1) := by decide +kernel
theorem d8_34 : decode method_3_code 34 = .ok (.iconst 1, 1) := by decide +kernel
theorem d8_35 : decode method_3_code 35 = .ok (.baload, 1) := by decide +kernel
theorem d8_36 : decode method_3_code 36 = .ok (.bipush 10, 2) := by decide +kernel
theorem d8_38 : decode method_3_code 38 = .ok (.if_icmp .ne 7, 3) := by decide +kernel
theorem d8_45 : decode method_3_code 45 = .ok (.iconst 0, 1) := by decide +kernel
theorem d8_46 : decode method_3_code 46 = .ok (.istore 4, 2) := by decide +kernel
theorem d8_48 : decode method_3_code 48 = .ok (.iload_n 1, 1) := by decide +kernel
theorem d8_49 : decode method_3_code 49 = .ok (.iconst 2, 1) := by decide +kernel
theorem d8_50 : decode method_3_code 50 = .ok (.if_icmp .gt 20, 3) := by decide +kernel
theorem d8_53 : decode method_3_code 53 = .ok (.iconst 2, 1) := by decide +kernel
theorem d8_54 : decode method_3_code 54 = .ok (.iload_n 2, 1) := by decide +kernel
theorem d8_55 : decode method_3_code 55 = .ok (.if_icmp .ge 15, 3) := by decide +kernel
theorem d8_58 : decode method_3_code 58 = .ok (.aload_n 0, 1) := by decide +kernel
theorem d8_59 : decode method_3_code 59 = .ok (.iconst 2, 1) := by decide +kernel
theorem d8_60 : decode method_3_code 60 = .ok (.baload, 1) := by decide +kernel
theorem d8_61 : decode method_3_code 61 = .ok (.bipush 10, 2) := by decide +kernel
theorem d8_63 : decode method_3_code 63 = .ok (.if_icmp .ne 7, 3) := by decide +kernel
theorem d8_70 : decode method_3_code 70 = .ok (.iconst 0, 1) := by decide +kernel
theorem d8_71 : decode method_3_code 71 = .ok (.istore 5, 2) := by decide +kernel
theorem d8_73 : decode method_3_code 73 = .ok (.iload_n 3, 1) := by decide +kernel
theorem d8_74 : decode method_3_code 74 = .ok (.ifCond .ne 13, 3) := by decide +kernel
theorem d8_77 : decode method_3_code 77 = .ok (.iload 4, 2) := by decide +kernel
theorem d8_79 : decode method_3_code 79 = .ok (.ifCond .ne 8, 3) := by decide +kernel
theorem d8_82 : decode method_3_code 82 = .ok (.iload 5, 2) := by decide +kernel
theorem d8_84 : decode method_3_code 84 = .ok (.ifCond .eq 7, 3) := by decide +kernel
theorem d8_91 : decode method_3_code 91 = .ok (.iconst 0, 1) := by decide +kernel
theorem d8_92 : decode method_3_code 92 = .ok (.ireturn, 1) := by decide +kernel
set_option maxRecDepth 65536 in
set_option maxHeartbeats 40000000 in
theorem cH (l : Launch) (Z : State) (a0 : Array Value) (hw : ∀ d ∈ tables_1, d.before a0 Z = true) {V : oVw} (b : Addr) (y1 : Int32) (y2 : Int32) (ws : List Int32) {k : Nat} (hk : V[k]? = some (b, (.inr (.byte, (ws.map Value.int))))) (h0 : 0 ≤ y1.toInt) (hle : y2.toInt ≤ (ws.length : Int)) (hno : ∀ j : Nat, y1.toInt ≤ (j : Int) → (j : Int) < y2.toInt → ¬ own_g ws j = (10 : Int32)) :
    oCon l Z (⟨"com/example/meanfix/meanfix/LinesNextPinLaw", "hasNl", "([BII)Z"⟩ : MethodName) method_3_code 6 (some .boolean) ({ frames := 0, cells := 0, slots := 0, locals := 0 } : Room) #[(.ref b), (.int y1), (.int y2)] V (fun v V' => v = some (.int 0) ∧ V' = V) := by
  refine oEnter (plainFor_of_name pn_com_example_meanfix_meanfix_LinesNextPinLaw) (Ls := #[.val (.ref b), .val (.int y1), .val (.int y2), .unset, .unset, .unset]) (fun m => by first | (simp [entryFrame, mkF, argsToLocals, Value.category]; done) | rfl) ?_
  intro p e s m below meth c T E X
  refine gIloadN E X d8_0 rfl (q := 1) rfl ?_
  have k1 : oG p e below s Z ({ frames := 0, cells := 0, slots := 0, locals := 0 } : Room) (fun v V' => v = some (.int 0) ∧ V' = V) T (mkF m 22 #[.val (.ref b), .val (.int y1), .val (.int y2), .unset, .unset, .unset] [(.int (0 : Int32))]) := by
    refine gIstoreN E X d8_22 (l' := #[.val (.ref b), .val (.int y1), .val (.int y2), .val (.int (0 : Int32)), .unset, .unset]) rfl (q := 23) rfl ?_
    refine gIloadN E X d8_23 rfl (q := 24) rfl ?_
    refine gIconst E X d8_24 (v := (1 : Int32)) (by decide) (q := 25) rfl ?_
    have k25 : oG p e below s Z ({ frames := 0, cells := 0, slots := 0, locals := 0 } : Room) (fun v V' => v = some (.int 0) ∧ V' = V) T (mkF m 46 #[.val (.ref b), .val (.int y1), .val (.int y2), .val (.int (0 : Int32)), .unset, .unset] [(.int (0 : Int32))]) := by
      refine gIstore E X d8_46 (l' := #[.val (.ref b), .val (.int y1), .val (.int y2), .val (.int (0 : Int32)), .val (.int (0 : Int32)), .unset]) rfl (q := 48) rfl ?_
      refine gIloadN E X d8_48 rfl (q := 49) rfl ?_
      refine gIconst E X d8_49 (v := (2 : Int32)) (by decide) (q := 50) rfl ?_
      have k50 : oG p e below s Z ({ frames := 0, cells := 0, slots := 0, locals := 0 } : Room) (fun v V' => v = some (.int 0) ∧ V' = V) T (mkF m 71 #[.val (.ref b), .val (.int y1), .val (.int y2), .val (.int (0 : Int32)), .val (.int (0 : Int32)), .unset] [(.int (0 : Int32))]) := by
        refine gIstore E X d8_71 (l' := #[.val (.ref b), .val (.int y1), .val (.int y2), .val (.int (0 : Int32)), .val (.int (0 : Int32)), .val (.int (0 : Int32))]) rfl (q := 73) rfl ?_
        refine gIloadN E X d8_73 rfl (q := 74) rfl ?_
        refine gIf_ne E X d8_74 (by decide) (q := 87) (by decide) (q' := 77) rfl (fun h74 => by exfalso; exact absurd h74 (by decide)) (fun h74 => ?_)
        refine gIload E X d8_77 rfl (q := 79) rfl ?_
        refine gIf_ne E X d8_79 (by decide) (q := 87) (by decide) (q' := 82) rfl (fun h79 => by exfalso; exact absurd h79 (by decide)) (fun h79 => ?_)
        refine gIload E X d8_82 rfl (q := 84) rfl ?_
        refine gIf_eq E X d8_84 (by decide) (q := 91) (by decide) (q' := 87) rfl (fun h84 => ?_) (fun h84 => by exfalso; exact absurd h84 (by decide))
        refine gIconst E X d8_91 (v := (0 : Int32)) (by decide) (q := 92) rfl ?_
        exact gRetN E X (by simp) d8_92 (by decide) (by decide) (⟨rfl, rfl⟩)
      refine gIc_gt E X d8_50 (by decide) (q := 70) (by decide) (q' := 53) rfl (fun h50 => ?_) (fun h50 => ?_)
      · refine gIconst E X d8_70 (v := (0 : Int32)) (by decide) (q := 71) rfl ?_
        exact k50
      · refine gIconst E X d8_53 (v := (2 : Int32)) (by decide) (q := 54) rfl ?_
        refine gIloadN E X d8_54 rfl (q := 55) rfl ?_
        refine gIc_ge E X d8_55 (by decide) (q := 70) (by decide) (q' := 58) rfl (fun h55 => ?_) (fun h55 => ?_)
        · refine gIconst E X d8_70 (v := (0 : Int32)) (by decide) (q := 71) rfl ?_
          exact k50
        · refine gAloadN E X d8_58 rfl rfl (q := 59) rfl ?_
          refine gIconst E X d8_59 (v := (2 : Int32)) (by decide) (q := 60) rfl ?_
          refine gBaload E X (i := k) (v := (.int (own_g ws 2))) d8_60 hk (by decide) (own_rd (j := 2) (by have q0 := h55; rw [Int32.lt_iff_toInt_lt] at q0; have : (2 : Int32).toInt = 2 := rfl; omega)) (q := 61) rfl ?_
          refine gBipush E X d8_61 (v := (10 : Int32)) (by decide) (q := 63) rfl ?_
          refine gIc_ne E X d8_63 (by decide) (q := 70) (by decide) (q' := 66) rfl (fun h63 => ?_) (fun h63 => by exfalso; exact hno 2 (by rw [Int32.lt_iff_toInt_lt] at h50; have : (2 : Int32).toInt = 2 := rfl; omega) (by rw [Int32.lt_iff_toInt_lt] at h55; have : (2 : Int32).toInt = 2 := rfl; omega) h63)
          refine gIconst E X d8_70 (v := (0 : Int32)) (by decide) (q := 71) rfl ?_
          exact k50
    refine gIc_gt E X d8_25 (by decide) (q := 45) (by decide) (q' := 28) rfl (fun h25 => ?_) (fun h25 => ?_)
    · refine gIconst E X d8_45 (v := (0 : Int32)) (by decide) (q := 46) rfl ?_
      exact k25
    · refine gIconst E X d8_28 (v := (1 : Int32)) (by decide) (q := 29) rfl ?_
      refine gIloadN E X d8_29 rfl (q := 30) rfl ?_
      refine gIc_ge E X d8_30 (by decide) (q := 45) (by decide) (q' := 33) rfl (fun h30 => ?_) (fun h30 => ?_)
      · refine gIconst E X d8_45 (v := (0 : Int32)) (by decide) (q := 46) rfl ?_
        exact k25
      · refine gAloadN E X d8_33 rfl rfl (q := 34) rfl ?_
        refine gIconst E X d8_34 (v := (1 : Int32)) (by decide) (q := 35) rfl ?_
        refine gBaload E X (i := k) (v := (.int (own_g ws 1))) d8_35 hk (by decide) (own_rd (j := 1) (by have q0 := h30; rw [Int32.lt_iff_toInt_lt] at q0; have : (1 : Int32).toInt = 1 := rfl; omega)) (q := 36) rfl ?_
        refine gBipush E X d8_36 (v := (10 : Int32)) (by decide) (q := 38) rfl ?_
        refine gIc_ne E X d8_38 (by decide) (q := 45) (by decide) (q' := 41) rfl (fun h38 => ?_) (fun h38 => by exfalso; exact hno 1 (by rw [Int32.lt_iff_toInt_lt] at h25; have : (1 : Int32).toInt = 1 := rfl; omega) (by rw [Int32.lt_iff_toInt_lt] at h30; have : (1 : Int32).toInt = 1 := rfl; omega) h38)
        refine gIconst E X d8_45 (v := (0 : Int32)) (by decide) (q := 46) rfl ?_
        exact k25
  refine gIf_gt E X d8_1 (by decide) (q := 21) (by decide) (q' := 4) rfl (fun h1 => ?_) (fun h1 => ?_)
  · refine gIconst E X d8_21 (v := (0 : Int32)) (by decide) (q := 22) rfl ?_
    exact k1
  · refine gIconst E X d8_4 (v := (0 : Int32)) (by decide) (q := 5) rfl ?_
    refine gIloadN E X d8_5 rfl (q := 6) rfl ?_
    refine gIc_ge E X d8_6 (by decide) (q := 21) (by decide) (q' := 9) rfl (fun h6 => ?_) (fun h6 => ?_)
    · refine gIconst E X d8_21 (v := (0 : Int32)) (by decide) (q := 22) rfl ?_
      exact k1
    · refine gAloadN E X d8_9 rfl rfl (q := 10) rfl ?_
      refine gIconst E X d8_10 (v := (0 : Int32)) (by decide) (q := 11) rfl ?_
      refine gBaload E X (i := k) (v := (.int (own_g ws 0))) d8_11 hk (by decide) (own_rd (j := 0) (by have q0 := h6; rw [Int32.lt_iff_toInt_lt] at q0; have : (0 : Int32).toInt = 0 := rfl; omega)) (q := 12) rfl ?_
      refine gBipush E X d8_12 (v := (10 : Int32)) (by decide) (q := 14) rfl ?_
      refine gIc_ne E X d8_14 (by decide) (q := 21) (by decide) (q' := 17) rfl (fun h14 => ?_) (fun h14 => by exfalso; exact hno 0 (by rw [Int32.lt_iff_toInt_lt] at h1; have : (0 : Int32).toInt = 0 := rfl; omega) (by rw [Int32.lt_iff_toInt_lt] at h6; have : (0 : Int32).toInt = 0 := rfl; omega) h14)
      refine gIconst E X d8_21 (v := (0 : Int32)) (by decide) (q := 22) rfl ?_
      exact k1
theorem pd_0 : parseMethodDescriptor "()Z" = some ⟨[], some .boolean⟩ := by decide +kernel
theorem pd_1 : parseMethodDescriptor "()I" = some ⟨[], some .int⟩ := by decide +kernel
theorem pd_2 : parseMethodDescriptor "([BII)Z" = some ⟨[(.array .byte), .int, .int], some .boolean⟩ := by decide +kernel
theorem d3_0 : decode method_4_code 0 = .ok (.aload_n 0, 1) := by decide +kernel
theorem d3_1 : decode method_4_code 1 = .ok (.invokevirtual 7, 3) := by decide +kernel
theorem d3_4 : decode method_4_code 4 = .ok (.istore 4, 2) := by decide +kernel
theorem d3_6 : decode method_4_code 6 = .ok (.iload_n 3, 1) := by decide +kernel
theorem d3_7 : decode method_4_code 7 = .ok (.iload_n 2, 1) := by decide +kernel
theorem d3_8 : decode method_4_code 8 = .ok (.if_icmp .lt 14, 3) := by decide +kernel
theorem d3_11 : decode method_4_code 11 = .ok (.iload 4, 2) := by decide +kernel
theorem d3_13 : decode method_4_code 13 = .ok (.ifCond .eq 7, 3) := by decide +kernel
theorem d3_20 : decode method_4_code 20 = .ok (.iload_n 3, 1) := by decide +kernel
theorem d3_21 : decode method_4_code 21 = .ok (.ireturn, 1) := by decide +kernel
theorem d3_22 : decode method_4_code 22 = .ok (.iload 4, 2) := by decide +kernel
theorem d3_24 : decode method_4_code 24 = .ok (.ifCond .ne 5, 3) := by decide +kernel
theorem d3_29 : decode method_4_code 29 = .ok (.aload_n 0, 1) := by decide +kernel
theorem d3_30 : decode method_4_code 30 = .ok (.invokevirtual 13, 3) := by decide +kernel
theorem d3_33 : decode method_4_code 33 = .ok (.iload_n 3, 1) := by decide +kernel
theorem d3_34 : decode method_4_code 34 = .ok (.if_icmp .eq 5, 3) := by decide +kernel
theorem d3_39 : decode method_4_code 39 = .ok (.aload_n 0, 1) := by decide +kernel
theorem d3_40 : decode method_4_code 40 = .ok (.invokevirtual 17, 3) := by decide +kernel
theorem d3_43 : decode method_4_code 43 = .ok (.istore 5, 2) := by decide +kernel
theorem d3_45 : decode method_4_code 45 = .ok (.iload 5, 2) := by decide +kernel
theorem d3_47 : decode method_4_code 47 = .ok (.iload_n 3, 1) := by decide +kernel
theorem d3_48 : decode method_4_code 48 = .ok (.if_icmp .lt 9, 3) := by decide +kernel
theorem d3_51 : decode method_4_code 51 = .ok (.iload 5, 2) := by decide +kernel
theorem d3_53 : decode method_4_code 53 = .ok (.iload_n 2, 1) := by decide +kernel
theorem d3_54 : decode method_4_code 54 = .ok (.if_icmp .le 5, 3) := by decide +kernel
theorem d3_59 : decode method_4_code 59 = .ok (.aload_n 1, 1) := by decide +kernel
theorem d3_60 : decode method_4_code 60 = .ok (.iload_n 3, 1) := by decide +kernel
theorem d3_61 : decode method_4_code 61 = .ok (.iload 5, 2) := by decide +kernel
theorem d3_63 : decode method_4_code 63 = .ok (.invokestatic 20, 3) := by decide +kernel
theorem d3_66 : decode method_4_code 66 = .ok (.ifCond .eq 5, 3) := by decide +kernel
theorem d3_71 : decode method_4_code 71 = .ok (.iload 5, 2) := by decide +kernel
theorem d3_73 : decode method_4_code 73 = .ok (.iload_n 2, 1) := by decide +kernel
theorem d3_74 : decode method_4_code 74 = .ok (.if_icmp .ne 7, 3) := by decide +kernel
theorem d3_77 : decode method_4_code 77 = .ok (.iload_n 2, 1) := by decide +kernel
theorem d3_78 : decode method_4_code 78 = .ok (.iconst 1, 1) := by decide +kernel
theorem d3_79 : decode method_4_code 79 = .ok (.iadd, 1) := by decide +kernel
theorem d3_80 : decode method_4_code 80 = .ok (.ireturn, 1) := by decide +kernel
theorem d3_81 : decode method_4_code 81 = .ok (.aload_n 1, 1) := by decide +kernel
theorem d3_82 : decode method_4_code 82 = .ok (.iload 5, 2) := by decide +kernel
theorem d3_84 : decode method_4_code 84 = .ok (.baload, 1) := by decide +kernel
theorem d3_85 : decode method_4_code 85 = .ok (.bipush 10, 2) := by decide +kernel
theorem d3_87 : decode method_4_code 87 = .ok (.if_icmp .ne 27, 3) := by decide +kernel
theorem d3_90 : decode method_4_code 90 = .ok (.iload 5, 2) := by decide +kernel
theorem d3_92 : decode method_4_code 92 = .ok (.iload_n 3, 1) := by decide +kernel
theorem d3_93 : decode method_4_code 93 = .ok (.if_icmp .le 16, 3) := by decide +kernel
theorem d3_96 : decode method_4_code 96 = .ok (.aload_n 1, 1) := by decide +kernel
theorem d3_97 : decode method_4_code 97 = .ok (.iload 5, 2) := by decide +kernel
theorem d3_99 : decode method_4_code 99 = .ok (.iconst 1, 1) := by decide +kernel
theorem d3_100 : decode method_4_code 100 = .ok (.isub, 1) := by decide +kernel
theorem d3_101 : decode method_4_code 101 = .ok (.baload, 1) := by decide +kernel
theorem d3_102 : decode method_4_code 102 = .ok (.bipush 13, 2) := by decide +kernel
theorem d3_104 : decode method_4_code 104 = .ok (.if_icmp .ne 5, 3) := by decide +kernel
theorem d3_109 : decode method_4_code 109 = .ok (.iload 5, 2) := by decide +kernel
theorem d3_111 : decode method_4_code 111 = .ok (.iconst 1, 1) := by decide +kernel
theorem d3_112 : decode method_4_code 112 = .ok (.iadd, 1) := by decide +kernel
theorem d3_113 : decode method_4_code 113 = .ok (.ireturn, 1) := by decide +kernel
theorem d3_114 : decode method_4_code 114 = .ok (.aload_n 1, 1) := by decide +kernel
theorem d3_115 : decode method_4_code 115 = .ok (.iload 5, 2) := by decide +kernel
theorem d3_117 : decode method_4_code 117 = .ok (.baload, 1) := by decide +kernel
theorem d3_118 : decode method_4_code 118 = .ok (.bipush 13, 2) := by decide +kernel
theorem d3_120 : decode method_4_code 120 = .ok (.if_icmp .ne 27, 3) := by decide +kernel
theorem d3_123 : decode method_4_code 123 = .ok (.iload 5, 2) := by decide +kernel
theorem d3_125 : decode method_4_code 125 = .ok (.iconst 1, 1) := by decide +kernel
theorem d3_126 : decode method_4_code 126 = .ok (.iadd, 1) := by decide +kernel
theorem d3_127 : decode method_4_code 127 = .ok (.iload_n 2, 1) := by decide +kernel
theorem d3_128 : decode method_4_code 128 = .ok (.if_icmp .ge 19, 3) := by decide +kernel
theorem d3_131 : decode method_4_code 131 = .ok (.aload_n 1, 1) := by decide +kernel
theorem d3_132 : decode method_4_code 132 = .ok (.iload 5, 2) := by decide +kernel
theorem d3_134 : decode method_4_code 134 = .ok (.iconst 1, 1) := by decide +kernel
theorem d3_135 : decode method_4_code 135 = .ok (.iadd, 1) := by decide +kernel
theorem d3_136 : decode method_4_code 136 = .ok (.baload, 1) := by decide +kernel
theorem d3_137 : decode method_4_code 137 = .ok (.bipush 10, 2) := by decide +kernel
theorem d3_139 : decode method_4_code 139 = .ok (.if_icmp .ne 8, 3) := by decide +kernel
theorem d3_142 : decode method_4_code 142 = .ok (.iload 5, 2) := by decide +kernel
theorem d3_144 : decode method_4_code 144 = .ok (.iconst 2, 1) := by decide +kernel
theorem d3_145 : decode method_4_code 145 = .ok (.iadd, 1) := by decide +kernel
theorem d3_146 : decode method_4_code 146 = .ok (.ireturn, 1) := by decide +kernel
set_option maxRecDepth 65536 in
set_option maxHeartbeats 40000000 in
theorem cT (l : Launch) (Z : State) (a0 : Array Value) (hw : ∀ d ∈ tables_1, d.before a0 Z = true) {V : oVw} (a : Addr) (b : Addr) (N : Int32) (y3 : Int32) (ws : List Int32) (y4 : Int32) (y5 : Int32) {i : Nat} (hi : V[i]? = some (a, (.inl ("com/example/meanfix/meanfix/TextFile$Lines", [("com/example/meanfix/meanfix/TextFile$Lines", "bytes", "[B", (.ref b)), ("com/example/meanfix/meanfix/TextFile$Lines", "next", "I", (.int y3)), ("com/example/meanfix/meanfix/TextFile$Lines", "start", "I", (.int y4)), ("com/example/meanfix/meanfix/TextFile$Lines", "end", "I", (.int y5))])))) {k : Nat} (hk : V[k]? = some (b, (.inr (.byte, (ws.map Value.int))))) (hik : k ≠ i) (hN : N.toInt = (ws.length : Int)) (hN' : (ws.map Value.int).length.toInt32 = N) (h0 : 0 ≤ y3.toInt) (h1 : y3.toInt ≤ (ws.length : Int) + 1) (h3 : ws.length ≤ 3) :
    oCon l Z (⟨"com/example/meanfix/meanfix/LinesNextPinLaw", "step", "(Lcom/example/meanfix/meanfix/TextFile$Lines;[BII)I"⟩ : MethodName) method_4_code 6 (some .int) ({ frames := 1, cells := 0, slots := 0, locals := 40 } : Room) #[(.ref a), (.ref b), (.int N), (.int y3)] V (fun v V' => ∃ (s' p' q' : Int32), v = some (.int s') ∧ V' = V.set i (a, (.inl ("com/example/meanfix/meanfix/TextFile$Lines", [("com/example/meanfix/meanfix/TextFile$Lines", "bytes", "[B", (.ref b)), ("com/example/meanfix/meanfix/TextFile$Lines", "next", "I", (.int s')), ("com/example/meanfix/meanfix/TextFile$Lines", "start", "I", (.int p')), ("com/example/meanfix/meanfix/TextFile$Lines", "end", "I", (.int q'))]))) ∧ 0 ≤ s'.toInt ∧ s'.toInt ≤ (ws.length : Int) + 1) := by
  refine oEnter (plainFor_of_name pn_com_example_meanfix_meanfix_LinesNextPinLaw) (Ls := #[.val (.ref a), .val (.ref b), .val (.int N), .val (.int y3), .unset, .unset]) (fun m => by first | (simp [entryFrame, mkF, argsToLocals, Value.category]; done) | rfl) ?_
  intro p e s m below meth c T E X
  by_cases hs : y3 < N
  · refine gAloadN E X d3_0 rfl rfl (q := 1) rfl ?_
    refine gCallV E X (W := 0) (c2 := 0) (s2 := 0) (i := i) (a := a) [] [] d3_1 hi (hw _ (List.mem_of_getElem? (i := 16) rfl)) (hw _ (List.mem_of_getElem? (i := 17) rfl)) (hw _ (List.mem_of_getElem? (i := 19) rfl)) (hw _ (List.mem_of_getElem? (i := 19) rfl)) (hw _ (List.mem_of_getElem? (i := 18) rfl)) (hw _ (List.mem_of_getElem? (i := 3) rfl)) (hw _ (List.mem_of_getElem? (i := 20) rfl)) (by decide) (cN1 l Z a0 hw a b ws N y3 y4 y5 (i := i) hi (k := k) hk hik hN hN' hs h0) pd_0 rfl rfl rfl (by decide) (Nat.le_of_eq rfl) (by decide) (by decide) (by decide) (by decide) (by decide) (q := 4) rfl ?_
    intro T1 v1 V1 R1 X1
    obtain ⟨iv, ev, I, rfl, eV1, li⟩ := R1
    have i1_0 := (eV1 ▸ oSetGet hi : V1[i]? = some (a, (.inl ("com/example/meanfix/meanfix/TextFile$Lines", [("com/example/meanfix/meanfix/TextFile$Lines", "bytes", "[B", (.ref b)), ("com/example/meanfix/meanfix/TextFile$Lines", "next", "I", (.int (iv + (1 : Int32)))), ("com/example/meanfix/meanfix/TextFile$Lines", "start", "I", (.int y3)), ("com/example/meanfix/meanfix/TextFile$Lines", "end", "I", (.int ev))]))))
    have i1_1 := (eV1 ▸ oSetNe (Ne.symm hik) hk : V1[k]? = some (b, (.inr (.byte, (ws.map Value.int)))))
    obtain ⟨l1, l2, l3, l4, l5, l6⟩ := li
    have hev : ev.toInt ≤ (I : Int) ∧ y3.toInt ≤ ev.toInt ∧ ev.toInt ≤ N.toInt := by rcases l6 with q | q <;> omega
    have hen : ev.toNatClampNeg = ev.toInt.toNat := rfl
    have hr := rng32 N
    have k1 : (1 : Int32).toInt = 1 := rfl
    have k2 : (2 : Int32).toInt = 2 := rfl
    show oG p e below s Z ({ frames := 1, cells := 0, slots := 0, locals := 40 } : Room) (fun v V' => ∃ (s' p' q' : Int32), v = some (.int s') ∧ V' = V.set i (a, (.inl ("com/example/meanfix/meanfix/TextFile$Lines", [("com/example/meanfix/meanfix/TextFile$Lines", "bytes", "[B", (.ref b)), ("com/example/meanfix/meanfix/TextFile$Lines", "next", "I", (.int s')), ("com/example/meanfix/meanfix/TextFile$Lines", "start", "I", (.int p')), ("com/example/meanfix/meanfix/TextFile$Lines", "end", "I", (.int q'))]))) ∧ 0 ≤ s'.toInt ∧ s'.toInt ≤ (ws.length : Int) + 1) T1 (mkF m 4 #[.val (.ref a), .val (.ref b), .val (.int N), .val (.int y3), .unset, .unset] [(.int (1 : Int32))])
    refine gIstore E X1 d3_4 (l' := #[.val (.ref a), .val (.ref b), .val (.int N), .val (.int y3), .val (.int (1 : Int32)), .unset]) rfl (q := 6) rfl ?_
    refine gIloadN E X1 d3_6 rfl (q := 7) rfl ?_
    refine gIloadN E X1 d3_7 rfl (q := 8) rfl ?_
    refine gIc_lt E X1 d3_8 (by decide) (q := 22) (by decide) (q' := 11) rfl (fun h8 => ?_) (fun h8 => by exfalso; exact h8 hs)
    refine gIload E X1 d3_22 rfl (q := 24) rfl ?_
    refine gIf_ne E X1 d3_24 (by decide) (q := 29) (by decide) (q' := 27) rfl (fun h24 => ?_) (fun h24 => by exfalso; exact absurd h24 (by decide))
    refine gAloadN E X1 d3_29 rfl rfl (q := 30) rfl ?_
    refine gCallV E X1 (W := 0) (c2 := 0) (s2 := 0) (i := i) (a := a) [] [] d3_30 i1_0 (hw _ (List.mem_of_getElem? (i := 30) rfl)) (hw _ (List.mem_of_getElem? (i := 31) rfl)) (hw _ (List.mem_of_getElem? (i := 33) rfl)) (hw _ (List.mem_of_getElem? (i := 33) rfl)) (hw _ (List.mem_of_getElem? (i := 32) rfl)) (hw _ (List.mem_of_getElem? (i := 3) rfl)) (hw _ (List.mem_of_getElem? (i := 34) rfl)) (by decide) (cS l Z a0 hw a b (iv + (1 : Int32)) y3 ev (i := i) i1_0) pd_1 rfl rfl rfl (by decide) (Nat.le_of_eq rfl) (by decide) (by decide) (by decide) (by decide) (by decide) (q := 33) rfl ?_
    intro T2 v2 V2 R2 X2
    obtain ⟨rfl, eQ2⟩ := R2
    rw [eQ2] at X2
    show oG p e below s Z ({ frames := 1, cells := 0, slots := 0, locals := 40 } : Room) (fun v V' => ∃ (s' p' q' : Int32), v = some (.int s') ∧ V' = V.set i (a, (.inl ("com/example/meanfix/meanfix/TextFile$Lines", [("com/example/meanfix/meanfix/TextFile$Lines", "bytes", "[B", (.ref b)), ("com/example/meanfix/meanfix/TextFile$Lines", "next", "I", (.int s')), ("com/example/meanfix/meanfix/TextFile$Lines", "start", "I", (.int p')), ("com/example/meanfix/meanfix/TextFile$Lines", "end", "I", (.int q'))]))) ∧ 0 ≤ s'.toInt ∧ s'.toInt ≤ (ws.length : Int) + 1) T2 (mkF m 33 #[.val (.ref a), .val (.ref b), .val (.int N), .val (.int y3), .val (.int (1 : Int32)), .unset] [(.int y3)])
    refine gIloadN E X2 d3_33 rfl (q := 34) rfl ?_
    refine gIc_eq E X2 d3_34 (by decide) (q := 39) (by decide) (q' := 37) rfl (fun h34 => ?_) (fun h34 => by exfalso; exact h34 rfl)
    refine gAloadN E X2 d3_39 rfl rfl (q := 40) rfl ?_
    refine gCallV E X2 (W := 0) (c2 := 0) (s2 := 0) (i := i) (a := a) [] [] d3_40 i1_0 (hw _ (List.mem_of_getElem? (i := 35) rfl)) (hw _ (List.mem_of_getElem? (i := 36) rfl)) (hw _ (List.mem_of_getElem? (i := 38) rfl)) (hw _ (List.mem_of_getElem? (i := 38) rfl)) (hw _ (List.mem_of_getElem? (i := 37) rfl)) (hw _ (List.mem_of_getElem? (i := 3) rfl)) (hw _ (List.mem_of_getElem? (i := 39) rfl)) (by decide) (cE l Z a0 hw a b (iv + (1 : Int32)) y3 ev (i := i) i1_0) pd_1 rfl rfl rfl (by decide) (Nat.le_of_eq rfl) (by decide) (by decide) (by decide) (by decide) (by decide) (q := 43) rfl ?_
    intro T3 v3 V3 R3 X3
    obtain ⟨rfl, eQ3⟩ := R3
    rw [eQ3] at X3
    show oG p e below s Z ({ frames := 1, cells := 0, slots := 0, locals := 40 } : Room) (fun v V' => ∃ (s' p' q' : Int32), v = some (.int s') ∧ V' = V.set i (a, (.inl ("com/example/meanfix/meanfix/TextFile$Lines", [("com/example/meanfix/meanfix/TextFile$Lines", "bytes", "[B", (.ref b)), ("com/example/meanfix/meanfix/TextFile$Lines", "next", "I", (.int s')), ("com/example/meanfix/meanfix/TextFile$Lines", "start", "I", (.int p')), ("com/example/meanfix/meanfix/TextFile$Lines", "end", "I", (.int q'))]))) ∧ 0 ≤ s'.toInt ∧ s'.toInt ≤ (ws.length : Int) + 1) T3 (mkF m 43 #[.val (.ref a), .val (.ref b), .val (.int N), .val (.int y3), .val (.int (1 : Int32)), .unset] [(.int ev)])
    refine gIstore E X3 d3_43 (l' := #[.val (.ref a), .val (.ref b), .val (.int N), .val (.int y3), .val (.int (1 : Int32)), .val (.int ev)]) rfl (q := 45) rfl ?_
    refine gIload E X3 d3_45 rfl (q := 47) rfl ?_
    refine gIloadN E X3 d3_47 rfl (q := 48) rfl ?_
    refine gIc_lt E X3 d3_48 (by decide) (q := 57) (by decide) (q' := 51) rfl (fun h48 => by exfalso; rw [Int32.lt_iff_toInt_lt] at h48; omega) (fun h48 => ?_)
    refine gIload E X3 d3_51 rfl (q := 53) rfl ?_
    refine gIloadN E X3 d3_53 rfl (q := 54) rfl ?_
    refine gIc_le E X3 d3_54 (by decide) (q := 59) (by decide) (q' := 57) rfl (fun h54 => ?_) (fun h54 => by exfalso; rw [Int32.lt_iff_toInt_lt] at h54; omega)
    refine gAloadN E X3 d3_59 rfl rfl (q := 60) rfl ?_
    refine gIloadN E X3 d3_60 rfl (q := 61) rfl ?_
    refine gIload E X3 d3_61 rfl (q := 63) rfl ?_
    refine gCallS E X3 (W := 0) (c2 := 0) (s2 := 0) [(.ref b), (.int y3), (.int ev)] [] d3_63 (hw _ (List.mem_of_getElem? (i := 40) rfl)) (hw _ (List.mem_of_getElem? (i := 41) rfl)) (hw _ (List.mem_of_getElem? (i := 14) rfl)) (hw _ (List.mem_of_getElem? (i := 42) rfl)) (by decide) (cH l Z a0 hw b y3 ev ws (k := k) i1_1 h0 (by omega) (fun j q1 q2 => l4 j q1 (by omega))) pd_2 rfl rfl rfl (by decide) (Nat.le_of_eq rfl) (by decide) (by decide) (by decide) (by decide) (by decide) (q := 66) rfl ?_
    intro T4 v4 V4 R4 X4
    obtain ⟨rfl, eQ4⟩ := R4
    rw [eQ4] at X4
    show oG p e below s Z ({ frames := 1, cells := 0, slots := 0, locals := 40 } : Room) (fun v V' => ∃ (s' p' q' : Int32), v = some (.int s') ∧ V' = V.set i (a, (.inl ("com/example/meanfix/meanfix/TextFile$Lines", [("com/example/meanfix/meanfix/TextFile$Lines", "bytes", "[B", (.ref b)), ("com/example/meanfix/meanfix/TextFile$Lines", "next", "I", (.int s')), ("com/example/meanfix/meanfix/TextFile$Lines", "start", "I", (.int p')), ("com/example/meanfix/meanfix/TextFile$Lines", "end", "I", (.int q'))]))) ∧ 0 ≤ s'.toInt ∧ s'.toInt ≤ (ws.length : Int) + 1) T4 (mkF m 66 #[.val (.ref a), .val (.ref b), .val (.int N), .val (.int y3), .val (.int (1 : Int32)), .val (.int ev)] [(.int (0 : Int32))])
    refine gIf_eq E X4 d3_66 (by decide) (q := 71) (by decide) (q' := 69) rfl (fun h66 => ?_) (fun h66 => by exfalso; exact absurd h66 (by decide))
    refine gIload E X4 d3_71 rfl (q := 73) rfl ?_
    refine gIloadN E X4 d3_73 rfl (q := 74) rfl ?_
    refine gIc_ne E X4 d3_74 (by decide) (q := 81) (by decide) (q' := 77) rfl (fun h74 => ?_) (fun h74 => ?_)
    · have hne : ¬ ev.toInt = N.toInt := fun q => h74 (Int32.toInt_inj.mp q)
      refine gAloadN E X4 d3_81 rfl rfl (q := 82) rfl ?_
      refine gIload E X4 d3_82 rfl (q := 84) rfl ?_
      refine gBaload E X4 (i := k) (v := (.int (own_g ws ev.toInt.toNat))) d3_84 i1_1 (oN0 (by omega)) (by rw [hen]; exact own_rd (by omega)) (q := 85) rfl ?_
      refine gBipush E X4 d3_85 (v := (10 : Int32)) (by decide) (q := 87) rfl ?_
      refine gIc_ne E X4 d3_87 (by decide) (q := 114) (by decide) (q' := 90) rfl (fun h87 => ?_) (fun h87 => ?_)
      · have q6 : ev.toInt = (I : Int) - 1 ∧ I < ws.length ∧ y3.toInt < (I : Int) ∧ own_g ws (I - 1) = (13 : Int32) := by
          rcases l6 with q | q
          · exfalso; exact h87 (by rw [show ev.toInt.toNat = I by omega]; exact l5 (by omega))
          · exact q
        have g3 : (ev + (1 : Int32)).toInt = ev.toInt + 1 := by rw [oAdd32] <;> rw [k1] <;> omega
        have g4 : (ev + (1 : Int32)).toNatClampNeg = ev.toInt.toNat + 1 := by simp only [Int32.toNatClampNeg, g3]; omega
        refine gAloadN E X4 d3_114 rfl rfl (q := 115) rfl ?_
        refine gIload E X4 d3_115 rfl (q := 117) rfl ?_
        refine gBaload E X4 (i := k) (v := (.int (own_g ws ev.toInt.toNat))) d3_117 i1_1 (oN0 (by omega)) (by rw [hen]; exact own_rd (by omega)) (q := 118) rfl ?_
        refine gBipush E X4 d3_118 (v := (13 : Int32)) (by decide) (q := 120) rfl ?_
        refine gIc_ne E X4 d3_120 (by decide) (q := 147) (by decide) (q' := 123) rfl (fun h120 => by exfalso; exact h120 (by rw [show ev.toInt.toNat = I - 1 by omega]; exact q6.2.2.2)) (fun h120 => ?_)
        refine gIload E X4 d3_123 rfl (q := 125) rfl ?_
        refine gIconst E X4 d3_125 (v := (1 : Int32)) (by decide) (q := 126) rfl ?_
        refine gIadd E X4 d3_126 (z := (ev + (1 : Int32))) rfl (q := 127) rfl ?_
        refine gIloadN E X4 d3_127 rfl (q := 128) rfl ?_
        refine gIc_ge E X4 d3_128 (by decide) (q := 147) (by decide) (q' := 131) rfl (fun h128 => by exfalso; exact h128 (by rw [Int32.lt_iff_toInt_lt, g3]; omega)) (fun h128 => ?_)
        refine gAloadN E X4 d3_131 rfl rfl (q := 132) rfl ?_
        refine gIload E X4 d3_132 rfl (q := 134) rfl ?_
        refine gIconst E X4 d3_134 (v := (1 : Int32)) (by decide) (q := 135) rfl ?_
        refine gIadd E X4 d3_135 (z := (ev + (1 : Int32))) rfl (q := 136) rfl ?_
        refine gBaload E X4 (i := k) (v := (.int (own_g ws (ev.toInt.toNat + 1)))) d3_136 i1_1 (oN0 (by rw [g3]; omega)) (by rw [g4]; exact own_rd (by omega)) (q := 137) rfl ?_
        refine gBipush E X4 d3_137 (v := (10 : Int32)) (by decide) (q := 139) rfl ?_
        refine gIc_ne E X4 d3_139 (by decide) (q := 147) (by decide) (q' := 142) rfl (fun h139 => by exfalso; exact h139 (by rw [show ev.toInt.toNat + 1 = I by omega]; exact l5 (by omega))) (fun h139 => ?_)
        refine gIload E X4 d3_142 rfl (q := 144) rfl ?_
        refine gIconst E X4 d3_144 (v := (2 : Int32)) (by decide) (q := 145) rfl ?_
        refine gIadd E X4 d3_145 (z := (ev + (2 : Int32))) rfl (q := 146) rfl ?_
        exact gRetI E X4 d3_146 (by decide) (by decide) (⟨iv + (1 : Int32), y3, ev, by have : iv + (1 : Int32) = ev + (2 : Int32) := Int32.toInt_inj.mp (by rw [oAdd32] <;> (try rw [oAdd32]) <;> (try rw [k1]) <;> (try rw [k2]) <;> omega); rw [this], eV1, by rw [oAdd32] <;> rw [k1] <;> omega, by rw [oAdd32] <;> rw [k1] <;> omega⟩)
      · refine gIload E X4 d3_90 rfl (q := 92) rfl ?_
        refine gIloadN E X4 d3_92 rfl (q := 93) rfl ?_
        refine gIc_le E X4 d3_93 (by decide) (q := 109) (by decide) (q' := 96) rfl (fun h93 => ?_) (fun h93 => ?_)
        · refine gIload E X4 d3_109 rfl (q := 111) rfl ?_
          refine gIconst E X4 d3_111 (v := (1 : Int32)) (by decide) (q := 112) rfl ?_
          refine gIadd E X4 d3_112 (z := (ev + (1 : Int32))) rfl (q := 113) rfl ?_
          exact gRetI E X4 d3_113 (by decide) (by decide) (⟨iv + (1 : Int32), y3, ev, by have : iv = ev := Int32.toInt_inj.mp (by rcases l6 with q | q; (omega); (exfalso; exact l4 ev.toInt.toNat (by omega) (by omega) h87)); rw [this], eV1, by rw [oAdd32] <;> rw [k1] <;> omega, by rw [oAdd32] <;> rw [k1] <;> omega⟩)
        · have g1 : (ev - (1 : Int32)).toInt = ev.toInt - 1 := by rw [oSub32] <;> rw [k1] <;> omega
          have g2 : (ev - (1 : Int32)).toNatClampNeg = ev.toInt.toNat - 1 := by simp only [Int32.toNatClampNeg, g1]; omega
          refine gAloadN E X4 d3_96 rfl rfl (q := 97) rfl ?_
          refine gIload E X4 d3_97 rfl (q := 99) rfl ?_
          refine gIconst E X4 d3_99 (v := (1 : Int32)) (by decide) (q := 100) rfl ?_
          refine gIsub E X4 d3_100 (z := (ev - (1 : Int32))) rfl (q := 101) rfl ?_
          refine gBaload E X4 (i := k) (v := (.int (own_g ws (ev.toInt.toNat - 1)))) d3_101 i1_1 (oN0 (by rw [g1]; rw [Int32.lt_iff_toInt_lt] at h93; omega)) (by rw [g2]; exact own_rd (by omega)) (q := 102) rfl ?_
          refine gBipush E X4 d3_102 (v := (13 : Int32)) (by decide) (q := 104) rfl ?_
          refine gIc_ne E X4 d3_104 (by decide) (q := 109) (by decide) (q' := 107) rfl (fun h104 => ?_) (fun h104 => by exfalso; rcases l6 with q | q; (exact q.2 ⟨by omega, by rw [Int32.lt_iff_toInt_lt] at h93; omega, by rw [show I - 1 = ev.toInt.toNat - 1 by omega]; exact h104⟩); (exact l4 ev.toInt.toNat (by omega) (by omega) h87))
          refine gIload E X4 d3_109 rfl (q := 111) rfl ?_
          refine gIconst E X4 d3_111 (v := (1 : Int32)) (by decide) (q := 112) rfl ?_
          refine gIadd E X4 d3_112 (z := (ev + (1 : Int32))) rfl (q := 113) rfl ?_
          exact gRetI E X4 d3_113 (by decide) (by decide) (⟨iv + (1 : Int32), y3, ev, by have : iv = ev := Int32.toInt_inj.mp (by rcases l6 with q | q; (omega); (exfalso; exact l4 ev.toInt.toNat (by omega) (by omega) h87)); rw [this], eV1, by rw [oAdd32] <;> rw [k1] <;> omega, by rw [oAdd32] <;> rw [k1] <;> omega⟩)
    · refine gIloadN E X4 d3_77 rfl (q := 78) rfl ?_
      refine gIconst E X4 d3_78 (v := (1 : Int32)) (by decide) (q := 79) rfl ?_
      refine gIadd E X4 d3_79 (z := (N + (1 : Int32))) rfl (q := 80) rfl ?_
      exact gRetI E X4 d3_80 (by decide) (by decide) (⟨iv + (1 : Int32), y3, ev, by have : iv = N := Int32.toInt_inj.mp (by have := congrArg Int32.toInt h74; omega); rw [this], eV1, by rw [oAdd32] <;> rw [k1] <;> omega, by rw [oAdd32] <;> rw [k1] <;> omega⟩)
  · refine gAloadN E X d3_0 rfl rfl (q := 1) rfl ?_
    refine gCallV E X (W := 0) (c2 := 0) (s2 := 0) (i := i) (a := a) [] [] d3_1 hi (hw _ (List.mem_of_getElem? (i := 16) rfl)) (hw _ (List.mem_of_getElem? (i := 17) rfl)) (hw _ (List.mem_of_getElem? (i := 19) rfl)) (hw _ (List.mem_of_getElem? (i := 19) rfl)) (hw _ (List.mem_of_getElem? (i := 18) rfl)) (hw _ (List.mem_of_getElem? (i := 3) rfl)) (hw _ (List.mem_of_getElem? (i := 20) rfl)) (by decide) (cN0 l Z a0 hw a b ws N y3 y4 y5 (i := i) hi (k := k) hk hik hN hN' hs) pd_0 rfl rfl rfl (by decide) (Nat.le_of_eq rfl) (by decide) (by decide) (by decide) (by decide) (by decide) (q := 4) rfl ?_
    intro T5 v5 V5 R5 X5
    obtain ⟨rfl, eQ5⟩ := R5
    rw [eQ5] at X5
    show oG p e below s Z ({ frames := 1, cells := 0, slots := 0, locals := 40 } : Room) (fun v V' => ∃ (s' p' q' : Int32), v = some (.int s') ∧ V' = V.set i (a, (.inl ("com/example/meanfix/meanfix/TextFile$Lines", [("com/example/meanfix/meanfix/TextFile$Lines", "bytes", "[B", (.ref b)), ("com/example/meanfix/meanfix/TextFile$Lines", "next", "I", (.int s')), ("com/example/meanfix/meanfix/TextFile$Lines", "start", "I", (.int p')), ("com/example/meanfix/meanfix/TextFile$Lines", "end", "I", (.int q'))]))) ∧ 0 ≤ s'.toInt ∧ s'.toInt ≤ (ws.length : Int) + 1) T5 (mkF m 4 #[.val (.ref a), .val (.ref b), .val (.int N), .val (.int y3), .unset, .unset] [(.int (0 : Int32))])
    refine gIstore E X5 d3_4 (l' := #[.val (.ref a), .val (.ref b), .val (.int N), .val (.int y3), .val (.int (0 : Int32)), .unset]) rfl (q := 6) rfl ?_
    refine gIloadN E X5 d3_6 rfl (q := 7) rfl ?_
    refine gIloadN E X5 d3_7 rfl (q := 8) rfl ?_
    refine gIc_lt E X5 d3_8 (by decide) (q := 22) (by decide) (q' := 11) rfl (fun h8 => by exfalso; exact hs h8) (fun h8 => ?_)
    refine gIload E X5 d3_11 rfl (q := 13) rfl ?_
    refine gIf_eq E X5 d3_13 (by decide) (q := 20) (by decide) (q' := 16) rfl (fun h13 => ?_) (fun h13 => by exfalso; exact absurd h13 (by decide))
    refine gIloadN E X5 d3_20 rfl (q := 21) rfl ?_
    exact gRetI E X5 d3_21 (by decide) (by decide) (⟨y3, y4, y5, rfl, (oSetSame hi).symm, by omega, by omega⟩)
theorem lay_TextFile_Lines (Z : State) (a0 : Array Value) (hw : ∀ d ∈ tables_1, d.before a0 Z = true) : oLay Z a0 "com/example/meanfix/meanfix/TextFile$Lines" [("com/example/meanfix/meanfix/TextFile$Lines", "bytes", "[B", .null), ("com/example/meanfix/meanfix/TextFile$Lines", "next", "I", (.int (0 : Int32))), ("com/example/meanfix/meanfix/TextFile$Lines", "start", "I", (.int (0 : Int32))), ("com/example/meanfix/meanfix/TextFile$Lines", "end", "I", (.int (0 : Int32)))] := oLay.of (by decide) ⟨⟨Or.inr (hw _ (List.mem_of_getElem? (i := 11) rfl)), (.array .byte), by decide, rfl⟩, ⟨Or.inl (hw _ (List.mem_of_getElem? (i := 22) rfl)), .int, by decide, rfl⟩, ⟨Or.inl (hw _ (List.mem_of_getElem? (i := 27) rfl)), .int, by decide, rfl⟩, ⟨Or.inl (hw _ (List.mem_of_getElem? (i := 29) rfl)), .int, by decide, rfl⟩, trivial⟩
theorem pd_3 : parseMethodDescriptor "([B)V" = some ⟨[(.array .byte)], none⟩ := by decide +kernel
theorem pd_4 : parseMethodDescriptor "(Lcom/example/meanfix/meanfix/TextFile$Lines;[BII)I" = some ⟨[(.object "com/example/meanfix/meanfix/TextFile$Lines"), (.array .byte), .int, .int], some .int⟩ := by decide +kernel
theorem pd_5 : parseMethodDescriptor "(I)B" = some ⟨[.int], some .byte⟩ := by decide +kernel
set_option maxRecDepth 65536 in
set_option maxHeartbeats 40000000 in
theorem rm0 (l : Launch) (Z : State) (a0 : Array Value) (hw : ∀ d ∈ tables_1, d.before a0 Z = true) (u0 : Int32) (u1 : Int32) (u2 : Int32) (u3 : Int32)  :
    oCon l Z x code maxLocals ret room_1 #[(.int u0), (.int u1), (.int u2), (.int u3)] [] (fun v _ => v = some (.int 1)) := by
  refine oEnter (plainFor_of_name pn_com_example_meanfix_meanfix_LinesNextPinLaw) (Ls := #[.val (.int u0), .val (.int u1), .val (.int u2), .val (.int u3), .unset, .unset, .unset, .unset]) (fun m => by first | (simp [entryFrame, mkF, argsToLocals, Value.category, maxLocals]; done) | rfl) ?_
  intro p e s m below meth c T E X
  refine gIloadN E X at_0 rfl (q := 1) rfl ?_
  refine gIconst E X at_1 (v := (3 : Int32)) (by decide) (q := 2) rfl ?_
  refine gIand E X at_2 (z := (u0 &&& (3 : Int32))) rfl (q := 3) rfl ?_
  refine gIstore E X at_3 (l' := #[.val (.int u0), .val (.int u1), .val (.int u2), .val (.int u3), .val (.int (u0 &&& (3 : Int32))), .unset, .unset, .unset]) rfl (q := 5) rfl ?_
  refine (fun (k : ∀ (nn : Int32), nn = (u0 &&& (3 : Int32)) → oG p e below s Z room_1 (fun v _ => v = some (.int 1)) T (mkF m 5 #[.val (.int u0), .val (.int u1), .val (.int u2), .val (.int u3), .val (.int nn), .unset, .unset, .unset] [])) => k _ rfl) ?_
  intro nn hnn
  rcases (show nn = (0 : Int32) ∨ nn = (1 : Int32) ∨ nn = (2 : Int32) ∨ nn = (3 : Int32) from by rw [hnn]; exact own_n u0) with rfl | rfl | rfl | rfl
  · refine gIload E X at_5 rfl (q := 7) rfl ?_
    refine gNewA E X (c2 := 1) (s2 := 0) (cap := 0) (vs := []) (ty := .byte) rfl at_7 (hw _ (List.mem_of_getElem? (i := 0) rfl)) (by decide) (by decide) (by decide) rfl (by decide) (by decide) (by decide) (by decide) (q := 9) rfl ?_
    intro T1 a1 X1
    refine gAstore E X1 at_9 rfl (l' := #[.val (.int u0), .val (.int u1), .val (.int u2), .val (.int u3), .val (.int (0 : Int32)), .val (.ref a1), .unset, .unset]) rfl (q := 11) rfl ?_
    refine gIload E X1 at_11 rfl (q := 13) rfl ?_
    refine gIf_le E X1 at_13 (by decide) (q := 24) (by decide) (q' := 16) rfl (fun h13 => ?_) (fun h13 => by exfalso; exact absurd h13 (by decide))
    refine gIload E X1 at_24 rfl (q := 26) rfl ?_
    refine gIconst E X1 at_26 (v := (1 : Int32)) (by decide) (q := 27) rfl ?_
    refine gIc_le E X1 at_27 (by decide) (q := 38) (by decide) (q' := 30) rfl (fun h27 => ?_) (fun h27 => by exfalso; exact absurd h27 (by decide))
    refine gIload E X1 at_38 rfl (q := 40) rfl ?_
    refine gIconst E X1 at_40 (v := (2 : Int32)) (by decide) (q := 41) rfl ?_
    refine gIc_le E X1 at_41 (by decide) (q := 52) (by decide) (q' := 44) rfl (fun h41 => ?_) (fun h41 => by exfalso; exact absurd h41 (by decide))
    refine gNew E X1 (c2 := 2) (s2 := 4) at_52 (hw _ (List.mem_of_getElem? (i := 1) rfl)) (hw _ (List.mem_of_getElem? (i := 2) rfl)) (hw _ (List.mem_of_getElem? (i := 3) rfl)) (lay_TextFile_Lines Z a0 hw) (by decide) (by decide) (by decide) (by decide) (q := 55) rfl ?_
    intro T2 a2 X2
    refine gDup E X2 at_55 rfl (q := 56) rfl ?_
    refine gAload E X2 at_56 rfl rfl (q := 58) rfl ?_
    refine gCallI E X2 (W := 1) (c2 := 2) (s2 := 4) (a := a2) [(.ref a1)] [(.ref a2)] at_58 rfl (hw _ (List.mem_of_getElem? (i := 4) rfl)) (hw _ (List.mem_of_getElem? (i := 5) rfl)) (hw _ (List.mem_of_getElem? (i := 3) rfl)) (hw _ (List.mem_of_getElem? (i := 6) rfl)) (by decide) (cI l Z a0 hw a2 a1 (i := 1) rfl) pd_3 rfl rfl rfl (by decide) (Nat.le_of_eq rfl) (by decide) (by decide) (by decide) (by decide) (by decide) (q := 61) rfl ?_
    intro T3 v3 V3 R3 X3
    obtain ⟨rfl, rfl⟩ := R3
    replace X3 : oX p l e room_1 s m #[(.int u0), (.int u1), (.int u2), (.int u3)] below meth c Z T3 [(a1, (.inr (.byte, []))), (a2, (.inl ("com/example/meanfix/meanfix/TextFile$Lines", [("com/example/meanfix/meanfix/TextFile$Lines", "bytes", "[B", (.ref a1)), ("com/example/meanfix/meanfix/TextFile$Lines", "next", "I", (.int (0 : Int32))), ("com/example/meanfix/meanfix/TextFile$Lines", "start", "I", (.int (0 : Int32))), ("com/example/meanfix/meanfix/TextFile$Lines", "end", "I", (.int (0 : Int32)))])))] 2 4 := X3
    show oG p e below s Z room_1 (fun v _ => v = some (.int 1)) T3 (mkF m 61 #[.val (.int u0), .val (.int u1), .val (.int u2), .val (.int u3), .val (.int (0 : Int32)), .val (.ref a1), .unset, .unset] [(.ref a2)])
    refine gAstore E X3 at_61 rfl (l' := #[.val (.int u0), .val (.int u1), .val (.int u2), .val (.int u3), .val (.int (0 : Int32)), .val (.ref a1), .val (.ref a2), .unset]) rfl (q := 63) rfl ?_
    refine gIconst E X3 at_63 (v := (0 : Int32)) (by decide) (q := 64) rfl ?_
    refine gIstore E X3 at_64 (l' := #[.val (.int u0), .val (.int u1), .val (.int u2), .val (.int u3), .val (.int (0 : Int32)), .val (.ref a1), .val (.ref a2), .val (.int (0 : Int32))]) rfl (q := 66) rfl ?_
    refine gAload E X3 at_66 rfl rfl (q := 68) rfl ?_
    refine gAload E X3 at_68 rfl rfl (q := 70) rfl ?_
    refine gIload E X3 at_70 rfl (q := 72) rfl ?_
    refine gIload E X3 at_72 rfl (q := 74) rfl ?_
    refine gCallS E X3 (W := 0) (c2 := 2) (s2 := 4) [(.ref a2), (.ref a1), (.int (0 : Int32)), (.int (0 : Int32))] [] at_74 (hw _ (List.mem_of_getElem? (i := 12) rfl)) (hw _ (List.mem_of_getElem? (i := 13) rfl)) (hw _ (List.mem_of_getElem? (i := 14) rfl)) (hw _ (List.mem_of_getElem? (i := 15) rfl)) (by decide) (cT l Z a0 hw a2 a1 (0 : Int32) (0 : Int32) [] (0 : Int32) (0 : Int32) (i := 1) rfl (k := 0) rfl (by decide) rfl rfl (by decide) (show (0 : Int32).toInt ≤ ((0 : Nat) : Int) + 1 by decide) (show 0 ≤ 3 by decide)) pd_4 rfl rfl rfl (by decide) (Nat.le_of_eq rfl) (by decide) (by decide) (by decide) (by decide) (by decide) (q := 77) rfl ?_
    intro T4 v4 V4 R4 X4
    obtain ⟨s4, p4, q4, rfl, rfl, z4, t4⟩ := R4
    replace X4 : oX p l e room_1 s m #[(.int u0), (.int u1), (.int u2), (.int u3)] below meth c Z T4 [(a1, (.inr (.byte, []))), (a2, (.inl ("com/example/meanfix/meanfix/TextFile$Lines", [("com/example/meanfix/meanfix/TextFile$Lines", "bytes", "[B", (.ref a1)), ("com/example/meanfix/meanfix/TextFile$Lines", "next", "I", (.int s4)), ("com/example/meanfix/meanfix/TextFile$Lines", "start", "I", (.int p4)), ("com/example/meanfix/meanfix/TextFile$Lines", "end", "I", (.int q4))])))] 2 4 := X4
    show oG p e below s Z room_1 (fun v _ => v = some (.int 1)) T4 (mkF m 77 #[.val (.int u0), .val (.int u1), .val (.int u2), .val (.int u3), .val (.int (0 : Int32)), .val (.ref a1), .val (.ref a2), .val (.int (0 : Int32))] [(.int s4)])
    refine gIstore E X4 at_77 (l' := #[.val (.int u0), .val (.int u1), .val (.int u2), .val (.int u3), .val (.int (0 : Int32)), .val (.ref a1), .val (.ref a2), .val (.int s4)]) rfl (q := 79) rfl ?_
    refine gIload E X4 at_79 rfl (q := 81) rfl ?_
    refine gIf_ge E X4 at_81 (by decide) (q := 86) (by decide) (q' := 84) rfl (fun h81 => ?_) (fun h81 => by exfalso; rw [XT.negI32] at h81; omega)
    refine gAload E X4 at_86 rfl rfl (q := 88) rfl ?_
    refine gAload E X4 at_88 rfl rfl (q := 90) rfl ?_
    refine gIload E X4 at_90 rfl (q := 92) rfl ?_
    refine gIload E X4 at_92 rfl (q := 94) rfl ?_
    refine gCallS E X4 (W := 0) (c2 := 2) (s2 := 4) [(.ref a2), (.ref a1), (.int (0 : Int32)), (.int s4)] [] at_94 (hw _ (List.mem_of_getElem? (i := 12) rfl)) (hw _ (List.mem_of_getElem? (i := 13) rfl)) (hw _ (List.mem_of_getElem? (i := 14) rfl)) (hw _ (List.mem_of_getElem? (i := 15) rfl)) (by decide) (cT l Z a0 hw a2 a1 (0 : Int32) s4 [] p4 q4 (i := 1) rfl (k := 0) rfl (by decide) rfl rfl z4 t4 (show 0 ≤ 3 by decide)) pd_4 rfl rfl rfl (by decide) (Nat.le_of_eq rfl) (by decide) (by decide) (by decide) (by decide) (by decide) (q := 97) rfl ?_
    intro T5 v5 V5 R5 X5
    obtain ⟨s5, p5, q5, rfl, rfl, z5, t5⟩ := R5
    replace X5 : oX p l e room_1 s m #[(.int u0), (.int u1), (.int u2), (.int u3)] below meth c Z T5 [(a1, (.inr (.byte, []))), (a2, (.inl ("com/example/meanfix/meanfix/TextFile$Lines", [("com/example/meanfix/meanfix/TextFile$Lines", "bytes", "[B", (.ref a1)), ("com/example/meanfix/meanfix/TextFile$Lines", "next", "I", (.int s5)), ("com/example/meanfix/meanfix/TextFile$Lines", "start", "I", (.int p5)), ("com/example/meanfix/meanfix/TextFile$Lines", "end", "I", (.int q5))])))] 2 4 := X5
    show oG p e below s Z room_1 (fun v _ => v = some (.int 1)) T5 (mkF m 97 #[.val (.int u0), .val (.int u1), .val (.int u2), .val (.int u3), .val (.int (0 : Int32)), .val (.ref a1), .val (.ref a2), .val (.int s4)] [(.int s5)])
    refine gIstore E X5 at_97 (l' := #[.val (.int u0), .val (.int u1), .val (.int u2), .val (.int u3), .val (.int (0 : Int32)), .val (.ref a1), .val (.ref a2), .val (.int s5)]) rfl (q := 99) rfl ?_
    refine gIload E X5 at_99 rfl (q := 101) rfl ?_
    refine gIf_ge E X5 at_101 (by decide) (q := 106) (by decide) (q' := 104) rfl (fun h101 => ?_) (fun h101 => by exfalso; rw [XT.negI32] at h101; omega)
    refine gAload E X5 at_106 rfl rfl (q := 108) rfl ?_
    refine gAload E X5 at_108 rfl rfl (q := 110) rfl ?_
    refine gIload E X5 at_110 rfl (q := 112) rfl ?_
    refine gIload E X5 at_112 rfl (q := 114) rfl ?_
    refine gCallS E X5 (W := 0) (c2 := 2) (s2 := 4) [(.ref a2), (.ref a1), (.int (0 : Int32)), (.int s5)] [] at_114 (hw _ (List.mem_of_getElem? (i := 12) rfl)) (hw _ (List.mem_of_getElem? (i := 13) rfl)) (hw _ (List.mem_of_getElem? (i := 14) rfl)) (hw _ (List.mem_of_getElem? (i := 15) rfl)) (by decide) (cT l Z a0 hw a2 a1 (0 : Int32) s5 [] p5 q5 (i := 1) rfl (k := 0) rfl (by decide) rfl rfl z5 t5 (show 0 ≤ 3 by decide)) pd_4 rfl rfl rfl (by decide) (Nat.le_of_eq rfl) (by decide) (by decide) (by decide) (by decide) (by decide) (q := 117) rfl ?_
    intro T6 v6 V6 R6 X6
    obtain ⟨s6, p6, q6, rfl, rfl, z6, t6⟩ := R6
    replace X6 : oX p l e room_1 s m #[(.int u0), (.int u1), (.int u2), (.int u3)] below meth c Z T6 [(a1, (.inr (.byte, []))), (a2, (.inl ("com/example/meanfix/meanfix/TextFile$Lines", [("com/example/meanfix/meanfix/TextFile$Lines", "bytes", "[B", (.ref a1)), ("com/example/meanfix/meanfix/TextFile$Lines", "next", "I", (.int s6)), ("com/example/meanfix/meanfix/TextFile$Lines", "start", "I", (.int p6)), ("com/example/meanfix/meanfix/TextFile$Lines", "end", "I", (.int q6))])))] 2 4 := X6
    show oG p e below s Z room_1 (fun v _ => v = some (.int 1)) T6 (mkF m 117 #[.val (.int u0), .val (.int u1), .val (.int u2), .val (.int u3), .val (.int (0 : Int32)), .val (.ref a1), .val (.ref a2), .val (.int s5)] [(.int s6)])
    refine gIstore E X6 at_117 (l' := #[.val (.int u0), .val (.int u1), .val (.int u2), .val (.int u3), .val (.int (0 : Int32)), .val (.ref a1), .val (.ref a2), .val (.int s6)]) rfl (q := 119) rfl ?_
    refine gIload E X6 at_119 rfl (q := 121) rfl ?_
    refine gIf_ge E X6 at_121 (by decide) (q := 126) (by decide) (q' := 124) rfl (fun h121 => ?_) (fun h121 => by exfalso; rw [XT.negI32] at h121; omega)
    refine gAload E X6 at_126 rfl rfl (q := 128) rfl ?_
    refine gAload E X6 at_128 rfl rfl (q := 130) rfl ?_
    refine gIload E X6 at_130 rfl (q := 132) rfl ?_
    refine gIload E X6 at_132 rfl (q := 134) rfl ?_
    refine gCallS E X6 (W := 0) (c2 := 2) (s2 := 4) [(.ref a2), (.ref a1), (.int (0 : Int32)), (.int s6)] [] at_134 (hw _ (List.mem_of_getElem? (i := 12) rfl)) (hw _ (List.mem_of_getElem? (i := 13) rfl)) (hw _ (List.mem_of_getElem? (i := 14) rfl)) (hw _ (List.mem_of_getElem? (i := 15) rfl)) (by decide) (cT l Z a0 hw a2 a1 (0 : Int32) s6 [] p6 q6 (i := 1) rfl (k := 0) rfl (by decide) rfl rfl z6 t6 (show 0 ≤ 3 by decide)) pd_4 rfl rfl rfl (by decide) (Nat.le_of_eq rfl) (by decide) (by decide) (by decide) (by decide) (by decide) (q := 137) rfl ?_
    intro T7 v7 V7 R7 X7
    obtain ⟨s7, p7, q7, rfl, rfl, z7, t7⟩ := R7
    replace X7 : oX p l e room_1 s m #[(.int u0), (.int u1), (.int u2), (.int u3)] below meth c Z T7 [(a1, (.inr (.byte, []))), (a2, (.inl ("com/example/meanfix/meanfix/TextFile$Lines", [("com/example/meanfix/meanfix/TextFile$Lines", "bytes", "[B", (.ref a1)), ("com/example/meanfix/meanfix/TextFile$Lines", "next", "I", (.int s7)), ("com/example/meanfix/meanfix/TextFile$Lines", "start", "I", (.int p7)), ("com/example/meanfix/meanfix/TextFile$Lines", "end", "I", (.int q7))])))] 2 4 := X7
    show oG p e below s Z room_1 (fun v _ => v = some (.int 1)) T7 (mkF m 137 #[.val (.int u0), .val (.int u1), .val (.int u2), .val (.int u3), .val (.int (0 : Int32)), .val (.ref a1), .val (.ref a2), .val (.int s6)] [(.int s7)])
    refine gIstore E X7 at_137 (l' := #[.val (.int u0), .val (.int u1), .val (.int u2), .val (.int u3), .val (.int (0 : Int32)), .val (.ref a1), .val (.ref a2), .val (.int s7)]) rfl (q := 139) rfl ?_
    refine gIload E X7 at_139 rfl (q := 141) rfl ?_
    refine gIf_lt E X7 at_141 (by decide) (q := 148) (by decide) (q' := 144) rfl (fun h141 => by exfalso; rw [XT.negI32] at h141; omega) (fun h141 => ?_)
    refine gIconst E X7 at_144 (v := (1 : Int32)) (by decide) (q := 145) rfl ?_
    refine gGoto E X7 at_145 (by decide) (q := 149) (by decide) ?_
    exact gRetN E X7 (by simp) at_149 (by decide) (by decide) (rfl)
  · refine gIload E X at_5 rfl (q := 7) rfl ?_
    refine gNewA E X (c2 := 1) (s2 := 1) (cap := 1) (vs := [(.int (0 : Int32))]) (ty := .byte) rfl at_7 (hw _ (List.mem_of_getElem? (i := 0) rfl)) (by decide) (by decide) (by decide) rfl (by decide) (by decide) (by decide) (by decide) (q := 9) rfl ?_
    intro T8 a8 X8
    refine gAstore E X8 at_9 rfl (l' := #[.val (.int u0), .val (.int u1), .val (.int u2), .val (.int u3), .val (.int (1 : Int32)), .val (.ref a8), .unset, .unset]) rfl (q := 11) rfl ?_
    refine gIload E X8 at_11 rfl (q := 13) rfl ?_
    refine gIf_le E X8 at_13 (by decide) (q := 24) (by decide) (q' := 16) rfl (fun h13 => by exfalso; exact absurd h13 (by decide)) (fun h13 => ?_)
    refine gAload E X8 at_16 rfl rfl (q := 18) rfl ?_
    refine gIconst E X8 at_18 (v := (0 : Int32)) (by decide) (q := 19) rfl ?_
    refine gIloadN E X8 at_19 rfl (q := 20) rfl ?_
    refine gCallS E X8 (W := 2) (c2 := 1) (s2 := 1) [(.int u1)] [(.int (0 : Int32)), (.ref a8)] at_20 (hw _ (List.mem_of_getElem? (i := 23) rfl)) (hw _ (List.mem_of_getElem? (i := 24) rfl)) (hw _ (List.mem_of_getElem? (i := 14) rfl)) (hw _ (List.mem_of_getElem? (i := 25) rfl)) (by decide) (cP l Z a0 hw u1) pd_5 rfl rfl rfl (by decide) (Nat.le_of_eq rfl) (by decide) (by decide) (by decide) (by decide) (by decide) (q := 23) rfl ?_
    intro T9 v9 V9 R9 X9
    obtain ⟨rfl, rfl⟩ := R9
    replace X9 : oX p l e room_1 s m #[(.int u0), (.int u1), (.int u2), (.int u3)] below meth c Z T9 [(a8, (.inr (.byte, [(.int (0 : Int32))])))] 1 1 := X9
    show oG p e below s Z room_1 (fun v _ => v = some (.int 1)) T9 (mkF m 23 #[.val (.int u0), .val (.int u1), .val (.int u2), .val (.int u3), .val (.int (1 : Int32)), .val (.ref a8), .unset, .unset] [(.int (own_pick u1)), (.int (0 : Int32)), (.ref a8)])
    refine gBastore E X9 (i := 0) (jn := 0) (x' := (own_pick u1)) (V' := [(a8, (.inr (.byte, [(.int (own_pick u1))])))]) at_23 rfl (by decide) rfl (by show 0 < 1; decide) (own_pb _) rfl (q := 24) rfl ?_
    intro T10 X10
    refine gIload E X10 at_24 rfl (q := 26) rfl ?_
    refine gIconst E X10 at_26 (v := (1 : Int32)) (by decide) (q := 27) rfl ?_
    refine gIc_le E X10 at_27 (by decide) (q := 38) (by decide) (q' := 30) rfl (fun h27 => ?_) (fun h27 => by exfalso; exact absurd h27 (by decide))
    refine gIload E X10 at_38 rfl (q := 40) rfl ?_
    refine gIconst E X10 at_40 (v := (2 : Int32)) (by decide) (q := 41) rfl ?_
    refine gIc_le E X10 at_41 (by decide) (q := 52) (by decide) (q' := 44) rfl (fun h41 => ?_) (fun h41 => by exfalso; exact absurd h41 (by decide))
    refine gNew E X10 (c2 := 2) (s2 := 5) at_52 (hw _ (List.mem_of_getElem? (i := 1) rfl)) (hw _ (List.mem_of_getElem? (i := 2) rfl)) (hw _ (List.mem_of_getElem? (i := 3) rfl)) (lay_TextFile_Lines Z a0 hw) (by decide) (by decide) (by decide) (by decide) (q := 55) rfl ?_
    intro T11 a11 X11
    refine gDup E X11 at_55 rfl (q := 56) rfl ?_
    refine gAload E X11 at_56 rfl rfl (q := 58) rfl ?_
    refine gCallI E X11 (W := 1) (c2 := 2) (s2 := 5) (a := a11) [(.ref a8)] [(.ref a11)] at_58 rfl (hw _ (List.mem_of_getElem? (i := 4) rfl)) (hw _ (List.mem_of_getElem? (i := 5) rfl)) (hw _ (List.mem_of_getElem? (i := 3) rfl)) (hw _ (List.mem_of_getElem? (i := 6) rfl)) (by decide) (cI l Z a0 hw a11 a8 (i := 1) rfl) pd_3 rfl rfl rfl (by decide) (Nat.le_of_eq rfl) (by decide) (by decide) (by decide) (by decide) (by decide) (q := 61) rfl ?_
    intro T12 v12 V12 R12 X12
    obtain ⟨rfl, rfl⟩ := R12
    replace X12 : oX p l e room_1 s m #[(.int u0), (.int u1), (.int u2), (.int u3)] below meth c Z T12 [(a8, (.inr (.byte, [(.int (own_pick u1))]))), (a11, (.inl ("com/example/meanfix/meanfix/TextFile$Lines", [("com/example/meanfix/meanfix/TextFile$Lines", "bytes", "[B", (.ref a8)), ("com/example/meanfix/meanfix/TextFile$Lines", "next", "I", (.int (0 : Int32))), ("com/example/meanfix/meanfix/TextFile$Lines", "start", "I", (.int (0 : Int32))), ("com/example/meanfix/meanfix/TextFile$Lines", "end", "I", (.int (0 : Int32)))])))] 2 5 := X12
    show oG p e below s Z room_1 (fun v _ => v = some (.int 1)) T12 (mkF m 61 #[.val (.int u0), .val (.int u1), .val (.int u2), .val (.int u3), .val (.int (1 : Int32)), .val (.ref a8), .unset, .unset] [(.ref a11)])
    refine gAstore E X12 at_61 rfl (l' := #[.val (.int u0), .val (.int u1), .val (.int u2), .val (.int u3), .val (.int (1 : Int32)), .val (.ref a8), .val (.ref a11), .unset]) rfl (q := 63) rfl ?_
    refine gIconst E X12 at_63 (v := (0 : Int32)) (by decide) (q := 64) rfl ?_
    refine gIstore E X12 at_64 (l' := #[.val (.int u0), .val (.int u1), .val (.int u2), .val (.int u3), .val (.int (1 : Int32)), .val (.ref a8), .val (.ref a11), .val (.int (0 : Int32))]) rfl (q := 66) rfl ?_
    refine gAload E X12 at_66 rfl rfl (q := 68) rfl ?_
    refine gAload E X12 at_68 rfl rfl (q := 70) rfl ?_
    refine gIload E X12 at_70 rfl (q := 72) rfl ?_
    refine gIload E X12 at_72 rfl (q := 74) rfl ?_
    refine gCallS E X12 (W := 0) (c2 := 2) (s2 := 5) [(.ref a11), (.ref a8), (.int (1 : Int32)), (.int (0 : Int32))] [] at_74 (hw _ (List.mem_of_getElem? (i := 12) rfl)) (hw _ (List.mem_of_getElem? (i := 13) rfl)) (hw _ (List.mem_of_getElem? (i := 14) rfl)) (hw _ (List.mem_of_getElem? (i := 15) rfl)) (by decide) (cT l Z a0 hw a11 a8 (1 : Int32) (0 : Int32) [(own_pick u1)] (0 : Int32) (0 : Int32) (i := 1) rfl (k := 0) rfl (by decide) rfl rfl (by decide) (show (0 : Int32).toInt ≤ ((1 : Nat) : Int) + 1 by decide) (show 1 ≤ 3 by decide)) pd_4 rfl rfl rfl (by decide) (Nat.le_of_eq rfl) (by decide) (by decide) (by decide) (by decide) (by decide) (q := 77) rfl ?_
    intro T13 v13 V13 R13 X13
    obtain ⟨s13, p13, q13, rfl, rfl, z13, t13⟩ := R13
    replace X13 : oX p l e room_1 s m #[(.int u0), (.int u1), (.int u2), (.int u3)] below meth c Z T13 [(a8, (.inr (.byte, [(.int (own_pick u1))]))), (a11, (.inl ("com/example/meanfix/meanfix/TextFile$Lines", [("com/example/meanfix/meanfix/TextFile$Lines", "bytes", "[B", (.ref a8)), ("com/example/meanfix/meanfix/TextFile$Lines", "next", "I", (.int s13)), ("com/example/meanfix/meanfix/TextFile$Lines", "start", "I", (.int p13)), ("com/example/meanfix/meanfix/TextFile$Lines", "end", "I", (.int q13))])))] 2 5 := X13
    show oG p e below s Z room_1 (fun v _ => v = some (.int 1)) T13 (mkF m 77 #[.val (.int u0), .val (.int u1), .val (.int u2), .val (.int u3), .val (.int (1 : Int32)), .val (.ref a8), .val (.ref a11), .val (.int (0 : Int32))] [(.int s13)])
    refine gIstore E X13 at_77 (l' := #[.val (.int u0), .val (.int u1), .val (.int u2), .val (.int u3), .val (.int (1 : Int32)), .val (.ref a8), .val (.ref a11), .val (.int s13)]) rfl (q := 79) rfl ?_
    refine gIload E X13 at_79 rfl (q := 81) rfl ?_
    refine gIf_ge E X13 at_81 (by decide) (q := 86) (by decide) (q' := 84) rfl (fun h81 => ?_) (fun h81 => by exfalso; rw [XT.negI32] at h81; omega)
    refine gAload E X13 at_86 rfl rfl (q := 88) rfl ?_
    refine gAload E X13 at_88 rfl rfl (q := 90) rfl ?_
    refine gIload E X13 at_90 rfl (q := 92) rfl ?_
    refine gIload E X13 at_92 rfl (q := 94) rfl ?_
    refine gCallS E X13 (W := 0) (c2 := 2) (s2 := 5) [(.ref a11), (.ref a8), (.int (1 : Int32)), (.int s13)] [] at_94 (hw _ (List.mem_of_getElem? (i := 12) rfl)) (hw _ (List.mem_of_getElem? (i := 13) rfl)) (hw _ (List.mem_of_getElem? (i := 14) rfl)) (hw _ (List.mem_of_getElem? (i := 15) rfl)) (by decide) (cT l Z a0 hw a11 a8 (1 : Int32) s13 [(own_pick u1)] p13 q13 (i := 1) rfl (k := 0) rfl (by decide) rfl rfl z13 t13 (show 1 ≤ 3 by decide)) pd_4 rfl rfl rfl (by decide) (Nat.le_of_eq rfl) (by decide) (by decide) (by decide) (by decide) (by decide) (q := 97) rfl ?_
    intro T14 v14 V14 R14 X14
    obtain ⟨s14, p14, q14, rfl, rfl, z14, t14⟩ := R14
    replace X14 : oX p l e room_1 s m #[(.int u0), (.int u1), (.int u2), (.int u3)] below meth c Z T14 [(a8, (.inr (.byte, [(.int (own_pick u1))]))), (a11, (.inl ("com/example/meanfix/meanfix/TextFile$Lines", [("com/example/meanfix/meanfix/TextFile$Lines", "bytes", "[B", (.ref a8)), ("com/example/meanfix/meanfix/TextFile$Lines", "next", "I", (.int s14)), ("com/example/meanfix/meanfix/TextFile$Lines", "start", "I", (.int p14)), ("com/example/meanfix/meanfix/TextFile$Lines", "end", "I", (.int q14))])))] 2 5 := X14
    show oG p e below s Z room_1 (fun v _ => v = some (.int 1)) T14 (mkF m 97 #[.val (.int u0), .val (.int u1), .val (.int u2), .val (.int u3), .val (.int (1 : Int32)), .val (.ref a8), .val (.ref a11), .val (.int s13)] [(.int s14)])
    refine gIstore E X14 at_97 (l' := #[.val (.int u0), .val (.int u1), .val (.int u2), .val (.int u3), .val (.int (1 : Int32)), .val (.ref a8), .val (.ref a11), .val (.int s14)]) rfl (q := 99) rfl ?_
    refine gIload E X14 at_99 rfl (q := 101) rfl ?_
    refine gIf_ge E X14 at_101 (by decide) (q := 106) (by decide) (q' := 104) rfl (fun h101 => ?_) (fun h101 => by exfalso; rw [XT.negI32] at h101; omega)
    refine gAload E X14 at_106 rfl rfl (q := 108) rfl ?_
    refine gAload E X14 at_108 rfl rfl (q := 110) rfl ?_
    refine gIload E X14 at_110 rfl (q := 112) rfl ?_
    refine gIload E X14 at_112 rfl (q := 114) rfl ?_
    refine gCallS E X14 (W := 0) (c2 := 2) (s2 := 5) [(.ref a11), (.ref a8), (.int (1 : Int32)), (.int s14)] [] at_114 (hw _ (List.mem_of_getElem? (i := 12) rfl)) (hw _ (List.mem_of_getElem? (i := 13) rfl)) (hw _ (List.mem_of_getElem? (i := 14) rfl)) (hw _ (List.mem_of_getElem? (i := 15) rfl)) (by decide) (cT l Z a0 hw a11 a8 (1 : Int32) s14 [(own_pick u1)] p14 q14 (i := 1) rfl (k := 0) rfl (by decide) rfl rfl z14 t14 (show 1 ≤ 3 by decide)) pd_4 rfl rfl rfl (by decide) (Nat.le_of_eq rfl) (by decide) (by decide) (by decide) (by decide) (by decide) (q := 117) rfl ?_
    intro T15 v15 V15 R15 X15
    obtain ⟨s15, p15, q15, rfl, rfl, z15, t15⟩ := R15
    replace X15 : oX p l e room_1 s m #[(.int u0), (.int u1), (.int u2), (.int u3)] below meth c Z T15 [(a8, (.inr (.byte, [(.int (own_pick u1))]))), (a11, (.inl ("com/example/meanfix/meanfix/TextFile$Lines", [("com/example/meanfix/meanfix/TextFile$Lines", "bytes", "[B", (.ref a8)), ("com/example/meanfix/meanfix/TextFile$Lines", "next", "I", (.int s15)), ("com/example/meanfix/meanfix/TextFile$Lines", "start", "I", (.int p15)), ("com/example/meanfix/meanfix/TextFile$Lines", "end", "I", (.int q15))])))] 2 5 := X15
    show oG p e below s Z room_1 (fun v _ => v = some (.int 1)) T15 (mkF m 117 #[.val (.int u0), .val (.int u1), .val (.int u2), .val (.int u3), .val (.int (1 : Int32)), .val (.ref a8), .val (.ref a11), .val (.int s14)] [(.int s15)])
    refine gIstore E X15 at_117 (l' := #[.val (.int u0), .val (.int u1), .val (.int u2), .val (.int u3), .val (.int (1 : Int32)), .val (.ref a8), .val (.ref a11), .val (.int s15)]) rfl (q := 119) rfl ?_
    refine gIload E X15 at_119 rfl (q := 121) rfl ?_
    refine gIf_ge E X15 at_121 (by decide) (q := 126) (by decide) (q' := 124) rfl (fun h121 => ?_) (fun h121 => by exfalso; rw [XT.negI32] at h121; omega)
    refine gAload E X15 at_126 rfl rfl (q := 128) rfl ?_
    refine gAload E X15 at_128 rfl rfl (q := 130) rfl ?_
    refine gIload E X15 at_130 rfl (q := 132) rfl ?_
    refine gIload E X15 at_132 rfl (q := 134) rfl ?_
    refine gCallS E X15 (W := 0) (c2 := 2) (s2 := 5) [(.ref a11), (.ref a8), (.int (1 : Int32)), (.int s15)] [] at_134 (hw _ (List.mem_of_getElem? (i := 12) rfl)) (hw _ (List.mem_of_getElem? (i := 13) rfl)) (hw _ (List.mem_of_getElem? (i := 14) rfl)) (hw _ (List.mem_of_getElem? (i := 15) rfl)) (by decide) (cT l Z a0 hw a11 a8 (1 : Int32) s15 [(own_pick u1)] p15 q15 (i := 1) rfl (k := 0) rfl (by decide) rfl rfl z15 t15 (show 1 ≤ 3 by decide)) pd_4 rfl rfl rfl (by decide) (Nat.le_of_eq rfl) (by decide) (by decide) (by decide) (by decide) (by decide) (q := 137) rfl ?_
    intro T16 v16 V16 R16 X16
    obtain ⟨s16, p16, q16, rfl, rfl, z16, t16⟩ := R16
    replace X16 : oX p l e room_1 s m #[(.int u0), (.int u1), (.int u2), (.int u3)] below meth c Z T16 [(a8, (.inr (.byte, [(.int (own_pick u1))]))), (a11, (.inl ("com/example/meanfix/meanfix/TextFile$Lines", [("com/example/meanfix/meanfix/TextFile$Lines", "bytes", "[B", (.ref a8)), ("com/example/meanfix/meanfix/TextFile$Lines", "next", "I", (.int s16)), ("com/example/meanfix/meanfix/TextFile$Lines", "start", "I", (.int p16)), ("com/example/meanfix/meanfix/TextFile$Lines", "end", "I", (.int q16))])))] 2 5 := X16
    show oG p e below s Z room_1 (fun v _ => v = some (.int 1)) T16 (mkF m 137 #[.val (.int u0), .val (.int u1), .val (.int u2), .val (.int u3), .val (.int (1 : Int32)), .val (.ref a8), .val (.ref a11), .val (.int s15)] [(.int s16)])
    refine gIstore E X16 at_137 (l' := #[.val (.int u0), .val (.int u1), .val (.int u2), .val (.int u3), .val (.int (1 : Int32)), .val (.ref a8), .val (.ref a11), .val (.int s16)]) rfl (q := 139) rfl ?_
    refine gIload E X16 at_139 rfl (q := 141) rfl ?_
    refine gIf_lt E X16 at_141 (by decide) (q := 148) (by decide) (q' := 144) rfl (fun h141 => by exfalso; rw [XT.negI32] at h141; omega) (fun h141 => ?_)
    refine gIconst E X16 at_144 (v := (1 : Int32)) (by decide) (q := 145) rfl ?_
    refine gGoto E X16 at_145 (by decide) (q := 149) (by decide) ?_
    exact gRetN E X16 (by simp) at_149 (by decide) (by decide) (rfl)
  · refine gIload E X at_5 rfl (q := 7) rfl ?_
    refine gNewA E X (c2 := 1) (s2 := 2) (cap := 2) (vs := [(.int (0 : Int32)), (.int (0 : Int32))]) (ty := .byte) rfl at_7 (hw _ (List.mem_of_getElem? (i := 0) rfl)) (by decide) (by decide) (by decide) rfl (by decide) (by decide) (by decide) (by decide) (q := 9) rfl ?_
    intro T17 a17 X17
    refine gAstore E X17 at_9 rfl (l' := #[.val (.int u0), .val (.int u1), .val (.int u2), .val (.int u3), .val (.int (2 : Int32)), .val (.ref a17), .unset, .unset]) rfl (q := 11) rfl ?_
    refine gIload E X17 at_11 rfl (q := 13) rfl ?_
    refine gIf_le E X17 at_13 (by decide) (q := 24) (by decide) (q' := 16) rfl (fun h13 => by exfalso; exact absurd h13 (by decide)) (fun h13 => ?_)
    refine gAload E X17 at_16 rfl rfl (q := 18) rfl ?_
    refine gIconst E X17 at_18 (v := (0 : Int32)) (by decide) (q := 19) rfl ?_
    refine gIloadN E X17 at_19 rfl (q := 20) rfl ?_
    refine gCallS E X17 (W := 2) (c2 := 1) (s2 := 2) [(.int u1)] [(.int (0 : Int32)), (.ref a17)] at_20 (hw _ (List.mem_of_getElem? (i := 23) rfl)) (hw _ (List.mem_of_getElem? (i := 24) rfl)) (hw _ (List.mem_of_getElem? (i := 14) rfl)) (hw _ (List.mem_of_getElem? (i := 25) rfl)) (by decide) (cP l Z a0 hw u1) pd_5 rfl rfl rfl (by decide) (Nat.le_of_eq rfl) (by decide) (by decide) (by decide) (by decide) (by decide) (q := 23) rfl ?_
    intro T18 v18 V18 R18 X18
    obtain ⟨rfl, rfl⟩ := R18
    replace X18 : oX p l e room_1 s m #[(.int u0), (.int u1), (.int u2), (.int u3)] below meth c Z T18 [(a17, (.inr (.byte, [(.int (0 : Int32)), (.int (0 : Int32))])))] 1 2 := X18
    show oG p e below s Z room_1 (fun v _ => v = some (.int 1)) T18 (mkF m 23 #[.val (.int u0), .val (.int u1), .val (.int u2), .val (.int u3), .val (.int (2 : Int32)), .val (.ref a17), .unset, .unset] [(.int (own_pick u1)), (.int (0 : Int32)), (.ref a17)])
    refine gBastore E X18 (i := 0) (jn := 0) (x' := (own_pick u1)) (V' := [(a17, (.inr (.byte, [(.int (own_pick u1)), (.int (0 : Int32))])))]) at_23 rfl (by decide) rfl (by show 0 < 2; decide) (own_pb _) rfl (q := 24) rfl ?_
    intro T19 X19
    refine gIload E X19 at_24 rfl (q := 26) rfl ?_
    refine gIconst E X19 at_26 (v := (1 : Int32)) (by decide) (q := 27) rfl ?_
    refine gIc_le E X19 at_27 (by decide) (q := 38) (by decide) (q' := 30) rfl (fun h27 => by exfalso; exact absurd h27 (by decide)) (fun h27 => ?_)
    refine gAload E X19 at_30 rfl rfl (q := 32) rfl ?_
    refine gIconst E X19 at_32 (v := (1 : Int32)) (by decide) (q := 33) rfl ?_
    refine gIloadN E X19 at_33 rfl (q := 34) rfl ?_
    refine gCallS E X19 (W := 2) (c2 := 1) (s2 := 2) [(.int u2)] [(.int (1 : Int32)), (.ref a17)] at_34 (hw _ (List.mem_of_getElem? (i := 23) rfl)) (hw _ (List.mem_of_getElem? (i := 24) rfl)) (hw _ (List.mem_of_getElem? (i := 14) rfl)) (hw _ (List.mem_of_getElem? (i := 25) rfl)) (by decide) (cP l Z a0 hw u2) pd_5 rfl rfl rfl (by decide) (Nat.le_of_eq rfl) (by decide) (by decide) (by decide) (by decide) (by decide) (q := 37) rfl ?_
    intro T20 v20 V20 R20 X20
    obtain ⟨rfl, rfl⟩ := R20
    replace X20 : oX p l e room_1 s m #[(.int u0), (.int u1), (.int u2), (.int u3)] below meth c Z T20 [(a17, (.inr (.byte, [(.int (own_pick u1)), (.int (0 : Int32))])))] 1 2 := X20
    show oG p e below s Z room_1 (fun v _ => v = some (.int 1)) T20 (mkF m 37 #[.val (.int u0), .val (.int u1), .val (.int u2), .val (.int u3), .val (.int (2 : Int32)), .val (.ref a17), .unset, .unset] [(.int (own_pick u2)), (.int (1 : Int32)), (.ref a17)])
    refine gBastore E X20 (i := 0) (jn := 1) (x' := (own_pick u2)) (V' := [(a17, (.inr (.byte, [(.int (own_pick u1)), (.int (own_pick u2))])))]) at_37 rfl (by decide) rfl (by show 1 < 2; decide) (own_pb _) rfl (q := 38) rfl ?_
    intro T21 X21
    refine gIload E X21 at_38 rfl (q := 40) rfl ?_
    refine gIconst E X21 at_40 (v := (2 : Int32)) (by decide) (q := 41) rfl ?_
    refine gIc_le E X21 at_41 (by decide) (q := 52) (by decide) (q' := 44) rfl (fun h41 => ?_) (fun h41 => by exfalso; exact absurd h41 (by decide))
    refine gNew E X21 (c2 := 2) (s2 := 6) at_52 (hw _ (List.mem_of_getElem? (i := 1) rfl)) (hw _ (List.mem_of_getElem? (i := 2) rfl)) (hw _ (List.mem_of_getElem? (i := 3) rfl)) (lay_TextFile_Lines Z a0 hw) (by decide) (by decide) (by decide) (by decide) (q := 55) rfl ?_
    intro T22 a22 X22
    refine gDup E X22 at_55 rfl (q := 56) rfl ?_
    refine gAload E X22 at_56 rfl rfl (q := 58) rfl ?_
    refine gCallI E X22 (W := 1) (c2 := 2) (s2 := 6) (a := a22) [(.ref a17)] [(.ref a22)] at_58 rfl (hw _ (List.mem_of_getElem? (i := 4) rfl)) (hw _ (List.mem_of_getElem? (i := 5) rfl)) (hw _ (List.mem_of_getElem? (i := 3) rfl)) (hw _ (List.mem_of_getElem? (i := 6) rfl)) (by decide) (cI l Z a0 hw a22 a17 (i := 1) rfl) pd_3 rfl rfl rfl (by decide) (Nat.le_of_eq rfl) (by decide) (by decide) (by decide) (by decide) (by decide) (q := 61) rfl ?_
    intro T23 v23 V23 R23 X23
    obtain ⟨rfl, rfl⟩ := R23
    replace X23 : oX p l e room_1 s m #[(.int u0), (.int u1), (.int u2), (.int u3)] below meth c Z T23 [(a17, (.inr (.byte, [(.int (own_pick u1)), (.int (own_pick u2))]))), (a22, (.inl ("com/example/meanfix/meanfix/TextFile$Lines", [("com/example/meanfix/meanfix/TextFile$Lines", "bytes", "[B", (.ref a17)), ("com/example/meanfix/meanfix/TextFile$Lines", "next", "I", (.int (0 : Int32))), ("com/example/meanfix/meanfix/TextFile$Lines", "start", "I", (.int (0 : Int32))), ("com/example/meanfix/meanfix/TextFile$Lines", "end", "I", (.int (0 : Int32)))])))] 2 6 := X23
    show oG p e below s Z room_1 (fun v _ => v = some (.int 1)) T23 (mkF m 61 #[.val (.int u0), .val (.int u1), .val (.int u2), .val (.int u3), .val (.int (2 : Int32)), .val (.ref a17), .unset, .unset] [(.ref a22)])
    refine gAstore E X23 at_61 rfl (l' := #[.val (.int u0), .val (.int u1), .val (.int u2), .val (.int u3), .val (.int (2 : Int32)), .val (.ref a17), .val (.ref a22), .unset]) rfl (q := 63) rfl ?_
    refine gIconst E X23 at_63 (v := (0 : Int32)) (by decide) (q := 64) rfl ?_
    refine gIstore E X23 at_64 (l' := #[.val (.int u0), .val (.int u1), .val (.int u2), .val (.int u3), .val (.int (2 : Int32)), .val (.ref a17), .val (.ref a22), .val (.int (0 : Int32))]) rfl (q := 66) rfl ?_
    refine gAload E X23 at_66 rfl rfl (q := 68) rfl ?_
    refine gAload E X23 at_68 rfl rfl (q := 70) rfl ?_
    refine gIload E X23 at_70 rfl (q := 72) rfl ?_
    refine gIload E X23 at_72 rfl (q := 74) rfl ?_
    refine gCallS E X23 (W := 0) (c2 := 2) (s2 := 6) [(.ref a22), (.ref a17), (.int (2 : Int32)), (.int (0 : Int32))] [] at_74 (hw _ (List.mem_of_getElem? (i := 12) rfl)) (hw _ (List.mem_of_getElem? (i := 13) rfl)) (hw _ (List.mem_of_getElem? (i := 14) rfl)) (hw _ (List.mem_of_getElem? (i := 15) rfl)) (by decide) (cT l Z a0 hw a22 a17 (2 : Int32) (0 : Int32) [(own_pick u1), (own_pick u2)] (0 : Int32) (0 : Int32) (i := 1) rfl (k := 0) rfl (by decide) rfl rfl (by decide) (show (0 : Int32).toInt ≤ ((2 : Nat) : Int) + 1 by decide) (show 2 ≤ 3 by decide)) pd_4 rfl rfl rfl (by decide) (Nat.le_of_eq rfl) (by decide) (by decide) (by decide) (by decide) (by decide) (q := 77) rfl ?_
    intro T24 v24 V24 R24 X24
    obtain ⟨s24, p24, q24, rfl, rfl, z24, t24⟩ := R24
    replace X24 : oX p l e room_1 s m #[(.int u0), (.int u1), (.int u2), (.int u3)] below meth c Z T24 [(a17, (.inr (.byte, [(.int (own_pick u1)), (.int (own_pick u2))]))), (a22, (.inl ("com/example/meanfix/meanfix/TextFile$Lines", [("com/example/meanfix/meanfix/TextFile$Lines", "bytes", "[B", (.ref a17)), ("com/example/meanfix/meanfix/TextFile$Lines", "next", "I", (.int s24)), ("com/example/meanfix/meanfix/TextFile$Lines", "start", "I", (.int p24)), ("com/example/meanfix/meanfix/TextFile$Lines", "end", "I", (.int q24))])))] 2 6 := X24
    show oG p e below s Z room_1 (fun v _ => v = some (.int 1)) T24 (mkF m 77 #[.val (.int u0), .val (.int u1), .val (.int u2), .val (.int u3), .val (.int (2 : Int32)), .val (.ref a17), .val (.ref a22), .val (.int (0 : Int32))] [(.int s24)])
    refine gIstore E X24 at_77 (l' := #[.val (.int u0), .val (.int u1), .val (.int u2), .val (.int u3), .val (.int (2 : Int32)), .val (.ref a17), .val (.ref a22), .val (.int s24)]) rfl (q := 79) rfl ?_
    refine gIload E X24 at_79 rfl (q := 81) rfl ?_
    refine gIf_ge E X24 at_81 (by decide) (q := 86) (by decide) (q' := 84) rfl (fun h81 => ?_) (fun h81 => by exfalso; rw [XT.negI32] at h81; omega)
    refine gAload E X24 at_86 rfl rfl (q := 88) rfl ?_
    refine gAload E X24 at_88 rfl rfl (q := 90) rfl ?_
    refine gIload E X24 at_90 rfl (q := 92) rfl ?_
    refine gIload E X24 at_92 rfl (q := 94) rfl ?_
    refine gCallS E X24 (W := 0) (c2 := 2) (s2 := 6) [(.ref a22), (.ref a17), (.int (2 : Int32)), (.int s24)] [] at_94 (hw _ (List.mem_of_getElem? (i := 12) rfl)) (hw _ (List.mem_of_getElem? (i := 13) rfl)) (hw _ (List.mem_of_getElem? (i := 14) rfl)) (hw _ (List.mem_of_getElem? (i := 15) rfl)) (by decide) (cT l Z a0 hw a22 a17 (2 : Int32) s24 [(own_pick u1), (own_pick u2)] p24 q24 (i := 1) rfl (k := 0) rfl (by decide) rfl rfl z24 t24 (show 2 ≤ 3 by decide)) pd_4 rfl rfl rfl (by decide) (Nat.le_of_eq rfl) (by decide) (by decide) (by decide) (by decide) (by decide) (q := 97) rfl ?_
    intro T25 v25 V25 R25 X25
    obtain ⟨s25, p25, q25, rfl, rfl, z25, t25⟩ := R25
    replace X25 : oX p l e room_1 s m #[(.int u0), (.int u1), (.int u2), (.int u3)] below meth c Z T25 [(a17, (.inr (.byte, [(.int (own_pick u1)), (.int (own_pick u2))]))), (a22, (.inl ("com/example/meanfix/meanfix/TextFile$Lines", [("com/example/meanfix/meanfix/TextFile$Lines", "bytes", "[B", (.ref a17)), ("com/example/meanfix/meanfix/TextFile$Lines", "next", "I", (.int s25)), ("com/example/meanfix/meanfix/TextFile$Lines", "start", "I", (.int p25)), ("com/example/meanfix/meanfix/TextFile$Lines", "end", "I", (.int q25))])))] 2 6 := X25
    show oG p e below s Z room_1 (fun v _ => v = some (.int 1)) T25 (mkF m 97 #[.val (.int u0), .val (.int u1), .val (.int u2), .val (.int u3), .val (.int (2 : Int32)), .val (.ref a17), .val (.ref a22), .val (.int s24)] [(.int s25)])
    refine gIstore E X25 at_97 (l' := #[.val (.int u0), .val (.int u1), .val (.int u2), .val (.int u3), .val (.int (2 : Int32)), .val (.ref a17), .val (.ref a22), .val (.int s25)]) rfl (q := 99) rfl ?_
    refine gIload E X25 at_99 rfl (q := 101) rfl ?_
    refine gIf_ge E X25 at_101 (by decide) (q := 106) (by decide) (q' := 104) rfl (fun h101 => ?_) (fun h101 => by exfalso; rw [XT.negI32] at h101; omega)
    refine gAload E X25 at_106 rfl rfl (q := 108) rfl ?_
    refine gAload E X25 at_108 rfl rfl (q := 110) rfl ?_
    refine gIload E X25 at_110 rfl (q := 112) rfl ?_
    refine gIload E X25 at_112 rfl (q := 114) rfl ?_
    refine gCallS E X25 (W := 0) (c2 := 2) (s2 := 6) [(.ref a22), (.ref a17), (.int (2 : Int32)), (.int s25)] [] at_114 (hw _ (List.mem_of_getElem? (i := 12) rfl)) (hw _ (List.mem_of_getElem? (i := 13) rfl)) (hw _ (List.mem_of_getElem? (i := 14) rfl)) (hw _ (List.mem_of_getElem? (i := 15) rfl)) (by decide) (cT l Z a0 hw a22 a17 (2 : Int32) s25 [(own_pick u1), (own_pick u2)] p25 q25 (i := 1) rfl (k := 0) rfl (by decide) rfl rfl z25 t25 (show 2 ≤ 3 by decide)) pd_4 rfl rfl rfl (by decide) (Nat.le_of_eq rfl) (by decide) (by decide) (by decide) (by decide) (by decide) (q := 117) rfl ?_
    intro T26 v26 V26 R26 X26
    obtain ⟨s26, p26, q26, rfl, rfl, z26, t26⟩ := R26
    replace X26 : oX p l e room_1 s m #[(.int u0), (.int u1), (.int u2), (.int u3)] below meth c Z T26 [(a17, (.inr (.byte, [(.int (own_pick u1)), (.int (own_pick u2))]))), (a22, (.inl ("com/example/meanfix/meanfix/TextFile$Lines", [("com/example/meanfix/meanfix/TextFile$Lines", "bytes", "[B", (.ref a17)), ("com/example/meanfix/meanfix/TextFile$Lines", "next", "I", (.int s26)), ("com/example/meanfix/meanfix/TextFile$Lines", "start", "I", (.int p26)), ("com/example/meanfix/meanfix/TextFile$Lines", "end", "I", (.int q26))])))] 2 6 := X26
    show oG p e below s Z room_1 (fun v _ => v = some (.int 1)) T26 (mkF m 117 #[.val (.int u0), .val (.int u1), .val (.int u2), .val (.int u3), .val (.int (2 : Int32)), .val (.ref a17), .val (.ref a22), .val (.int s25)] [(.int s26)])
    refine gIstore E X26 at_117 (l' := #[.val (.int u0), .val (.int u1), .val (.int u2), .val (.int u3), .val (.int (2 : Int32)), .val (.ref a17), .val (.ref a22), .val (.int s26)]) rfl (q := 119) rfl ?_
    refine gIload E X26 at_119 rfl (q := 121) rfl ?_
    refine gIf_ge E X26 at_121 (by decide) (q := 126) (by decide) (q' := 124) rfl (fun h121 => ?_) (fun h121 => by exfalso; rw [XT.negI32] at h121; omega)
    refine gAload E X26 at_126 rfl rfl (q := 128) rfl ?_
    refine gAload E X26 at_128 rfl rfl (q := 130) rfl ?_
    refine gIload E X26 at_130 rfl (q := 132) rfl ?_
    refine gIload E X26 at_132 rfl (q := 134) rfl ?_
    refine gCallS E X26 (W := 0) (c2 := 2) (s2 := 6) [(.ref a22), (.ref a17), (.int (2 : Int32)), (.int s26)] [] at_134 (hw _ (List.mem_of_getElem? (i := 12) rfl)) (hw _ (List.mem_of_getElem? (i := 13) rfl)) (hw _ (List.mem_of_getElem? (i := 14) rfl)) (hw _ (List.mem_of_getElem? (i := 15) rfl)) (by decide) (cT l Z a0 hw a22 a17 (2 : Int32) s26 [(own_pick u1), (own_pick u2)] p26 q26 (i := 1) rfl (k := 0) rfl (by decide) rfl rfl z26 t26 (show 2 ≤ 3 by decide)) pd_4 rfl rfl rfl (by decide) (Nat.le_of_eq rfl) (by decide) (by decide) (by decide) (by decide) (by decide) (q := 137) rfl ?_
    intro T27 v27 V27 R27 X27
    obtain ⟨s27, p27, q27, rfl, rfl, z27, t27⟩ := R27
    replace X27 : oX p l e room_1 s m #[(.int u0), (.int u1), (.int u2), (.int u3)] below meth c Z T27 [(a17, (.inr (.byte, [(.int (own_pick u1)), (.int (own_pick u2))]))), (a22, (.inl ("com/example/meanfix/meanfix/TextFile$Lines", [("com/example/meanfix/meanfix/TextFile$Lines", "bytes", "[B", (.ref a17)), ("com/example/meanfix/meanfix/TextFile$Lines", "next", "I", (.int s27)), ("com/example/meanfix/meanfix/TextFile$Lines", "start", "I", (.int p27)), ("com/example/meanfix/meanfix/TextFile$Lines", "end", "I", (.int q27))])))] 2 6 := X27
    show oG p e below s Z room_1 (fun v _ => v = some (.int 1)) T27 (mkF m 137 #[.val (.int u0), .val (.int u1), .val (.int u2), .val (.int u3), .val (.int (2 : Int32)), .val (.ref a17), .val (.ref a22), .val (.int s26)] [(.int s27)])
    refine gIstore E X27 at_137 (l' := #[.val (.int u0), .val (.int u1), .val (.int u2), .val (.int u3), .val (.int (2 : Int32)), .val (.ref a17), .val (.ref a22), .val (.int s27)]) rfl (q := 139) rfl ?_
    refine gIload E X27 at_139 rfl (q := 141) rfl ?_
    refine gIf_lt E X27 at_141 (by decide) (q := 148) (by decide) (q' := 144) rfl (fun h141 => by exfalso; rw [XT.negI32] at h141; omega) (fun h141 => ?_)
    refine gIconst E X27 at_144 (v := (1 : Int32)) (by decide) (q := 145) rfl ?_
    refine gGoto E X27 at_145 (by decide) (q := 149) (by decide) ?_
    exact gRetN E X27 (by simp) at_149 (by decide) (by decide) (rfl)
  · refine gIload E X at_5 rfl (q := 7) rfl ?_
    refine gNewA E X (c2 := 1) (s2 := 3) (cap := 3) (vs := [(.int (0 : Int32)), (.int (0 : Int32)), (.int (0 : Int32))]) (ty := .byte) rfl at_7 (hw _ (List.mem_of_getElem? (i := 0) rfl)) (by decide) (by decide) (by decide) rfl (by decide) (by decide) (by decide) (by decide) (q := 9) rfl ?_
    intro T28 a28 X28
    refine gAstore E X28 at_9 rfl (l' := #[.val (.int u0), .val (.int u1), .val (.int u2), .val (.int u3), .val (.int (3 : Int32)), .val (.ref a28), .unset, .unset]) rfl (q := 11) rfl ?_
    refine gIload E X28 at_11 rfl (q := 13) rfl ?_
    refine gIf_le E X28 at_13 (by decide) (q := 24) (by decide) (q' := 16) rfl (fun h13 => by exfalso; exact absurd h13 (by decide)) (fun h13 => ?_)
    refine gAload E X28 at_16 rfl rfl (q := 18) rfl ?_
    refine gIconst E X28 at_18 (v := (0 : Int32)) (by decide) (q := 19) rfl ?_
    refine gIloadN E X28 at_19 rfl (q := 20) rfl ?_
    refine gCallS E X28 (W := 2) (c2 := 1) (s2 := 3) [(.int u1)] [(.int (0 : Int32)), (.ref a28)] at_20 (hw _ (List.mem_of_getElem? (i := 23) rfl)) (hw _ (List.mem_of_getElem? (i := 24) rfl)) (hw _ (List.mem_of_getElem? (i := 14) rfl)) (hw _ (List.mem_of_getElem? (i := 25) rfl)) (by decide) (cP l Z a0 hw u1) pd_5 rfl rfl rfl (by decide) (Nat.le_of_eq rfl) (by decide) (by decide) (by decide) (by decide) (by decide) (q := 23) rfl ?_
    intro T29 v29 V29 R29 X29
    obtain ⟨rfl, rfl⟩ := R29
    replace X29 : oX p l e room_1 s m #[(.int u0), (.int u1), (.int u2), (.int u3)] below meth c Z T29 [(a28, (.inr (.byte, [(.int (0 : Int32)), (.int (0 : Int32)), (.int (0 : Int32))])))] 1 3 := X29
    show oG p e below s Z room_1 (fun v _ => v = some (.int 1)) T29 (mkF m 23 #[.val (.int u0), .val (.int u1), .val (.int u2), .val (.int u3), .val (.int (3 : Int32)), .val (.ref a28), .unset, .unset] [(.int (own_pick u1)), (.int (0 : Int32)), (.ref a28)])
    refine gBastore E X29 (i := 0) (jn := 0) (x' := (own_pick u1)) (V' := [(a28, (.inr (.byte, [(.int (own_pick u1)), (.int (0 : Int32)), (.int (0 : Int32))])))]) at_23 rfl (by decide) rfl (by show 0 < 3; decide) (own_pb _) rfl (q := 24) rfl ?_
    intro T30 X30
    refine gIload E X30 at_24 rfl (q := 26) rfl ?_
    refine gIconst E X30 at_26 (v := (1 : Int32)) (by decide) (q := 27) rfl ?_
    refine gIc_le E X30 at_27 (by decide) (q := 38) (by decide) (q' := 30) rfl (fun h27 => by exfalso; exact absurd h27 (by decide)) (fun h27 => ?_)
    refine gAload E X30 at_30 rfl rfl (q := 32) rfl ?_
    refine gIconst E X30 at_32 (v := (1 : Int32)) (by decide) (q := 33) rfl ?_
    refine gIloadN E X30 at_33 rfl (q := 34) rfl ?_
    refine gCallS E X30 (W := 2) (c2 := 1) (s2 := 3) [(.int u2)] [(.int (1 : Int32)), (.ref a28)] at_34 (hw _ (List.mem_of_getElem? (i := 23) rfl)) (hw _ (List.mem_of_getElem? (i := 24) rfl)) (hw _ (List.mem_of_getElem? (i := 14) rfl)) (hw _ (List.mem_of_getElem? (i := 25) rfl)) (by decide) (cP l Z a0 hw u2) pd_5 rfl rfl rfl (by decide) (Nat.le_of_eq rfl) (by decide) (by decide) (by decide) (by decide) (by decide) (q := 37) rfl ?_
    intro T31 v31 V31 R31 X31
    obtain ⟨rfl, rfl⟩ := R31
    replace X31 : oX p l e room_1 s m #[(.int u0), (.int u1), (.int u2), (.int u3)] below meth c Z T31 [(a28, (.inr (.byte, [(.int (own_pick u1)), (.int (0 : Int32)), (.int (0 : Int32))])))] 1 3 := X31
    show oG p e below s Z room_1 (fun v _ => v = some (.int 1)) T31 (mkF m 37 #[.val (.int u0), .val (.int u1), .val (.int u2), .val (.int u3), .val (.int (3 : Int32)), .val (.ref a28), .unset, .unset] [(.int (own_pick u2)), (.int (1 : Int32)), (.ref a28)])
    refine gBastore E X31 (i := 0) (jn := 1) (x' := (own_pick u2)) (V' := [(a28, (.inr (.byte, [(.int (own_pick u1)), (.int (own_pick u2)), (.int (0 : Int32))])))]) at_37 rfl (by decide) rfl (by show 1 < 3; decide) (own_pb _) rfl (q := 38) rfl ?_
    intro T32 X32
    refine gIload E X32 at_38 rfl (q := 40) rfl ?_
    refine gIconst E X32 at_40 (v := (2 : Int32)) (by decide) (q := 41) rfl ?_
    refine gIc_le E X32 at_41 (by decide) (q := 52) (by decide) (q' := 44) rfl (fun h41 => by exfalso; exact absurd h41 (by decide)) (fun h41 => ?_)
    refine gAload E X32 at_44 rfl rfl (q := 46) rfl ?_
    refine gIconst E X32 at_46 (v := (2 : Int32)) (by decide) (q := 47) rfl ?_
    refine gIloadN E X32 at_47 rfl (q := 48) rfl ?_
    refine gCallS E X32 (W := 2) (c2 := 1) (s2 := 3) [(.int u3)] [(.int (2 : Int32)), (.ref a28)] at_48 (hw _ (List.mem_of_getElem? (i := 23) rfl)) (hw _ (List.mem_of_getElem? (i := 24) rfl)) (hw _ (List.mem_of_getElem? (i := 14) rfl)) (hw _ (List.mem_of_getElem? (i := 25) rfl)) (by decide) (cP l Z a0 hw u3) pd_5 rfl rfl rfl (by decide) (Nat.le_of_eq rfl) (by decide) (by decide) (by decide) (by decide) (by decide) (q := 51) rfl ?_
    intro T33 v33 V33 R33 X33
    obtain ⟨rfl, rfl⟩ := R33
    replace X33 : oX p l e room_1 s m #[(.int u0), (.int u1), (.int u2), (.int u3)] below meth c Z T33 [(a28, (.inr (.byte, [(.int (own_pick u1)), (.int (own_pick u2)), (.int (0 : Int32))])))] 1 3 := X33
    show oG p e below s Z room_1 (fun v _ => v = some (.int 1)) T33 (mkF m 51 #[.val (.int u0), .val (.int u1), .val (.int u2), .val (.int u3), .val (.int (3 : Int32)), .val (.ref a28), .unset, .unset] [(.int (own_pick u3)), (.int (2 : Int32)), (.ref a28)])
    refine gBastore E X33 (i := 0) (jn := 2) (x' := (own_pick u3)) (V' := [(a28, (.inr (.byte, [(.int (own_pick u1)), (.int (own_pick u2)), (.int (own_pick u3))])))]) at_51 rfl (by decide) rfl (by show 2 < 3; decide) (own_pb _) rfl (q := 52) rfl ?_
    intro T34 X34
    refine gNew E X34 (c2 := 2) (s2 := 7) at_52 (hw _ (List.mem_of_getElem? (i := 1) rfl)) (hw _ (List.mem_of_getElem? (i := 2) rfl)) (hw _ (List.mem_of_getElem? (i := 3) rfl)) (lay_TextFile_Lines Z a0 hw) (by decide) (by decide) (by decide) (by decide) (q := 55) rfl ?_
    intro T35 a35 X35
    refine gDup E X35 at_55 rfl (q := 56) rfl ?_
    refine gAload E X35 at_56 rfl rfl (q := 58) rfl ?_
    refine gCallI E X35 (W := 1) (c2 := 2) (s2 := 7) (a := a35) [(.ref a28)] [(.ref a35)] at_58 rfl (hw _ (List.mem_of_getElem? (i := 4) rfl)) (hw _ (List.mem_of_getElem? (i := 5) rfl)) (hw _ (List.mem_of_getElem? (i := 3) rfl)) (hw _ (List.mem_of_getElem? (i := 6) rfl)) (by decide) (cI l Z a0 hw a35 a28 (i := 1) rfl) pd_3 rfl rfl rfl (by decide) (Nat.le_of_eq rfl) (by decide) (by decide) (by decide) (by decide) (by decide) (q := 61) rfl ?_
    intro T36 v36 V36 R36 X36
    obtain ⟨rfl, rfl⟩ := R36
    replace X36 : oX p l e room_1 s m #[(.int u0), (.int u1), (.int u2), (.int u3)] below meth c Z T36 [(a28, (.inr (.byte, [(.int (own_pick u1)), (.int (own_pick u2)), (.int (own_pick u3))]))), (a35, (.inl ("com/example/meanfix/meanfix/TextFile$Lines", [("com/example/meanfix/meanfix/TextFile$Lines", "bytes", "[B", (.ref a28)), ("com/example/meanfix/meanfix/TextFile$Lines", "next", "I", (.int (0 : Int32))), ("com/example/meanfix/meanfix/TextFile$Lines", "start", "I", (.int (0 : Int32))), ("com/example/meanfix/meanfix/TextFile$Lines", "end", "I", (.int (0 : Int32)))])))] 2 7 := X36
    show oG p e below s Z room_1 (fun v _ => v = some (.int 1)) T36 (mkF m 61 #[.val (.int u0), .val (.int u1), .val (.int u2), .val (.int u3), .val (.int (3 : Int32)), .val (.ref a28), .unset, .unset] [(.ref a35)])
    refine gAstore E X36 at_61 rfl (l' := #[.val (.int u0), .val (.int u1), .val (.int u2), .val (.int u3), .val (.int (3 : Int32)), .val (.ref a28), .val (.ref a35), .unset]) rfl (q := 63) rfl ?_
    refine gIconst E X36 at_63 (v := (0 : Int32)) (by decide) (q := 64) rfl ?_
    refine gIstore E X36 at_64 (l' := #[.val (.int u0), .val (.int u1), .val (.int u2), .val (.int u3), .val (.int (3 : Int32)), .val (.ref a28), .val (.ref a35), .val (.int (0 : Int32))]) rfl (q := 66) rfl ?_
    refine gAload E X36 at_66 rfl rfl (q := 68) rfl ?_
    refine gAload E X36 at_68 rfl rfl (q := 70) rfl ?_
    refine gIload E X36 at_70 rfl (q := 72) rfl ?_
    refine gIload E X36 at_72 rfl (q := 74) rfl ?_
    refine gCallS E X36 (W := 0) (c2 := 2) (s2 := 7) [(.ref a35), (.ref a28), (.int (3 : Int32)), (.int (0 : Int32))] [] at_74 (hw _ (List.mem_of_getElem? (i := 12) rfl)) (hw _ (List.mem_of_getElem? (i := 13) rfl)) (hw _ (List.mem_of_getElem? (i := 14) rfl)) (hw _ (List.mem_of_getElem? (i := 15) rfl)) (by decide) (cT l Z a0 hw a35 a28 (3 : Int32) (0 : Int32) [(own_pick u1), (own_pick u2), (own_pick u3)] (0 : Int32) (0 : Int32) (i := 1) rfl (k := 0) rfl (by decide) rfl rfl (by decide) (show (0 : Int32).toInt ≤ ((3 : Nat) : Int) + 1 by decide) (show 3 ≤ 3 by decide)) pd_4 rfl rfl rfl (by decide) (Nat.le_of_eq rfl) (by decide) (by decide) (by decide) (by decide) (by decide) (q := 77) rfl ?_
    intro T37 v37 V37 R37 X37
    obtain ⟨s37, p37, q37, rfl, rfl, z37, t37⟩ := R37
    replace X37 : oX p l e room_1 s m #[(.int u0), (.int u1), (.int u2), (.int u3)] below meth c Z T37 [(a28, (.inr (.byte, [(.int (own_pick u1)), (.int (own_pick u2)), (.int (own_pick u3))]))), (a35, (.inl ("com/example/meanfix/meanfix/TextFile$Lines", [("com/example/meanfix/meanfix/TextFile$Lines", "bytes", "[B", (.ref a28)), ("com/example/meanfix/meanfix/TextFile$Lines", "next", "I", (.int s37)), ("com/example/meanfix/meanfix/TextFile$Lines", "start", "I", (.int p37)), ("com/example/meanfix/meanfix/TextFile$Lines", "end", "I", (.int q37))])))] 2 7 := X37
    show oG p e below s Z room_1 (fun v _ => v = some (.int 1)) T37 (mkF m 77 #[.val (.int u0), .val (.int u1), .val (.int u2), .val (.int u3), .val (.int (3 : Int32)), .val (.ref a28), .val (.ref a35), .val (.int (0 : Int32))] [(.int s37)])
    refine gIstore E X37 at_77 (l' := #[.val (.int u0), .val (.int u1), .val (.int u2), .val (.int u3), .val (.int (3 : Int32)), .val (.ref a28), .val (.ref a35), .val (.int s37)]) rfl (q := 79) rfl ?_
    refine gIload E X37 at_79 rfl (q := 81) rfl ?_
    refine gIf_ge E X37 at_81 (by decide) (q := 86) (by decide) (q' := 84) rfl (fun h81 => ?_) (fun h81 => by exfalso; rw [XT.negI32] at h81; omega)
    refine gAload E X37 at_86 rfl rfl (q := 88) rfl ?_
    refine gAload E X37 at_88 rfl rfl (q := 90) rfl ?_
    refine gIload E X37 at_90 rfl (q := 92) rfl ?_
    refine gIload E X37 at_92 rfl (q := 94) rfl ?_
    refine gCallS E X37 (W := 0) (c2 := 2) (s2 := 7) [(.ref a35), (.ref a28), (.int (3 : Int32)), (.int s37)] [] at_94 (hw _ (List.mem_of_getElem? (i := 12) rfl)) (hw _ (List.mem_of_getElem? (i := 13) rfl)) (hw _ (List.mem_of_getElem? (i := 14) rfl)) (hw _ (List.mem_of_getElem? (i := 15) rfl)) (by decide) (cT l Z a0 hw a35 a28 (3 : Int32) s37 [(own_pick u1), (own_pick u2), (own_pick u3)] p37 q37 (i := 1) rfl (k := 0) rfl (by decide) rfl rfl z37 t37 (show 3 ≤ 3 by decide)) pd_4 rfl rfl rfl (by decide) (Nat.le_of_eq rfl) (by decide) (by decide) (by decide) (by decide) (by decide) (q := 97) rfl ?_
    intro T38 v38 V38 R38 X38
    obtain ⟨s38, p38, q38, rfl, rfl, z38, t38⟩ := R38
    replace X38 : oX p l e room_1 s m #[(.int u0), (.int u1), (.int u2), (.int u3)] below meth c Z T38 [(a28, (.inr (.byte, [(.int (own_pick u1)), (.int (own_pick u2)), (.int (own_pick u3))]))), (a35, (.inl ("com/example/meanfix/meanfix/TextFile$Lines", [("com/example/meanfix/meanfix/TextFile$Lines", "bytes", "[B", (.ref a28)), ("com/example/meanfix/meanfix/TextFile$Lines", "next", "I", (.int s38)), ("com/example/meanfix/meanfix/TextFile$Lines", "start", "I", (.int p38)), ("com/example/meanfix/meanfix/TextFile$Lines", "end", "I", (.int q38))])))] 2 7 := X38
    show oG p e below s Z room_1 (fun v _ => v = some (.int 1)) T38 (mkF m 97 #[.val (.int u0), .val (.int u1), .val (.int u2), .val (.int u3), .val (.int (3 : Int32)), .val (.ref a28), .val (.ref a35), .val (.int s37)] [(.int s38)])
    refine gIstore E X38 at_97 (l' := #[.val (.int u0), .val (.int u1), .val (.int u2), .val (.int u3), .val (.int (3 : Int32)), .val (.ref a28), .val (.ref a35), .val (.int s38)]) rfl (q := 99) rfl ?_
    refine gIload E X38 at_99 rfl (q := 101) rfl ?_
    refine gIf_ge E X38 at_101 (by decide) (q := 106) (by decide) (q' := 104) rfl (fun h101 => ?_) (fun h101 => by exfalso; rw [XT.negI32] at h101; omega)
    refine gAload E X38 at_106 rfl rfl (q := 108) rfl ?_
    refine gAload E X38 at_108 rfl rfl (q := 110) rfl ?_
    refine gIload E X38 at_110 rfl (q := 112) rfl ?_
    refine gIload E X38 at_112 rfl (q := 114) rfl ?_
    refine gCallS E X38 (W := 0) (c2 := 2) (s2 := 7) [(.ref a35), (.ref a28), (.int (3 : Int32)), (.int s38)] [] at_114 (hw _ (List.mem_of_getElem? (i := 12) rfl)) (hw _ (List.mem_of_getElem? (i := 13) rfl)) (hw _ (List.mem_of_getElem? (i := 14) rfl)) (hw _ (List.mem_of_getElem? (i := 15) rfl)) (by decide) (cT l Z a0 hw a35 a28 (3 : Int32) s38 [(own_pick u1), (own_pick u2), (own_pick u3)] p38 q38 (i := 1) rfl (k := 0) rfl (by decide) rfl rfl z38 t38 (show 3 ≤ 3 by decide)) pd_4 rfl rfl rfl (by decide) (Nat.le_of_eq rfl) (by decide) (by decide) (by decide) (by decide) (by decide) (q := 117) rfl ?_
    intro T39 v39 V39 R39 X39
    obtain ⟨s39, p39, q39, rfl, rfl, z39, t39⟩ := R39
    replace X39 : oX p l e room_1 s m #[(.int u0), (.int u1), (.int u2), (.int u3)] below meth c Z T39 [(a28, (.inr (.byte, [(.int (own_pick u1)), (.int (own_pick u2)), (.int (own_pick u3))]))), (a35, (.inl ("com/example/meanfix/meanfix/TextFile$Lines", [("com/example/meanfix/meanfix/TextFile$Lines", "bytes", "[B", (.ref a28)), ("com/example/meanfix/meanfix/TextFile$Lines", "next", "I", (.int s39)), ("com/example/meanfix/meanfix/TextFile$Lines", "start", "I", (.int p39)), ("com/example/meanfix/meanfix/TextFile$Lines", "end", "I", (.int q39))])))] 2 7 := X39
    show oG p e below s Z room_1 (fun v _ => v = some (.int 1)) T39 (mkF m 117 #[.val (.int u0), .val (.int u1), .val (.int u2), .val (.int u3), .val (.int (3 : Int32)), .val (.ref a28), .val (.ref a35), .val (.int s38)] [(.int s39)])
    refine gIstore E X39 at_117 (l' := #[.val (.int u0), .val (.int u1), .val (.int u2), .val (.int u3), .val (.int (3 : Int32)), .val (.ref a28), .val (.ref a35), .val (.int s39)]) rfl (q := 119) rfl ?_
    refine gIload E X39 at_119 rfl (q := 121) rfl ?_
    refine gIf_ge E X39 at_121 (by decide) (q := 126) (by decide) (q' := 124) rfl (fun h121 => ?_) (fun h121 => by exfalso; rw [XT.negI32] at h121; omega)
    refine gAload E X39 at_126 rfl rfl (q := 128) rfl ?_
    refine gAload E X39 at_128 rfl rfl (q := 130) rfl ?_
    refine gIload E X39 at_130 rfl (q := 132) rfl ?_
    refine gIload E X39 at_132 rfl (q := 134) rfl ?_
    refine gCallS E X39 (W := 0) (c2 := 2) (s2 := 7) [(.ref a35), (.ref a28), (.int (3 : Int32)), (.int s39)] [] at_134 (hw _ (List.mem_of_getElem? (i := 12) rfl)) (hw _ (List.mem_of_getElem? (i := 13) rfl)) (hw _ (List.mem_of_getElem? (i := 14) rfl)) (hw _ (List.mem_of_getElem? (i := 15) rfl)) (by decide) (cT l Z a0 hw a35 a28 (3 : Int32) s39 [(own_pick u1), (own_pick u2), (own_pick u3)] p39 q39 (i := 1) rfl (k := 0) rfl (by decide) rfl rfl z39 t39 (show 3 ≤ 3 by decide)) pd_4 rfl rfl rfl (by decide) (Nat.le_of_eq rfl) (by decide) (by decide) (by decide) (by decide) (by decide) (q := 137) rfl ?_
    intro T40 v40 V40 R40 X40
    obtain ⟨s40, p40, q40, rfl, rfl, z40, t40⟩ := R40
    replace X40 : oX p l e room_1 s m #[(.int u0), (.int u1), (.int u2), (.int u3)] below meth c Z T40 [(a28, (.inr (.byte, [(.int (own_pick u1)), (.int (own_pick u2)), (.int (own_pick u3))]))), (a35, (.inl ("com/example/meanfix/meanfix/TextFile$Lines", [("com/example/meanfix/meanfix/TextFile$Lines", "bytes", "[B", (.ref a28)), ("com/example/meanfix/meanfix/TextFile$Lines", "next", "I", (.int s40)), ("com/example/meanfix/meanfix/TextFile$Lines", "start", "I", (.int p40)), ("com/example/meanfix/meanfix/TextFile$Lines", "end", "I", (.int q40))])))] 2 7 := X40
    show oG p e below s Z room_1 (fun v _ => v = some (.int 1)) T40 (mkF m 137 #[.val (.int u0), .val (.int u1), .val (.int u2), .val (.int u3), .val (.int (3 : Int32)), .val (.ref a28), .val (.ref a35), .val (.int s39)] [(.int s40)])
    refine gIstore E X40 at_137 (l' := #[.val (.int u0), .val (.int u1), .val (.int u2), .val (.int u3), .val (.int (3 : Int32)), .val (.ref a28), .val (.ref a35), .val (.int s40)]) rfl (q := 139) rfl ?_
    refine gIload E X40 at_139 rfl (q := 141) rfl ?_
    refine gIf_lt E X40 at_141 (by decide) (q := 148) (by decide) (q' := 144) rfl (fun h141 => by exfalso; rw [XT.negI32] at h141; omega) (fun h141 => ?_)
    refine gIconst E X40 at_144 (v := (1 : Int32)) (by decide) (q := 145) rfl ?_
    refine gGoto E X40 at_145 (by decide) (q := 149) (by decide) ?_
    exact gRetN E X40 (by simp) at_149 (by decide) (by decide) (rfl)
set_option maxRecDepth 65536 in
set_option maxHeartbeats 40000000 in
theorem comes_1 {Post : Tables → Env → Array Value → State → Outcome → State → Prop} (hpost : ∀ tb e args s v u, (limb_1_1.after args s (.returned v) u = true ∧ limb_1_2.after args s (.returned v) u = true ∧ True) → FrameEnd s (.returned v) u (Jvm.fieldLocs frame_1_writes args s ++ Jvm.arrayLocs frame_1_arrays args s ++ Jvm.staticLocs frame_1_statics s) 16 128 → Post tb e args s (.returned v) u) :
    ArmFor flags0 classFile x code maxLocals ret World_1 tables_1 room_1 Calls_1 rest_1 Pre_1 Post := by
  intro l hfl _ _ p e ha hc hk s m args below hf hA hF happ hP
  obtain ⟨hcalls, hrest, hpre⟩ := hP
  obtain ⟨-, -, -, hnamed, -, -, -, hat⟩ := (Spec.applies_iff hf).mp happ
  obtain ⟨hg, hn⟩ := and_e (Cond.before_iff.mp (show (Jvm.Cond.and given_1 narrow_1).before args s = true from hpre))
  obtain ⟨h1, hg0⟩ := and_e hg
  obtain ⟨g0, hg1⟩ := and_e hg0
  obtain ⟨g1, hg2⟩ := and_e hg1
  obtain ⟨g2, hg3⟩ := and_e hg2
  obtain ⟨w0, w1, w2, w3, rfl⟩ : ∃ w0 w1 w2 w3 : Value, args = #[w0, w1, w2, w3] := by
    have hs : args.size = 4 := by simpa [Cond.value, given_1] using h1
    obtain ⟨L⟩ := args
    match L, hs with
    | [w0, w1, w2, w3], _ => exact ⟨w0, w1, w2, w3, rfl⟩
  have hw := fun d (hd : d ∈ tables_1) => atoms_spec (ws := Jvm.Cond.code x code maxLocals ret :: tables_1) hat d (List.mem_cons_of_mem _ hd)
  have hfit : Fit s := fun {y c} hc i hi => by
    obtain ⟨ha, rfl⟩ := Array.getElem?_eq_some_iff.mp hc
    have q := List.all_eq_true.mp ((Array.all_eq_true_iff_forall_mem.mp hF) _ (Array.getElem_mem ha)) i (List.mem_range.mpr hi)
    simpa [Array.getElem?_eq_getElem hi] using q
  obtain ⟨i0, e0⟩ := is_v g0
  obtain rfl : w0 = (.int i0) := Option.some.inj e0
  obtain ⟨i1, e1⟩ := is_v g1
  obtain rfl : w1 = (.int i1) := Option.some.inj e1
  obtain ⟨i2, e2⟩ := is_v g2
  obtain rfl : w2 = (.int i2) := Option.some.inj e2
  obtain ⟨i3, e3⟩ := is_v hg3
  obtain rfl : w3 = (.int i3) := Option.some.inj e3
  obtain ⟨n, o, h1, h2, h3, v, L, rfl, ⟨N, V', rfl, -⟩, hq⟩ := rm0 l s _ hw i0 i1 i2 i3 tables_1 s.heap (oHv.nil s) p e ha hc hk s m _ below hf ((Spec.applies_iff_loose hf).mp happ).1 ⟨rfl, State.Warmed39.refl s, rfl⟩ trivial
  refine ⟨n, _, h1, h2, h3, hpost _ _ _ _ _ _ ⟨Cond.after_iff.mpr rfl, Cond.after_iff.mpr (eq_i res_at (Term.int_eval (1)) rfl), trivial⟩ ⟨hq.1, hq.2.1, (hq.2.2.sift fun y hy => Or.inr (N y hy)).mono (by decide) (by decide)⟩⟩
theorem main_1_1 : Claimed_1_1 := comes_1 fun _ _ _ _ _ _ h hF => ⟨h.1, hF⟩
theorem main_1_2 : Claimed_1_2 := comes_1 fun _ _ _ _ _ _ h hF => ⟨h.2.1, hF⟩
end Jvm.Pilot.@@N@@
namespace Jvm.Pilot.@@N@@
open Jvm Jvm.ClassFile Sem Op Lib Jvm.Free Jvm.Stand Jvm.Pilot.@@N@@.Jvm.D
/-! MADE BY PROGRAM (witnessworld.py) out of the Statement's table words and the real class files: 9 classes; the members and pool entries that the words name. The judged class is class 1, her method 4. -/
namespace start1
open Jvm.ClassFile
def u (s : String) : CpInfo := .utf8 (stringToUtf16 s)
/-- a pool by its gaps: so many unusable entries, then the entry; so many at the end -/
def gap : Nat → List CpInfo → List CpInfo
  | 0, r => r
  | n + 1, r => .unusable :: gap n r
def poolList (es : List (Nat × CpInfo)) (last : Nat) : List CpInfo := es.foldr (fun e r => gap e.1 (e.2 :: r)) (gap last [])
def pool (es : List (Nat × CpInfo)) (last : Nat) : Array CpInfo := ⟨poolList es last⟩
def fileOf (pool : Array CpInfo) (this : Nat) (attrs : Array Attribute := #[]) (ms : Array MethodInfo := #[]) (fl : Nat := 33) (sup : Nat := 0) (ifs : Array Nat := #[]) (fds : Array FieldInfo := #[]) : ClassFile where
  minorVersion := 0
  majorVersion := 65
  constantPool := pool
  accessFlags := fl
  thisClass := this
  superClass := sup
  interfaces := ifs
  fields := fds
  methods := ms
  attributes := attrs
def plain (name : String) (sup : Option ClassId) : Class where
  name := name
  kind := .ordinary
  loader := none
  accessFlags := 33
  super := sup
  interfaces := #[]
  cf := none
  fields := #[]
  methods := #[]
  instanceTypes := #[]
  staticTypes := #[]
  resolved := #[]
  callSites := []
  init := .initialized
  statics := none
  mirror := none

def pool0 : Array CpInfo := pool [(5, u "<init>"), (0, u "()V"), (1, .class_ 10), (1, u "java/lang/Object")] 113

def k0c0 : Code := { maxStack := 0, maxLocals := 1, code := object_method_1_code, exceptionTable := #[], attributes := #[] }
def k0m0 : Method := { name := "<init>", desc := "()V", sig := { parameters := [], returnType := none }, accessFlags := 1, code := some k0c0 }
/-- java/lang/Object -/
def k0 : Class := { plain "java/lang/Object" none with
  accessFlags := 33
  interfaces := #[]
  cf := some (fileOf pool0 8 #[] #[{ accessFlags := 1, nameIndex := 5, descriptorIndex := 6, attributes := #[] }] 33 0 #[] #[])
  fields := #[]
  methods := #[k0m0]
  instanceTypes := #[]
  staticTypes := #[]
  resolved := Array.replicate 124 none
  statics := none }

def pool1 : Array CpInfo := pool [(2, .class_ 4), (1, u "java/lang/Object"), (0, u "<init>"), (0, u "()V"), (0, .methodref 8 9), (0, .class_ 10), (0, .nameAndType 11 12), (0, u "com/example/meanfix/meanfix/TextFile$Lines"), (0, u "next"), (0, u "()Z"), (0, .methodref 8 14), (0, .nameAndType 15 16), (0, u "start"), (0, u "()I"), (0, .methodref 8 18), (0, .nameAndType 19 16), (0, u "end"), (0, .methodref 21 22), (0, .class_ 23), (0, .nameAndType 24 25), (0, u "com/example/meanfix/meanfix/LinesNextPinLaw"), (0, u "hasNl"), (0, u "([BII)Z"), (0, .methodref 21 27), (0, .nameAndType 28 29), (0, u "pick"), (0, u "(I)B"), (0, .methodref 8 31), (0, .nameAndType 5 32), (0, u "([B)V"), (0, .methodref 21 34), (0, .nameAndType 35 36), (0, u "step"), (0, u "(Lcom/example/meanfix/meanfix/TextFile$Lines;[BII)I"), (3, u "law"), (0, u "(IIII)Z")] 8

def k1m0 : Method := { name := "<init>", desc := "()V", sig := { parameters := [], returnType := none }, accessFlags := 2, code := none }
def k1c1 : Code := { maxStack := 2, maxLocals := 2, code := method_2_code, exceptionTable := #[], attributes := #[] }
def k1m1 : Method := { name := "pick", desc := "(I)B", sig := { parameters := [.int], returnType := some .byte }, accessFlags := 10, code := some k1c1 }
def k1c2 : Code := { maxStack := 2, maxLocals := 6, code := method_3_code, exceptionTable := #[], attributes := #[] }
def k1m2 : Method := { name := "hasNl", desc := "([BII)Z", sig := { parameters := [(.array .byte), .int, .int], returnType := some .boolean }, accessFlags := 10, code := some k1c2 }
def k1c3 : Code := { maxStack := 3, maxLocals := 6, code := method_4_code, exceptionTable := #[], attributes := #[] }
def k1m3 : Method := { name := "step", desc := "(Lcom/example/meanfix/meanfix/TextFile$Lines;[BII)I", sig := { parameters := [(.object "com/example/meanfix/meanfix/TextFile$Lines"), (.array .byte), .int, .int], returnType := some .int }, accessFlags := 10, code := some k1c3 }
def k1c4 : Code := { maxStack := 4, maxLocals := 8, code := code, exceptionTable := #[], attributes := #[] }
def k1m4 : Method := { name := "law", desc := "(IIII)Z", sig := { parameters := [.int, .int, .int, .int], returnType := some .boolean }, accessFlags := 9, code := some k1c4 }
/-- com/example/meanfix/meanfix/LinesNextPinLaw -/
def k1 : Class := { plain "com/example/meanfix/meanfix/LinesNextPinLaw" (some 0) with
  accessFlags := 49
  interfaces := #[]
  cf := some (fileOf pool1 21 #[] #[{ accessFlags := 2, nameIndex := 5, descriptorIndex := 6, attributes := #[] }, { accessFlags := 10, nameIndex := 28, descriptorIndex := 29, attributes := #[] }, { accessFlags := 10, nameIndex := 24, descriptorIndex := 25, attributes := #[] }, { accessFlags := 10, nameIndex := 35, descriptorIndex := 36, attributes := #[] }, { accessFlags := 9, nameIndex := 40, descriptorIndex := 41, attributes := #[] }] 49 2 #[] #[])
  fields := #[]
  methods := #[k1m0, k1m1, k1m2, k1m3, k1m4]
  instanceTypes := #[]
  staticTypes := #[]
  resolved := Array.replicate 50 none
  statics := none }

def pool2 : Array CpInfo := pool [(1, .methodref 2 3), (0, .class_ 4), (0, .nameAndType 5 6), (0, u "java/lang/Object"), (0, u "<init>"), (0, u "()V"), (0, .fieldref 8 9), (0, .class_ 10), (0, .nameAndType 11 12), (0, u "com/example/meanfix/meanfix/TextFile$Lines"), (0, u "bytes"), (0, u "[B"), (0, .fieldref 8 14), (0, .nameAndType 15 16), (0, u "next"), (0, u "I"), (0, .fieldref 8 18), (0, .nameAndType 19 16), (0, u "start"), (0, .fieldref 8 21), (0, .nameAndType 22 16), (0, u "end"), (1, .class_ 26), (1, u "com/example/meanfix/meanfix/TextFile"), (2, u "([B)V"), (2, u "()Z"), (2, u "()I")] 6

def k2c0 : Code := { maxStack := 2, maxLocals := 2, code := prog_52_method_1_code, exceptionTable := #[], attributes := #[] }
def k2m0 : Method := { name := "<init>", desc := "([B)V", sig := { parameters := [(.array .byte)], returnType := none }, accessFlags := 0, code := some k2c0 }
def k2c1 : Code := { maxStack := 3, maxLocals := 2, code := prog_52_method_2_code, exceptionTable := #[], attributes := #[] }
def k2m1 : Method := { name := "next", desc := "()Z", sig := { parameters := [], returnType := some .boolean }, accessFlags := 0, code := some k2c1 }
def k2c2 : Code := { maxStack := 1, maxLocals := 1, code := prog_52_method_4_code, exceptionTable := #[], attributes := #[] }
def k2m2 : Method := { name := "start", desc := "()I", sig := { parameters := [], returnType := some .int }, accessFlags := 0, code := some k2c2 }
def k2c3 : Code := { maxStack := 1, maxLocals := 1, code := prog_52_method_5_code, exceptionTable := #[], attributes := #[] }
def k2m3 : Method := { name := "end", desc := "()I", sig := { parameters := [], returnType := some .int }, accessFlags := 0, code := some k2c3 }
/-- com/example/meanfix/meanfix/TextFile$Lines -/
def k2 : Class := { plain "com/example/meanfix/meanfix/TextFile$Lines" (some 0) with
  accessFlags := 32
  interfaces := #[]
  cf := some (fileOf pool2 8 #[.nestHost 24] #[{ accessFlags := 0, nameIndex := 5, descriptorIndex := 29, attributes := #[] }, { accessFlags := 0, nameIndex := 15, descriptorIndex := 32, attributes := #[] }, { accessFlags := 0, nameIndex := 19, descriptorIndex := 35, attributes := #[] }, { accessFlags := 0, nameIndex := 22, descriptorIndex := 35, attributes := #[] }] 32 2 #[] #[{ accessFlags := 18, nameIndex := 11, descriptorIndex := 12, attributes := #[] }, { accessFlags := 2, nameIndex := 19, descriptorIndex := 16, attributes := #[] }, { accessFlags := 2, nameIndex := 22, descriptorIndex := 16, attributes := #[] }, { accessFlags := 2, nameIndex := 15, descriptorIndex := 16, attributes := #[] }])
  fields := #[{ name := "bytes", type := (.array .byte), accessFlags := 18, slot := 0, constantValue := 0 }, { name := "start", type := .int, accessFlags := 2, slot := 1, constantValue := 0 }, { name := "end", type := .int, accessFlags := 2, slot := 2, constantValue := 0 }, { name := "next", type := .int, accessFlags := 2, slot := 3, constantValue := 0 }]
  methods := #[k2m0, k2m1, k2m2, k2m3]
  instanceTypes := #[(.array .byte), .int, .int, .int]
  staticTypes := #[]
  resolved := Array.replicate 42 none
  statics := none }

def pool3 : Array CpInfo := pool [(1, u "java/lang/Cloneable"), (0, .class_ 1), (0, u "java/lang/Object"), (0, .class_ 3)] 3

/-- java/lang/Cloneable -/
def k3 : Class := { plain "java/lang/Cloneable" (some 0) with
  accessFlags := 1537
  interfaces := #[]
  cf := some (fileOf pool3 2 #[] #[] 1537 4 #[] #[])
  fields := #[]
  methods := #[]
  instanceTypes := #[]
  staticTypes := #[]
  resolved := Array.replicate 8 none
  statics := none }

def pool4 : Array CpInfo := pool [(1, u "java/io/Serializable"), (0, .class_ 1), (0, u "java/lang/Object"), (0, .class_ 3)] 3

/-- java/io/Serializable -/
def k4 : Class := { plain "java/io/Serializable" (some 0) with
  accessFlags := 1537
  interfaces := #[]
  cf := some (fileOf pool4 2 #[] #[] 1537 4 #[] #[])
  fields := #[]
  methods := #[]
  instanceTypes := #[]
  staticTypes := #[]
  resolved := Array.replicate 8 none
  statics := none }

/-- the primitive byte -/
def k5 : Class := { plain "byte" none with kind := .primitive 'B', accessFlags := 0x411 }
/-- [B -/
def k6 : Class := { plain "[B" (some 0) with kind := .array 5 .byte, interfaces := #[3, 4], accessFlags := 1041 }

/-- the primitive int -/
def k7 : Class := { plain "int" none with kind := .primitive 'I', accessFlags := 0x411 }
/-- [I -/
def k8 : Class := { plain "[I" (some 0) with kind := .array 7 .int, interfaces := #[3, 4], accessFlags := 1041 }

def heap : Heap := #[]
def classes : Array Class := #[k0, k1, k2, k3, k4, k5, k6, k7, k8]
def interned : List (Array UInt16 × Addr) := []
def slotsUsed : Nat := 0
def theMethod : MethodId := ⟨1, 4⟩
def args0 : Array Value := #[.int 5, .int 5, .int 5, .int 5]
def aboutOver (below : List Frame) : State where
  vm := { classes := classes, interned := interned.toArray }
  heap := heap
  slotsUsed := slotsUsed
  threads := #[{ frames := .invoking theMethod args0 :: below }]
def below0 : List Frame := [.native { method := ⟨0, 0⟩, args := #[] }]
def about1 : State := aboutOver below0
def p0 : Program := .bare "" "" ""
def e0 : Env := launch0.env 0 0 0
theorem w_frames : about1.frames = Frame.invoking theMethod args0 :: below0 := rfl
set_option maxRecDepth 65536 in
theorem w_args : argsFit about1.vm theMethod args0 = true := by decide +kernel
set_option maxRecDepth 65536 in
theorem w_heap : heapFits about1 = true := by decide +kernel
set_option maxRecDepth 65536 in
theorem w_runnable : about1.curStatus? = some .runnable := by decide +kernel
set_option maxRecDepth 65536 in
theorem w_alone : about1.alone = true := by decide +kernel
set_option maxRecDepth 65536 in
theorem w_named : about1.methodNamed? x = some theMethod := by decide +kernel
set_option maxRecDepth 65536 in
theorem w_hears : about1.hears theMethod below0 = true := by decide +kernel
set_option maxRecDepth 65536 in
theorem w_ripe : about1.ripe theMethod args0 below0 = true := by decide +kernel
theorem w_running : about1.status = .running := rfl
set_option maxRecDepth 65536 in
theorem w_room : about1.hasRoom e0.platform room_1 = true :=
  launch0.hasRoom_least _ room_1 (by decide +kernel) (by decide +kernel) (by decide +kernel) (by decide +kernel) (by decide +kernel) (by decide +kernel)
theorem allAtoms_all (ts : List Jvm.Cond) (a : Array Jvm.Value) (st : Jvm.State) : (allAtoms ts).before a st = ts.all (fun c => c.before a st) := by
  induction ts with
  | nil => rfl
  | cons c t ih =>
    show (Jvm.Cond.and c (allAtoms t)).before a st = _
    rw [Jvm.Cond.before_and, ih, List.all_cons]
def words1 : List Jvm.Cond := Jvm.Cond.code x code maxLocals ret :: tables_1
/-- a 'code' word, met by the world's own term for the bytes: nothing is compared byte by byte -/
theorem code_word {y : MethodName} {bytes : ByteArray} {mx : Nat} {rt : Option FieldType} {a : Array Value} {s : State} {m : MethodId} {meth : Method} {c : Code} (h1 : s.methodNamed? y = some m) (h2 : s.vm.method? m = some meth) (h3 : meth.code = some c) (h4 : c.code = bytes)
    (h5 : (c.maxLocals == mx && c.exceptionTable.isEmpty && decide (c.maxStack ≤ mostOperands) && decide (meth.sig.returnType = rt) && !meth.locks && decide (parseMethodDescriptor y.desc = some meth.sig)) = true) : (Jvm.Cond.code y bytes mx rt).before a s = true := by
  simp only [Bool.and_eq_true, beq_iff_eq, Bool.not_eq_true', decide_eq_true_eq] at h5
  obtain ⟨⟨⟨⟨⟨g1, g2⟩, g3⟩, g4⟩, g5⟩, g6⟩ := h5
  simp [Cond.before, Cond.holds, Cond.value, h1, h2, h3, h4, g1, g2, g3, g4, g5, g6]
def isCode : Jvm.Cond → Bool
  | .code _ _ _ _ => true
  | _ => false
theorem all_split {L : List Jvm.Cond} {P : Jvm.Cond → Bool} (h1 : L.all (fun c => isCode c || P c) = true) (h2 : ∀ c ∈ L.filter isCode, P c = true) : L.all P = true := by
  refine List.all_eq_true.mpr fun c hc => ?_
  have h := List.all_eq_true.mp h1 c hc
  rcases Bool.eq_false_or_eq_true (isCode c) with hi | hi
  · exact h2 c (List.mem_filter.mpr ⟨hc, hi⟩)
  · simpa [hi] using h
set_option maxRecDepth 65536 in
theorem w_c0 : (Jvm.Cond.code x code maxLocals ret).before args0 about1 = true := code_word (m := ⟨1, 4⟩) (meth := k1m4) (c := k1c4) (by decide +kernel) rfl rfl rfl (by decide +kernel)
set_option maxRecDepth 65536 in
theorem w_c1 : (Jvm.Cond.code ({ cls := "com/example/meanfix/meanfix/TextFile$Lines", name := "<init>", desc := "([B)V" } : Jvm.MethodName) prog_52_method_1_code (2 : Nat) (Option.none : Option Jvm.ClassFile.FieldType)).before args0 about1 = true := code_word (m := ⟨2, 0⟩) (meth := k2m0) (c := k2c0) (by decide +kernel) rfl rfl rfl (by decide +kernel)
set_option maxRecDepth 65536 in
theorem w_c2 : (Jvm.Cond.code ({ cls := "java/lang/Object", name := "<init>", desc := "()V" } : Jvm.MethodName) object_method_1_code (1 : Nat) (Option.none : Option Jvm.ClassFile.FieldType)).before args0 about1 = true := code_word (m := ⟨0, 0⟩) (meth := k0m0) (c := k0c0) (by decide +kernel) rfl rfl rfl (by decide +kernel)
set_option maxRecDepth 65536 in
theorem w_c3 : (Jvm.Cond.code ({ cls := "com/example/meanfix/meanfix/LinesNextPinLaw", name := "step", desc := "(Lcom/example/meanfix/meanfix/TextFile$Lines;[BII)I" } : Jvm.MethodName) method_4_code (6 : Nat) (Option.some Jvm.ClassFile.FieldType.int)).before args0 about1 = true := code_word (m := ⟨1, 3⟩) (meth := k1m3) (c := k1c3) (by decide +kernel) rfl rfl rfl (by decide +kernel)
set_option maxRecDepth 65536 in
theorem w_c4 : (Jvm.Cond.code ({ cls := "com/example/meanfix/meanfix/TextFile$Lines", name := "next", desc := "()Z" } : Jvm.MethodName) prog_52_method_2_code (2 : Nat) (Option.some Jvm.ClassFile.FieldType.boolean)).before args0 about1 = true := code_word (m := ⟨2, 1⟩) (meth := k2m1) (c := k2c1) (by decide +kernel) rfl rfl rfl (by decide +kernel)
set_option maxRecDepth 65536 in
theorem w_c5 : (Jvm.Cond.code ({ cls := "com/example/meanfix/meanfix/LinesNextPinLaw", name := "pick", desc := "(I)B" } : Jvm.MethodName) method_2_code (2 : Nat) (Option.some Jvm.ClassFile.FieldType.byte)).before args0 about1 = true := code_word (m := ⟨1, 1⟩) (meth := k1m1) (c := k1c1) (by decide +kernel) rfl rfl rfl (by decide +kernel)
set_option maxRecDepth 65536 in
theorem w_c6 : (Jvm.Cond.code ({ cls := "com/example/meanfix/meanfix/TextFile$Lines", name := "start", desc := "()I" } : Jvm.MethodName) prog_52_method_4_code (1 : Nat) (Option.some Jvm.ClassFile.FieldType.int)).before args0 about1 = true := code_word (m := ⟨2, 2⟩) (meth := k2m2) (c := k2c2) (by decide +kernel) rfl rfl rfl (by decide +kernel)
set_option maxRecDepth 65536 in
theorem w_c7 : (Jvm.Cond.code ({ cls := "com/example/meanfix/meanfix/TextFile$Lines", name := "end", desc := "()I" } : Jvm.MethodName) prog_52_method_5_code (1 : Nat) (Option.some Jvm.ClassFile.FieldType.int)).before args0 about1 = true := code_word (m := ⟨2, 3⟩) (meth := k2m3) (c := k2c3) (by decide +kernel) rfl rfl rfl (by decide +kernel)
set_option maxRecDepth 65536 in
theorem w_c8 : (Jvm.Cond.code ({ cls := "com/example/meanfix/meanfix/LinesNextPinLaw", name := "hasNl", desc := "([BII)Z" } : Jvm.MethodName) method_3_code (6 : Nat) (Option.some Jvm.ClassFile.FieldType.boolean)).before args0 about1 = true := code_word (m := ⟨1, 2⟩) (meth := k1m2) (c := k1c2) (by decide +kernel) rfl rfl rfl (by decide +kernel)
def codes1 : List Jvm.Cond := [Jvm.Cond.code x code maxLocals ret, Jvm.Cond.code ({ cls := "com/example/meanfix/meanfix/TextFile$Lines", name := "<init>", desc := "([B)V" } : Jvm.MethodName) prog_52_method_1_code (2 : Nat) (Option.none : Option Jvm.ClassFile.FieldType), Jvm.Cond.code ({ cls := "java/lang/Object", name := "<init>", desc := "()V" } : Jvm.MethodName) object_method_1_code (1 : Nat) (Option.none : Option Jvm.ClassFile.FieldType), Jvm.Cond.code ({ cls := "com/example/meanfix/meanfix/LinesNextPinLaw", name := "step", desc := "(Lcom/example/meanfix/meanfix/TextFile$Lines;[BII)I" } : Jvm.MethodName) method_4_code (6 : Nat) (Option.some Jvm.ClassFile.FieldType.int), Jvm.Cond.code ({ cls := "com/example/meanfix/meanfix/TextFile$Lines", name := "next", desc := "()Z" } : Jvm.MethodName) prog_52_method_2_code (2 : Nat) (Option.some Jvm.ClassFile.FieldType.boolean), Jvm.Cond.code ({ cls := "com/example/meanfix/meanfix/LinesNextPinLaw", name := "pick", desc := "(I)B" } : Jvm.MethodName) method_2_code (2 : Nat) (Option.some Jvm.ClassFile.FieldType.byte), Jvm.Cond.code ({ cls := "com/example/meanfix/meanfix/TextFile$Lines", name := "start", desc := "()I" } : Jvm.MethodName) prog_52_method_4_code (1 : Nat) (Option.some Jvm.ClassFile.FieldType.int), Jvm.Cond.code ({ cls := "com/example/meanfix/meanfix/TextFile$Lines", name := "end", desc := "()I" } : Jvm.MethodName) prog_52_method_5_code (1 : Nat) (Option.some Jvm.ClassFile.FieldType.int), Jvm.Cond.code ({ cls := "com/example/meanfix/meanfix/LinesNextPinLaw", name := "hasNl", desc := "([BII)Z" } : Jvm.MethodName) method_3_code (6 : Nat) (Option.some Jvm.ClassFile.FieldType.boolean)]
set_option maxRecDepth 65536 in
theorem codes_eq : words1.filter isCode = codes1 := rfl
theorem w_codes : ∀ c ∈ words1.filter isCode, c.before args0 about1 = true := by
  rw [codes_eq]
  intro c hc
  simp only [codes1, List.mem_cons, List.not_mem_nil, or_false] at hc
  rcases hc with rfl | rfl | rfl | rfl | rfl | rfl | rfl | rfl | rfl
  · exact w_c0
  · exact w_c1
  · exact w_c2
  · exact w_c3
  · exact w_c4
  · exact w_c5
  · exact w_c6
  · exact w_c7
  · exact w_c8
set_option maxRecDepth 65536 in
theorem w_t1 : (words1.take 24).all (fun c => isCode c || c.before args0 about1) = true := by decide +kernel
set_option maxRecDepth 65536 in
theorem w_t2 : (words1.drop 24).all (fun c => isCode c || c.before args0 about1) = true := by decide +kernel
theorem w_tables : (allAtoms (Jvm.Cond.code x code maxLocals ret :: tables_1)).before args0 about1 = true := by
  rw [allAtoms_all]
  show words1.all (fun c => c.before args0 about1) = true
  refine all_split ?_ w_codes
  rw [← List.take_append_drop 24 words1, List.all_append, w_t1, w_t2]
  rfl
set_option maxRecDepth 65536 in
theorem w_case : (Jvm.Cond.and given_1 narrow_1).before args0 about1 = true := by decide +kernel
theorem w_applies : (headSpec (Jvm.Cond.code x code maxLocals ret :: tables_1) room_1).applies x e0.platform about1 = true :=
  (Spec.applies_iff w_frames).mpr ⟨w_running, w_runnable, w_alone, w_named, w_hears, w_ripe, w_room, w_tables⟩
theorem atStart : AtStart classFile x code maxLocals ret World_1 tables_1 room_1 Calls_1 rest_1 Pre_1 launch0 p0 e0 about1 theMethod args0 below0 :=
  ⟨lists_1, trivial, launch0.admits_env _ _ _, launch0.least_env, fairChoices_fair.cas, fairChoices_fair.clock, w_frames, w_args, w_heap, w_applies, trivial, trivial, w_case⟩
end start1
theorem witness_1 : WitnessClaimed_1 := ⟨start1.p0, start1.e0, start1.about1, start1.theMethod, start1.args0, start1.below0, start1.atStart⟩
end Jvm.Pilot.@@N@@
