import JvmDerived
import JvmDerived.Pilot.@@N@@Statement
import JvmDerived.Pilot.@@N@@Code
set_option linter.unusedVariables false
set_option linter.unusedSimpArgs false
namespace Jvm.Pilot.@@N@@
open Jvm Jvm.ClassFile Sem Op Lib Jvm.Free Jvm.Stand Jvm.LawKit Jvm.RoadKit Bundle Jvm.Pilot.@@N@@.Jvm.D
/-! 1. what is known of the heap: a list of objects made since the start -/
abbrev oOb : Type := (String × List (String × String × String × Value)) ⊕ (FieldType × List Value)
abbrev oVw : Type := List (Addr × oOb)
def oSat (Z : State) (h : Heap) (a : Addr) : oOb → Prop
  | .inl q => Exa Z h a q.1 ∧ (q.2.map fun f => Jvm.RoadKit.slotOf Z f.1 f.2.1 f.2.2.1).Nodup ∧ ∀ f ∈ q.2, Fld Z h a f.1 f.2.1 f.2.2.1 f.2.2.2
  | .inr q => ∃ c : Cell, Arr Z h a c q.1 ∧ c.slots.toList = q.2 ∧ q.2.length < 2 ^ 31
def oHv (Z : State) (h : Heap) (V : oVw) : Prop := Ext Z.heap h ∧ (V.map Prod.fst).Nodup ∧ ∀ x ∈ V, Z.heap.size ≤ x.1 ∧ oSat Z h x.1 x.2
theorem oSat.ext {Z : State} {h h' : Heap} {a : Addr} {o : oOb} (E : Ext h h') (S : oSat Z h a o) : oSat Z h' a o := by
  cases o with
  | inl q => exact ⟨S.1.ext E, S.2.1, fun f hf => (S.2.2 f hf).ext E⟩
  | inr q => obtain ⟨c, A, r⟩ := S; exact ⟨c, A.ext E, r⟩
theorem oSat.other {Z : State} {h h' : Heap} {a b : Addr} {o : oOb} {sl : Nat} {v : Value} (W : Wr h h' b sl v) (ne : a ≠ b) (S : oSat Z h a o) : oSat Z h' a o := by
  cases o with
  | inl q => exact ⟨S.1.wr W, S.2.1, fun f hf => (S.2.2 f hf).other W (Or.inl ne)⟩
  | inr q => obtain ⟨c, A, r⟩ := S; exact ⟨c, A.other W ne, r⟩
theorem oSat.lt {Z : State} {h : Heap} {a : Addr} {o : oOb} (S : oSat Z h a o) : a < h.size := by
  cases o with
  | inl q => exact S.1.lt
  | inr q => obtain ⟨c, A, r⟩ := S; exact A.lt
theorem oSetSame {α : Type} : ∀ {l : List α} {i : Nat} {x : α}, l[i]? = some x → l.set i x = l
  | [], _, _, h => by simp at h
  | y :: r, 0, x, h => by simp at h; simp [h]
  | y :: r, i + 1, x, h => by simp at h; simp [oSetSame h]
theorem oSetGet {α : Type} {l : List α} {i : Nat} {x y : α} (h : l[i]? = some x) : (l.set i y)[i]? = some y := by
  obtain ⟨hi, -⟩ := List.getElem?_eq_some_iff.mp h
  simp [hi]
theorem oSetNe {α : Type} {l : List α} {i k : Nat} {x y : α} (ne : i ≠ k) (h : l[k]? = some x) : (l.set i y)[k]? = some x := by
  rw [List.getElem?_set_ne ne]; exact h
theorem oAppGet {α : Type} {l r : List α} {i : Nat} {x : α} (h : l[i]? = some x) : (l ++ r)[i]? = some x := by
  obtain ⟨hi, -⟩ := List.getElem?_eq_some_iff.mp h
  rw [List.getElem?_append_left hi]; exact h
theorem oAppLast {α : Type} {l : List α} {x : α} : (l ++ [x])[l.length]? = some x := by simp
theorem oAppSet {α : Type} {l r : List α} {i : Nat} {x y : α} (h : l[i]? = some x) : (l ++ r).set i y = l.set i y ++ r := by
  obtain ⟨hi, -⟩ := List.getElem?_eq_some_iff.mp h
  simp [List.set_append, hi]
theorem oAppSetLast {α : Type} {l : List α} {x y : α} : (l ++ [x]).set l.length y = l ++ [y] := by simp [List.set_append]
theorem oNd {α β : Type} {f : α → β} {l : List α} (nd : (l.map f).Nodup) {i k : Nat} {x y : α} (hi : l[i]? = some x) (hk : l[k]? = some y) (ne : i ≠ k) : f x ≠ f y := by
  intro e
  have h1 : (l.map f)[i]? = some (f x) := by simp [hi]
  have h2 : (l.map f)[k]? = some (f x) := by simp [hk, e]
  obtain ⟨hi', g1⟩ := List.getElem?_eq_some_iff.mp h1
  obtain ⟨hk', g2⟩ := List.getElem?_eq_some_iff.mp h2
  exact ne ((List.getElem_inj nd).mp (g1.trans g2.symm))
theorem oMapSet {α β : Type} {f : α → β} {l : List α} {i : Nat} {x y : α} (hi : l[i]? = some x) (e : f y = f x) : (l.set i y).map f = l.map f := by
  rw [List.map_set]; exact oSetSame (by simp [hi, e])
theorem oMemSet {α : Type} {l : List α} {i : Nat} {y z : α} (h : z ∈ l.set i y) : z = y ∨ ∃ k, k ≠ i ∧ l[k]? = some z := by
  obtain ⟨k, hk⟩ := List.mem_iff_getElem?.mp h
  by_cases e : i = k
  · subst e
    obtain ⟨hi, g⟩ := List.getElem?_eq_some_iff.mp hk
    left; simp at g; exact g.symm
  · right; exact ⟨k, fun q => e q.symm, by rwa [List.getElem?_set_ne e] at hk⟩
theorem oHv.new {Z : State} {h h' : Heap} {V : oVw} {o : oOb} (H : oHv Z h V) (E : Ext h h') (S : oSat Z h' h.size o) : oHv Z h' (V ++ [(h.size, o)]) := by
  obtain ⟨H1, H2, H3⟩ := H
  refine ⟨⟨Nat.le_trans H1.1 E.1, fun a c q => E.2 _ _ (H1.2 _ _ q)⟩, ?_, fun x hx => ?_⟩
  · rw [List.map_append, List.nodup_append]
    refine ⟨H2, by simp, fun a ha b hb => ?_⟩
    simp at hb
    subst hb
    obtain ⟨x, hx, rfl⟩ := List.mem_map.mp ha
    exact Nat.ne_of_lt (H3 x hx).2.lt
  · rcases List.mem_append.mp hx with hx | hx
    · exact ⟨(H3 x hx).1, (H3 x hx).2.ext E⟩
    · simp at hx; subst hx; exact ⟨H1.1, S⟩
theorem oHv.wr {Z : State} {h h' : Heap} {V : oVw} {a : Addr} {o o' : oOb} {i sl : Nat} {v : Value} (H : oHv Z h V) (W : Wr h h' a sl v) (hi : V[i]? = some (a, o)) (S : oSat Z h' a o') : oHv Z h' (V.set i (a, o')) := by
  obtain ⟨H1, H2, H3⟩ := H
  have hm := H3 _ (List.mem_of_getElem? hi)
  refine ⟨(Old.wr (n0 := Z.heap.size) ⟨rfl, H1⟩ W hm.1).2, ?_, fun x hx => ?_⟩
  · rw [oMapSet (y := (a, o')) hi rfl]; exact H2
  · rcases oMemSet hx with rfl | ⟨k, hk, hx⟩
    · exact ⟨hm.1, S⟩
    · have q := H3 _ (List.mem_of_getElem? hx)
      exact ⟨q.1, q.2.other W (oNd H2 hx hi hk)⟩
theorem oSat.wrF {Z : State} {h h' : Heap} {a : Addr} {C O n d : String} {fs : List (String × String × String × Value)} {j : Nat} {v old : Value} (S : oSat Z h a (.inl (C, fs))) (hj : fs[j]? = some (O, n, d, old)) (W : Wr h h' a (Jvm.RoadKit.slotOf Z O n d) v) :
    oSat Z h' a (.inl (C, fs.set j (O, n, d, v))) := by
  obtain ⟨S1, S2, S3⟩ := S
  refine ⟨S1.wr W, ?_, fun f hf => ?_⟩
  · show ((fs.set j (O, n, d, v)).map _).Nodup
    rw [oMapSet (y := (O, n, d, v)) hj rfl]; exact S2
  · rcases oMemSet hf with rfl | ⟨k, hk, hf⟩
    · exact (S3 _ (List.mem_of_getElem? hj)).same W
    · have S2' : (fs.map fun f => Jvm.RoadKit.slotOf Z f.1 f.2.1 f.2.2.1).Nodup := S2
      have q := oNd S2' hf hj hk
      dsimp only at q
      exact (S3 _ (List.mem_of_getElem? hf)).other W (Or.inr q)
theorem oSat.wrA {Z : State} {h h' : Heap} {a : Addr} {ty : FieldType} {vs : List Value} {j : Nat} {v : Value} (S : oSat Z h a (.inr (ty, vs))) (W : Wr h h' a j v) : oSat Z h' a (.inr (ty, vs.set j v)) := by
  obtain ⟨c, A, r1, r2⟩ := S
  refine ⟨_, A.same W, ?_, by rw [List.length_set]; exact r2⟩
  show (c.setSlot j v).slots.toList = _
  simp only [Cell.setSlot, Array.toList_setIfInBounds, r1]
theorem oHv.sat {Z : State} {h : Heap} {V : oVw} {a : Addr} {o : oOb} {i : Nat} (H : oHv Z h V) (hi : V[i]? = some (a, o)) : oSat Z h a o := (H.2.2 _ (List.mem_of_getElem? hi)).2
theorem oHv.ge {Z : State} {h : Heap} {V : oVw} {a : Addr} {o : oOb} {i : Nat} (H : oHv Z h V) (hi : V[i]? = some (a, o)) : Z.heap.size ≤ a := (H.2.2 _ (List.mem_of_getElem? hi)).1
theorem oHv.nil (Z : State) : oHv Z Z.heap [] := ⟨⟨Nat.le_refl _, fun _ _ q => q⟩, List.nodup_nil, fun _ q => nomatch q⟩
/-- the fields of a class, as they are at first -/
def oLay (Z : State) (a0 : Array Value) (C : String) (fs : List (String × String × String × Value)) : Prop := (fs.map fun f => Jvm.RoadKit.slotOf Z f.1 f.2.1 f.2.2.1).Nodup ∧ ∀ f ∈ fs, Laid Z a0 C f.1 f.2.1 f.2.2.1 ∧ ∃ ty, parseFieldDescriptor f.2.2.1 = some ty ∧ f.2.2.2 = defaultValue ty
def oAll {α : Type} (P : α → Prop) : List α → Prop
  | [] => True
  | x :: r => P x ∧ oAll P r
theorem oAll.mem {α : Type} {P : α → Prop} : ∀ {l : List α}, oAll P l → ∀ x ∈ l, P x
  | [], _, _, q => nomatch q
  | y :: r, H, x, q => (List.mem_cons.mp q).elim (fun u => u ▸ H.1) (oAll.mem H.2 x)
theorem oLay.of {Z : State} {a0 : Array Value} {C : String} {fs : List (String × String × String × Value)} (hn : (fs.map fun f => f.2.1).Nodup) (hL : oAll (fun f => Laid Z a0 C f.1 f.2.1 f.2.2.1 ∧ ∃ ty, parseFieldDescriptor f.2.2.1 = some ty ∧ f.2.2.2 = defaultValue ty) fs) : oLay Z a0 C fs := by
  have hL := hL.mem
  refine ⟨?_, hL⟩
  have hn' := List.pairwise_map.mp hn
  refine List.pairwise_map.mpr (List.Pairwise.imp_of_mem (fun {x z} hx hz ne => ?_) hn')
  obtain ⟨L1, t1, p1, -⟩ := hL _ hx
  obtain ⟨L2, t2, p2, -⟩ := hL _ hz
  exact slot_ne L1 L2 ne p1 p2
/-! 2. where the run stands, and where it goes -/
section Walk
variable {p : Program} {l : Launch} {e : Env} {R : Room} {s : State} {m : MethodId} {args : Array Value} {below : List Frame} {meth : Method} {c : Code} {Z : State} {bytes : ByteArray} {own nm : String} {maxL : Nat} {ret : Option FieldType} {T : State} {V V' : oVw} {cells slots c2 s2 : Nat} {Ret : Option Value → oVw → Prop} {a0 : Array Value} {pc q : Nat} {Ls : Array Slot} {st rest : List Value}
def oE (p : Program) (l : Launch) (e : Env) (R : Room) (s : State) (m : MethodId) (args : Array Value) (below : List Frame) (meth : Method) (c : Code) (Z : State) (bytes : ByteArray) (own nm : String) (maxL : Nat) (ret : Option FieldType) : Prop :=
  p.tables.exec = Jvm.exec ∧ Z.Warmed39 s.vm ∧ s.vm.findClass own = some m.cls ∧ c.code = bytes ∧ c.maxLocals = maxL ∧ meth.sig.returnType = ret ∧ meth.name = nm ∧ meth.locks = false
def oX (p : Program) (l : Launch) (e : Env) (R : Room) (s : State) (m : MethodId) (args : Array Value) (below : List Frame) (meth : Method) (c : Code) (Z T : State) (V : oVw) (cells slots : Nat) : Prop :=
  ∃ locs c' s', c' ≤ cells ∧ s' ≤ slots ∧ Stand p l e R s m args below meth c T locs c' s' ∧ Fr Z.heap.size locs ∧ oHv Z T.heap V
def oG (p : Program) (e : Env) (below : List Frame) (s Z : State) (R : Room) (Ret : Option Value → oVw → Prop) (T : State) (g : JFrame) : Prop :=
  ∃ t o, Steps p.tables e below (T.setTop g) t ∧ t.status = .running ∧ Ended t below o ∧ ∃ v L, o = .returned v ∧ (Fr Z.heap.size L ∧ ∃ V', Ret v V' ∧ oHv Z t.heap V') ∧ FrameEnd s o t L R.cells R.slots
/-- the contract of a method at a view V of the heap -/
def oCon (l : Launch) (Z : State) (y : MethodName) (bytes : ByteArray) (maxL : Nat) (ret : Option FieldType) (rm : Room) (as' : Array Value) (V : oVw) (Ret : Option Value → oVw → Prop) : Prop :=
  ∀ (ws : List Jvm.Cond) (h0 : Heap), oHv Z h0 V → MetFree l y (head1 (Jvm.Cond.code y bytes maxL ret :: ws) rm) (fun a U => a = as' ∧ Z.Warmed39 U.vm ∧ U.heap = h0) (fun _ _ _ _ _ => True) (fun _ U o U' => ∃ v L, o = .returned v ∧ (Fr Z.heap.size L ∧ ∃ V', Ret v V' ∧ oHv Z U'.heap V') ∧ FrameEnd U o U' L rm.cells rm.slots)
theorem oG.step {T' : State} {g g' : JFrame} (k : ∀ t, Steps p.tables e below (T'.setTop g') t → Steps p.tables e below (T.setTop g) t) (G : oG p e below s Z R Ret T' g') : oG p e below s Z R Ret T g := by
  obtain ⟨t, o, h1, r⟩ := G; exact ⟨t, o, k t h1, r⟩
theorem oG.steps {T' : State} {g g' : JFrame} (k : Steps p.tables e below (T.setTop g) (T'.setTop g')) (G : oG p e below s Z R Ret T' g') : oG p e below s Z R Ret T g := by
  obtain ⟨t, o, h1, r⟩ := G; exact ⟨t, o, k.trans h1, r⟩
theorem oX.le (X : oX p l e R s m args below meth c Z T V cells slots) (h1 : cells ≤ c2) (h2 : slots ≤ s2) : oX p l e R s m args below meth c Z T V c2 s2 := by
  obtain ⟨locs, c', s', q1, q2, r⟩ := X; exact ⟨locs, c', s', Nat.le_trans q1 h1, Nat.le_trans q2 h2, r⟩
theorem oX.hv (X : oX p l e R s m args below meth c Z T V cells slots) : oHv Z T.heap V := by
  obtain ⟨_, _, _, _, _, _, _, H⟩ := X; exact H
/-- entering a method -/
theorem oEnter {y : MethodName} {as' : Array Value} {rm : Room} (hpl : plainFor y = true) (hent : ∀ m, entryFrame m as' maxL = mkF m 0 Ls [])
    (body : ∀ p e s m below meth c T, oE p l e rm s m as' below meth c Z bytes y.cls y.name maxL ret → oX p l e rm s m as' below meth c Z T V 0 0 → oG p e below s Z rm Ret T (mkF m 0 Ls [])) :
    oCon l Z y bytes maxL ret rm as' V Ret := by
  intro ws h0 H
  refine MetFree.of_bodySF hpl hisR ?_
  intro p e s m args below meth c s₁ Bd hml0 hP hK
  obtain ⟨rfl, hZ, hh⟩ := hP
  have e0 : s₁.heap = h0 := by rw [← hh, Bd.state]; rfl
  have G := body p e s m below meth c s₁ ⟨Bd.exec, hZ, findClass_of_methodNamed Bd.named, Bd.bytes, hml0, Bd.returns, (name_of_methodNamed Bd.named Bd.method).1, BodyLoose.notSynchronized Bd⟩ ⟨[], 0, 0, Nat.le_refl _, Nat.le_refl _, Stand.of_body Bd, Fr.nil _, e0 ▸ H⟩
  obtain ⟨t, o, h1, r⟩ := G
  exact ⟨t, o, castTop (hent m) h1, r⟩
/-! 3. leaving -/
theorem oLeave (E : oE p l e R s m args below meth c Z bytes own nm maxL ret) (X : oX p l e R s m args below meth c Z T V cells slots) (hc : cells ≤ R.cells) (hs : slots ≤ R.slots) {v : Option Value} (hv : meth.sig.returnType = none → v = none) (hR : Ret v V) {g : JFrame}
    (k : ∀ {locs c' s'}, Stand p l e R s m args below meth c T locs c' s' → ∀ fs, (∀ (f : JFrame) (acts : List Action), f.method = m → f.locked = none → f.entered = [] → (doReturn e (T.setTop f) acts v).1 = T.setFrames fs) → Steps p.tables e below (T.setTop g) (T.setFrames fs)) :
    oG p e below s Z R Ret T g := by
  obtain ⟨locs, c', s', q1, q2, Y, N, H⟩ := X
  have hlocks := E.2.2.2.2.2.2.2
  obtain ⟨fs, hr, hrun, hended, hW, hsame⟩ := Y.leave (v := v) hv hlocks
  exact ⟨_, _, k Y fs hr, hrun, hended, _, _, rfl, ⟨N, _, hR, H⟩, ⟨_, rfl⟩, hW, hsame.mono (Nat.le_trans q1 hc) (Nat.le_trans q2 hs)⟩
theorem gRetV (E : oE p l e R s m args below meth c Z bytes own nm maxL none) (X : oX p l e R s m args below meth c Z T V cells slots) (hd : decode bytes pc = .ok (.return_, 1)) (hc : cells ≤ R.cells) (hs : slots ≤ R.slots) (hR : Ret none V) : oG p e below s Z R Ret T (mkF m pc Ls []) :=
  oLeave E X hc hs (fun _ => rfl) hR fun Y fs hr => Y.returnOut E.1 E.2.2.2.2.2.1 (hb E.2.2.2.1 hd) hr
theorem gRetI (E : oE p l e R s m args below meth c Z bytes own nm maxL (some .int)) (X : oX p l e R s m args below meth c Z T V cells slots) {z : Int32} (hd : decode bytes pc = .ok (.ireturn, 1)) (hc : cells ≤ R.cells) (hs : slots ≤ R.slots) (hR : Ret (some (.int z)) V) : oG p e below s Z R Ret T (mkF m pc Ls (.int z :: rest)) :=
  oLeave E X hc hs (fun h => by rw [E.2.2.2.2.2.1] at h; cases h) hR fun Y fs hr => retOut Y E.1 E.2.2.2.2.2.1 rfl (Or.inl ⟨rfl, Or.inl rfl, _, rfl⟩) (hb E.2.2.2.1 hd) hr
theorem gRetN {t : FieldType} (E : oE p l e R s m args below meth c Z bytes own nm maxL (some t)) (X : oX p l e R s m args below meth c Z T V cells slots) (ht : t = .boolean ∨ t = .byte ∨ t = .char ∨ t = .short) {z : Int32} (hd : decode bytes pc = .ok (.ireturn, 1)) (hc : cells ≤ R.cells) (hs : slots ≤ R.slots) (hR : Ret (some (.int (nar t z))) V) : oG p e below s Z R Ret T (mkF m pc Ls (.int z :: rest)) :=
  oLeave E X hc hs (fun h => by rw [E.2.2.2.2.2.1] at h; cases h) hR fun Y fs hr => retN Y E.1 E.2.2.2.2.2.1 ht (hb E.2.2.2.1 hd) hr
theorem gRetJ (E : oE p l e R s m args below meth c Z bytes own nm maxL (some .long)) (X : oX p l e R s m args below meth c Z T V cells slots) {z : Int64} (hd : decode bytes pc = .ok (.lreturn, 1)) (hc : cells ≤ R.cells) (hs : slots ≤ R.slots) (hR : Ret (some (.long z)) V) : oG p e below s Z R Ret T (mkF m pc Ls (.long z :: rest)) :=
  oLeave E X hc hs (fun h => by rw [E.2.2.2.2.2.1] at h; cases h) hR fun Y fs hr => retOut Y E.1 E.2.2.2.2.2.1 rfl (Or.inr (Or.inl ⟨rfl, rfl, _, rfl⟩)) (hb E.2.2.2.1 hd) hr
theorem gRetA {t : FieldType} (E : oE p l e R s m args below meth c Z bytes own nm maxL (some t)) (X : oX p l e R s m args below meth c Z T V cells slots) (ht : t.isReference = true) {v : Value} (hd : decode bytes pc = .ok (.areturn, 1)) (hc : cells ≤ R.cells) (hs : slots ≤ R.slots) (hv : v.isRef = true) (hn : narrow t v = v) (hR : Ret (some v) V) : oG p e below s Z R Ret T (mkF m pc Ls (v :: rest)) :=
  oLeave E X hc hs (fun h => by rw [E.2.2.2.2.2.1] at h; cases h) hR fun Y fs hr => retOut Y E.1 E.2.2.2.2.2.1 hn (Or.inr (Or.inr (Or.inr (Or.inr ⟨rfl, ht, hv⟩)))) (hb E.2.2.2.1 hd) hr
/-! 4. single steps -/
theorem gAloadN (E : oE p l e R s m args below meth c Z bytes own nm maxL ret) (X : oX p l e R s m args below meth c Z T V cells slots) {k : Fin 4} {v : Value} (hd : decode bytes pc = .ok (.aload_n k, 1)) (hl : Ls[k.val]? = some (.val v)) (hv : v.isRef = true) (hp : pc + 1 = q) (G : oG p e below s Z R Ret T (mkF m q Ls (v :: st))) : oG p e below s Z R Ret T (mkF m pc Ls st) := by
  subst hp ; obtain ⟨_, _, _, _, _, Y, _⟩ := X; exact G.step fun t k => XS.aloadN Y.here E.1 rfl (hb E.2.2.2.1 hd) hl hv k
theorem gAload (E : oE p l e R s m args below meth c Z bytes own nm maxL ret) (X : oX p l e R s m args below meth c Z T V cells slots) {k : Nat} {v : Value} (hd : decode bytes pc = .ok (.aload k, 2)) (hl : Ls[k]? = some (.val v)) (hv : v.isRef = true) (hp : pc + 2 = q) (G : oG p e below s Z R Ret T (mkF m q Ls (v :: st))) : oG p e below s Z R Ret T (mkF m pc Ls st) := by
  subst hp ; obtain ⟨_, _, _, _, _, Y, _⟩ := X; exact G.step fun t k => XS.aload Y.here E.1 rfl (hb E.2.2.2.1 hd) hl hv k
theorem gIloadN (E : oE p l e R s m args below meth c Z bytes own nm maxL ret) (X : oX p l e R s m args below meth c Z T V cells slots) {k : Fin 4} {v : Int32} (hd : decode bytes pc = .ok (.iload_n k, 1)) (hl : Ls[k.val]? = some (.val (.int v))) (hp : pc + 1 = q) (G : oG p e below s Z R Ret T (mkF m q Ls (.int v :: st))) : oG p e below s Z R Ret T (mkF m pc Ls st) := by
  subst hp ; obtain ⟨_, _, _, _, _, Y, _⟩ := X; exact G.step fun t k => XS.iloadN Y.here E.1 rfl (hb E.2.2.2.1 hd) hl k
theorem gIload (E : oE p l e R s m args below meth c Z bytes own nm maxL ret) (X : oX p l e R s m args below meth c Z T V cells slots) {k : Nat} {v : Int32} (hd : decode bytes pc = .ok (.iload k, 2)) (hl : Ls[k]? = some (.val (.int v))) (hp : pc + 2 = q) (G : oG p e below s Z R Ret T (mkF m q Ls (.int v :: st))) : oG p e below s Z R Ret T (mkF m pc Ls st) := by
  subst hp ; obtain ⟨_, _, _, _, _, Y, _⟩ := X; exact G.step fun t k => XS.iload Y.here E.1 rfl (hb E.2.2.2.1 hd) hl k
theorem gLloadN (E : oE p l e R s m args below meth c Z bytes own nm maxL ret) (X : oX p l e R s m args below meth c Z T V cells slots) {k : Fin 4} {v : Int64} (hd : decode bytes pc = .ok (.lload_n k, 1)) (hl : Ls[k.val]? = some (.val (.long v))) (hp : pc + 1 = q) (G : oG p e below s Z R Ret T (mkF m q Ls (.long v :: st))) : oG p e below s Z R Ret T (mkF m pc Ls st) := by
  subst hp ; obtain ⟨_, _, _, _, _, Y, _⟩ := X; exact G.step fun t k => XT.lloadN Y.here E.1 rfl (hb E.2.2.2.1 hd) hl k
theorem gLload (E : oE p l e R s m args below meth c Z bytes own nm maxL ret) (X : oX p l e R s m args below meth c Z T V cells slots) {k : Nat} {v : Int64} (hd : decode bytes pc = .ok (.lload k, 2)) (hl : Ls[k]? = some (.val (.long v))) (hp : pc + 2 = q) (G : oG p e below s Z R Ret T (mkF m q Ls (.long v :: st))) : oG p e below s Z R Ret T (mkF m pc Ls st) := by
  subst hp ; obtain ⟨_, _, _, _, _, Y, _⟩ := X; exact G.step fun t k => XT.lload Y.here E.1 rfl (hb E.2.2.2.1 hd) hl k
theorem gIconst (E : oE p l e R s m args below meth c Z bytes own nm maxL ret) (X : oX p l e R s m args below meth c Z T V cells slots) {i : Int} {v : Int32} (hd : decode bytes pc = .ok (.iconst i, 1)) (hv : Int32.ofInt i = v) (hp : pc + 1 = q) (G : oG p e below s Z R Ret T (mkF m q Ls (.int v :: st))) : oG p e below s Z R Ret T (mkF m pc Ls st) := by
  subst hp ; obtain ⟨_, _, _, _, _, Y, _⟩ := X; exact G.step fun t k => XT.iconstV Y.here E.1 rfl v (hb E.2.2.2.1 hd) hv k
theorem gBipush (E : oE p l e R s m args below meth c Z bytes own nm maxL ret) (X : oX p l e R s m args below meth c Z T V cells slots) {i : Int} {v : Int32} (hd : decode bytes pc = .ok (.bipush i, 2)) (hv : (Int8.ofInt i).toInt32 = v) (hp : pc + 2 = q) (G : oG p e below s Z R Ret T (mkF m q Ls (.int v :: st))) : oG p e below s Z R Ret T (mkF m pc Ls st) := by
  subst hp ; obtain ⟨_, _, _, _, _, Y, _⟩ := X; exact G.step fun t k => XT.bipushV Y.here E.1 rfl v (hb E.2.2.2.1 hd) hv k
theorem gSipush (E : oE p l e R s m args below meth c Z bytes own nm maxL ret) (X : oX p l e R s m args below meth c Z T V cells slots) {i : Int} {v : Int32} (hd : decode bytes pc = .ok (.sipush i, 3)) (hv : (Int16.ofInt i).toInt32 = v) (hp : pc + 3 = q) (G : oG p e below s Z R Ret T (mkF m q Ls (.int v :: st))) : oG p e below s Z R Ret T (mkF m pc Ls st) := by
  subst hp ; obtain ⟨_, _, _, _, _, Y, _⟩ := X; exact G.step fun t k => XT.sipushV Y.here E.1 rfl v (hb E.2.2.2.1 hd) hv k
theorem gLconst (E : oE p l e R s m args below meth c Z bytes own nm maxL ret) (X : oX p l e R s m args below meth c Z T V cells slots) {i : Fin 2} {v : Int64} (hd : decode bytes pc = .ok (.lconst i, 1)) (hv : Int64.ofNat i = v) (hp : pc + 1 = q) (G : oG p e below s Z R Ret T (mkF m q Ls (.long v :: st))) : oG p e below s Z R Ret T (mkF m pc Ls st) := by
  subst hp ; obtain ⟨_, _, _, _, _, Y, _⟩ := X; exact G.step fun t k => XT.lconstV Y.here E.1 rfl v (hb E.2.2.2.1 hd) hv k
theorem gNull (E : oE p l e R s m args below meth c Z bytes own nm maxL ret) (X : oX p l e R s m args below meth c Z T V cells slots)  (hd : decode bytes pc = .ok (.aconst_null, 1))  (hp : pc + 1 = q) (G : oG p e below s Z R Ret T (mkF m q Ls (.null :: st))) : oG p e below s Z R Ret T (mkF m pc Ls st) := by
  subst hp ; obtain ⟨_, _, _, _, _, Y, _⟩ := X; exact G.step fun t k => XS.aconstNull Y.here E.1 rfl (hb E.2.2.2.1 hd) k
theorem gIadd (E : oE p l e R s m args below meth c Z bytes own nm maxL ret) (X : oX p l e R s m args below meth c Z T V cells slots) {x y z : Int32} (hd : decode bytes pc = .ok (.iadd, 1)) (hz : (x + y) = z) (hp : pc + 1 = q) (G : oG p e below s Z R Ret T (mkF m q Ls (.int z :: st))) : oG p e below s Z R Ret T (mkF m pc Ls (.int y :: .int x :: st)) := by
  subst hp hz; obtain ⟨_, _, _, _, _, Y, _⟩ := X; exact G.step fun t k => XS.iadd Y.here E.1 rfl (hb E.2.2.2.1 hd) rfl k
theorem gIsub (E : oE p l e R s m args below meth c Z bytes own nm maxL ret) (X : oX p l e R s m args below meth c Z T V cells slots) {x y z : Int32} (hd : decode bytes pc = .ok (.isub, 1)) (hz : (x - y) = z) (hp : pc + 1 = q) (G : oG p e below s Z R Ret T (mkF m q Ls (.int z :: st))) : oG p e below s Z R Ret T (mkF m pc Ls (.int y :: .int x :: st)) := by
  subst hp hz; obtain ⟨_, _, _, _, _, Y, _⟩ := X; exact G.step fun t k => XS.isub Y.here E.1 rfl (hb E.2.2.2.1 hd) rfl k
theorem gIand (E : oE p l e R s m args below meth c Z bytes own nm maxL ret) (X : oX p l e R s m args below meth c Z T V cells slots) {x y z : Int32} (hd : decode bytes pc = .ok (.iand, 1)) (hz : (x &&& y) = z) (hp : pc + 1 = q) (G : oG p e below s Z R Ret T (mkF m q Ls (.int z :: st))) : oG p e below s Z R Ret T (mkF m pc Ls (.int y :: .int x :: st)) := by
  subst hp hz; obtain ⟨_, _, _, _, _, Y, _⟩ := X; exact G.step fun t k => XS.iand Y.here E.1 rfl (hb E.2.2.2.1 hd) rfl k
theorem gImul (E : oE p l e R s m args below meth c Z bytes own nm maxL ret) (X : oX p l e R s m args below meth c Z T V cells slots) {x y z : Int32} (hd : decode bytes pc = .ok (.imul, 1)) (hz : (x * y) = z) (hp : pc + 1 = q) (G : oG p e below s Z R Ret T (mkF m q Ls (.int z :: st))) : oG p e below s Z R Ret T (mkF m pc Ls (.int y :: .int x :: st)) := by
  subst hp hz; obtain ⟨_, _, _, _, _, Y, _⟩ := X; exact G.step fun t k => XS.imul Y.here E.1 rfl (hb E.2.2.2.1 hd) rfl k
theorem gIxor (E : oE p l e R s m args below meth c Z bytes own nm maxL ret) (X : oX p l e R s m args below meth c Z T V cells slots) {x y z : Int32} (hd : decode bytes pc = .ok (.ixor, 1)) (hz : (x ^^^ y) = z) (hp : pc + 1 = q) (G : oG p e below s Z R Ret T (mkF m q Ls (.int z :: st))) : oG p e below s Z R Ret T (mkF m pc Ls (.int y :: .int x :: st)) := by
  subst hp hz; obtain ⟨_, _, _, _, _, Y, _⟩ := X; exact G.step fun t k => XT.ixor Y.here E.1 rfl (hb E.2.2.2.1 hd) rfl k
theorem gIor (E : oE p l e R s m args below meth c Z bytes own nm maxL ret) (X : oX p l e R s m args below meth c Z T V cells slots) {x y z : Int32} (hd : decode bytes pc = .ok (.ior, 1)) (hz : (x ||| y) = z) (hp : pc + 1 = q) (G : oG p e below s Z R Ret T (mkF m q Ls (.int z :: st))) : oG p e below s Z R Ret T (mkF m pc Ls (.int y :: .int x :: st)) := by
  subst hp hz; obtain ⟨_, _, _, _, _, Y, _⟩ := X; exact G.step fun t k => XT.ior Y.here E.1 rfl (hb E.2.2.2.1 hd) rfl k
theorem gIshl (E : oE p l e R s m args below meth c Z bytes own nm maxL ret) (X : oX p l e R s m args below meth c Z T V cells slots) {x y z : Int32} (hd : decode bytes pc = .ok (.ishl, 1)) (hz : (x <<< (y &&& 31)) = z) (hp : pc + 1 = q) (G : oG p e below s Z R Ret T (mkF m q Ls (.int z :: st))) : oG p e below s Z R Ret T (mkF m pc Ls (.int y :: .int x :: st)) := by
  subst hp hz; obtain ⟨_, _, _, _, _, Y, _⟩ := X; exact G.step fun t k => XT.ishl Y.here E.1 rfl (hb E.2.2.2.1 hd) rfl k
theorem gIshr (E : oE p l e R s m args below meth c Z bytes own nm maxL ret) (X : oX p l e R s m args below meth c Z T V cells slots) {x y z : Int32} (hd : decode bytes pc = .ok (.ishr, 1)) (hz : (x >>> (y &&& 31)) = z) (hp : pc + 1 = q) (G : oG p e below s Z R Ret T (mkF m q Ls (.int z :: st))) : oG p e below s Z R Ret T (mkF m pc Ls (.int y :: .int x :: st)) := by
  subst hp hz; obtain ⟨_, _, _, _, _, Y, _⟩ := X; exact G.step fun t k => XT.ishr Y.here E.1 rfl (hb E.2.2.2.1 hd) rfl k
theorem gIushr (E : oE p l e R s m args below meth c Z bytes own nm maxL ret) (X : oX p l e R s m args below meth c Z T V cells slots) {x y z : Int32} (hd : decode bytes pc = .ok (.iushr, 1)) (hz : (XT.ushr x y) = z) (hp : pc + 1 = q) (G : oG p e below s Z R Ret T (mkF m q Ls (.int z :: st))) : oG p e below s Z R Ret T (mkF m pc Ls (.int y :: .int x :: st)) := by
  subst hp hz; obtain ⟨_, _, _, _, _, Y, _⟩ := X; exact G.step fun t k => XT.iushr Y.here E.1 rfl (hb E.2.2.2.1 hd) rfl k
theorem gIdiv (E : oE p l e R s m args below meth c Z bytes own nm maxL ret) (X : oX p l e R s m args below meth c Z T V cells slots) {x y z : Int32} (hd : decode bytes pc = .ok (.idiv, 1)) (hy : y ≠ 0) (hz : (x / y) = z) (hp : pc + 1 = q) (G : oG p e below s Z R Ret T (mkF m q Ls (.int z :: st))) : oG p e below s Z R Ret T (mkF m pc Ls (.int y :: .int x :: st)) := by
  subst hp hz; obtain ⟨_, _, _, _, _, Y, _⟩ := X; exact G.step fun t k => XS.idiv Y.here E.1 rfl (hb E.2.2.2.1 hd) rfl hy k
theorem gIrem (E : oE p l e R s m args below meth c Z bytes own nm maxL ret) (X : oX p l e R s m args below meth c Z T V cells slots) {x y z : Int32} (hd : decode bytes pc = .ok (.irem, 1)) (hy : y ≠ 0) (hz : (x - x / y * y) = z) (hp : pc + 1 = q) (G : oG p e below s Z R Ret T (mkF m q Ls (.int z :: st))) : oG p e below s Z R Ret T (mkF m pc Ls (.int y :: .int x :: st)) := by
  subst hp hz; obtain ⟨_, _, _, _, _, Y, _⟩ := X; exact G.step fun t k => XS.irem Y.here E.1 rfl (hb E.2.2.2.1 hd) rfl hy k
theorem gIneg (E : oE p l e R s m args below meth c Z bytes own nm maxL ret) (X : oX p l e R s m args below meth c Z T V cells slots) {x z : Int32} (hd : decode bytes pc = .ok (.ineg, 1)) (hz : (-x) = z) (hp : pc + 1 = q) (G : oG p e below s Z R Ret T (mkF m q Ls (.int z :: st))) : oG p e below s Z R Ret T (mkF m pc Ls (.int x :: st)) := by
  subst hp hz; obtain ⟨_, _, _, _, _, Y, _⟩ := X; exact G.step fun t k => XS.ineg Y.here E.1 rfl (hb E.2.2.2.1 hd) rfl k
theorem gLadd (E : oE p l e R s m args below meth c Z bytes own nm maxL ret) (X : oX p l e R s m args below meth c Z T V cells slots) {x y z : Int64} (hd : decode bytes pc = .ok (.ladd, 1)) (hz : (x + y) = z) (hp : pc + 1 = q) (G : oG p e below s Z R Ret T (mkF m q Ls (.long z :: st))) : oG p e below s Z R Ret T (mkF m pc Ls (.long y :: .long x :: st)) := by
  subst hp hz; obtain ⟨_, _, _, _, _, Y, _⟩ := X; exact G.step fun t k => XT.ladd Y.here E.1 rfl (hb E.2.2.2.1 hd) rfl k
theorem gLsub (E : oE p l e R s m args below meth c Z bytes own nm maxL ret) (X : oX p l e R s m args below meth c Z T V cells slots) {x y z : Int64} (hd : decode bytes pc = .ok (.lsub, 1)) (hz : (x - y) = z) (hp : pc + 1 = q) (G : oG p e below s Z R Ret T (mkF m q Ls (.long z :: st))) : oG p e below s Z R Ret T (mkF m pc Ls (.long y :: .long x :: st)) := by
  subst hp hz; obtain ⟨_, _, _, _, _, Y, _⟩ := X; exact G.step fun t k => XT.lsub Y.here E.1 rfl (hb E.2.2.2.1 hd) rfl k
theorem gLmul (E : oE p l e R s m args below meth c Z bytes own nm maxL ret) (X : oX p l e R s m args below meth c Z T V cells slots) {x y z : Int64} (hd : decode bytes pc = .ok (.lmul, 1)) (hz : (x * y) = z) (hp : pc + 1 = q) (G : oG p e below s Z R Ret T (mkF m q Ls (.long z :: st))) : oG p e below s Z R Ret T (mkF m pc Ls (.long y :: .long x :: st)) := by
  subst hp hz; obtain ⟨_, _, _, _, _, Y, _⟩ := X; exact G.step fun t k => XT.lmul Y.here E.1 rfl (hb E.2.2.2.1 hd) rfl k
theorem gLand (E : oE p l e R s m args below meth c Z bytes own nm maxL ret) (X : oX p l e R s m args below meth c Z T V cells slots) {x y z : Int64} (hd : decode bytes pc = .ok (.land, 1)) (hz : (x &&& y) = z) (hp : pc + 1 = q) (G : oG p e below s Z R Ret T (mkF m q Ls (.long z :: st))) : oG p e below s Z R Ret T (mkF m pc Ls (.long y :: .long x :: st)) := by
  subst hp hz; obtain ⟨_, _, _, _, _, Y, _⟩ := X; exact G.step fun t k => XT.land Y.here E.1 rfl (hb E.2.2.2.1 hd) rfl k
theorem gLor (E : oE p l e R s m args below meth c Z bytes own nm maxL ret) (X : oX p l e R s m args below meth c Z T V cells slots) {x y z : Int64} (hd : decode bytes pc = .ok (.lor, 1)) (hz : (x ||| y) = z) (hp : pc + 1 = q) (G : oG p e below s Z R Ret T (mkF m q Ls (.long z :: st))) : oG p e below s Z R Ret T (mkF m pc Ls (.long y :: .long x :: st)) := by
  subst hp hz; obtain ⟨_, _, _, _, _, Y, _⟩ := X; exact G.step fun t k => XT.lor Y.here E.1 rfl (hb E.2.2.2.1 hd) rfl k
theorem gLxor (E : oE p l e R s m args below meth c Z bytes own nm maxL ret) (X : oX p l e R s m args below meth c Z T V cells slots) {x y z : Int64} (hd : decode bytes pc = .ok (.lxor, 1)) (hz : (x ^^^ y) = z) (hp : pc + 1 = q) (G : oG p e below s Z R Ret T (mkF m q Ls (.long z :: st))) : oG p e below s Z R Ret T (mkF m pc Ls (.long y :: .long x :: st)) := by
  subst hp hz; obtain ⟨_, _, _, _, _, Y, _⟩ := X; exact G.step fun t k => XT.lxor Y.here E.1 rfl (hb E.2.2.2.1 hd) rfl k
theorem gLdiv (E : oE p l e R s m args below meth c Z bytes own nm maxL ret) (X : oX p l e R s m args below meth c Z T V cells slots) {x y z : Int64} (hd : decode bytes pc = .ok (.ldiv, 1)) (hy : y ≠ 0) (hz : (x / y) = z) (hp : pc + 1 = q) (G : oG p e below s Z R Ret T (mkF m q Ls (.long z :: st))) : oG p e below s Z R Ret T (mkF m pc Ls (.long y :: .long x :: st)) := by
  subst hp hz; obtain ⟨_, _, _, _, _, Y, _⟩ := X; exact G.step fun t k => XT.ldiv Y.here E.1 rfl (hb E.2.2.2.1 hd) rfl hy k
theorem gLrem (E : oE p l e R s m args below meth c Z bytes own nm maxL ret) (X : oX p l e R s m args below meth c Z T V cells slots) {x y z : Int64} (hd : decode bytes pc = .ok (.lrem, 1)) (hy : y ≠ 0) (hz : (x - x / y * y) = z) (hp : pc + 1 = q) (G : oG p e below s Z R Ret T (mkF m q Ls (.long z :: st))) : oG p e below s Z R Ret T (mkF m pc Ls (.long y :: .long x :: st)) := by
  subst hp hz; obtain ⟨_, _, _, _, _, Y, _⟩ := X; exact G.step fun t k => XT.lrem Y.here E.1 rfl (hb E.2.2.2.1 hd) rfl hy k
theorem gLneg (E : oE p l e R s m args below meth c Z bytes own nm maxL ret) (X : oX p l e R s m args below meth c Z T V cells slots) {x z : Int64} (hd : decode bytes pc = .ok (.lneg, 1)) (hz : (-x) = z) (hp : pc + 1 = q) (G : oG p e below s Z R Ret T (mkF m q Ls (.long z :: st))) : oG p e below s Z R Ret T (mkF m pc Ls (.long x :: st)) := by
  subst hp hz; obtain ⟨_, _, _, _, _, Y, _⟩ := X; exact G.step fun t k => XT.lneg Y.here E.1 rfl (hb E.2.2.2.1 hd) rfl k
theorem gLshl (E : oE p l e R s m args below meth c Z bytes own nm maxL ret) (X : oX p l e R s m args below meth c Z T V cells slots) {x z : Int64} {y : Int32} (hd : decode bytes pc = .ok (.lshl, 1)) (hz : (x <<< (y.toInt64 &&& 63)) = z) (hp : pc + 1 = q) (G : oG p e below s Z R Ret T (mkF m q Ls (.long z :: st))) : oG p e below s Z R Ret T (mkF m pc Ls (.int y :: .long x :: st)) := by
  subst hp hz; obtain ⟨_, _, _, _, _, Y, _⟩ := X; exact G.step fun t k => XT.lshl Y.here E.1 rfl (hb E.2.2.2.1 hd) rfl k
theorem gLshr (E : oE p l e R s m args below meth c Z bytes own nm maxL ret) (X : oX p l e R s m args below meth c Z T V cells slots) {x z : Int64} {y : Int32} (hd : decode bytes pc = .ok (.lshr, 1)) (hz : (x >>> (y.toInt64 &&& 63)) = z) (hp : pc + 1 = q) (G : oG p e below s Z R Ret T (mkF m q Ls (.long z :: st))) : oG p e below s Z R Ret T (mkF m pc Ls (.int y :: .long x :: st)) := by
  subst hp hz; obtain ⟨_, _, _, _, _, Y, _⟩ := X; exact G.step fun t k => XT.lshr Y.here E.1 rfl (hb E.2.2.2.1 hd) rfl k
theorem gLushr (E : oE p l e R s m args below meth c Z bytes own nm maxL ret) (X : oX p l e R s m args below meth c Z T V cells slots) {x z : Int64} {y : Int32} (hd : decode bytes pc = .ok (.lushr, 1)) (hz : (XT.ushrL x y) = z) (hp : pc + 1 = q) (G : oG p e below s Z R Ret T (mkF m q Ls (.long z :: st))) : oG p e below s Z R Ret T (mkF m pc Ls (.int y :: .long x :: st)) := by
  subst hp hz; obtain ⟨_, _, _, _, _, Y, _⟩ := X; exact G.step fun t k => XT.lushr Y.here E.1 rfl (hb E.2.2.2.1 hd) rfl k
theorem gLcmp (E : oE p l e R s m args below meth c Z bytes own nm maxL ret) (X : oX p l e R s m args below meth c Z T V cells slots) {x y : Int64} (hd : decode bytes pc = .ok (.lcmp, 1))  (hp : pc + 1 = q) (G : oG p e below s Z R Ret T (mkF m q Ls (.int (XT.cmpL x y) :: st))) : oG p e below s Z R Ret T (mkF m pc Ls (.long y :: .long x :: st)) := by
  subst hp ; obtain ⟨_, _, _, _, _, Y, _⟩ := X; exact G.step fun t k => XT.lcmp Y.here E.1 rfl (hb E.2.2.2.1 hd) rfl k
theorem gI2l (E : oE p l e R s m args below meth c Z bytes own nm maxL ret) (X : oX p l e R s m args below meth c Z T V cells slots) {x : Int32} {z : Int64} (hd : decode bytes pc = .ok (.i2l, 1)) (hz : x.toInt64 = z) (hp : pc + 1 = q) (G : oG p e below s Z R Ret T (mkF m q Ls (.long z :: st))) : oG p e below s Z R Ret T (mkF m pc Ls (.int x :: st)) := by
  subst hp hz; obtain ⟨_, _, _, _, _, Y, _⟩ := X; exact G.step fun t k => XT.i2l Y.here E.1 rfl (hb E.2.2.2.1 hd) rfl k
theorem gL2i (E : oE p l e R s m args below meth c Z bytes own nm maxL ret) (X : oX p l e R s m args below meth c Z T V cells slots) {x : Int64} {z : Int32} (hd : decode bytes pc = .ok (.l2i, 1)) (hz : x.toInt32 = z) (hp : pc + 1 = q) (G : oG p e below s Z R Ret T (mkF m q Ls (.int z :: st))) : oG p e below s Z R Ret T (mkF m pc Ls (.long x :: st)) := by
  subst hp hz; obtain ⟨_, _, _, _, _, Y, _⟩ := X; exact G.step fun t k => XT.l2i Y.here E.1 rfl (hb E.2.2.2.1 hd) rfl k
theorem gI2b (E : oE p l e R s m args below meth c Z bytes own nm maxL ret) (X : oX p l e R s m args below meth c Z T V cells slots) {x z : Int32} (hd : decode bytes pc = .ok (.i2b, 1)) (hz : x.toInt8.toInt32 = z) (hp : pc + 1 = q) (G : oG p e below s Z R Ret T (mkF m q Ls (.int z :: st))) : oG p e below s Z R Ret T (mkF m pc Ls (.int x :: st)) := by
  subst hp hz; obtain ⟨_, _, _, _, _, Y, _⟩ := X; exact G.step fun t k => XT.i2b Y.here E.1 rfl (hb E.2.2.2.1 hd) rfl k
theorem gI2c (E : oE p l e R s m args below meth c Z bytes own nm maxL ret) (X : oX p l e R s m args below meth c Z T V cells slots) {x z : Int32} (hd : decode bytes pc = .ok (.i2c, 1)) (hz : x.toUInt32.toUInt16.toUInt32.toInt32 = z) (hp : pc + 1 = q) (G : oG p e below s Z R Ret T (mkF m q Ls (.int z :: st))) : oG p e below s Z R Ret T (mkF m pc Ls (.int x :: st)) := by
  subst hp hz; obtain ⟨_, _, _, _, _, Y, _⟩ := X; exact G.step fun t k => XT.i2c Y.here E.1 rfl (hb E.2.2.2.1 hd) rfl k
theorem gI2s (E : oE p l e R s m args below meth c Z bytes own nm maxL ret) (X : oX p l e R s m args below meth c Z T V cells slots) {x z : Int32} (hd : decode bytes pc = .ok (.i2s, 1)) (hz : x.toInt16.toInt32 = z) (hp : pc + 1 = q) (G : oG p e below s Z R Ret T (mkF m q Ls (.int z :: st))) : oG p e below s Z R Ret T (mkF m pc Ls (.int x :: st)) := by
  subst hp hz; obtain ⟨_, _, _, _, _, Y, _⟩ := X; exact G.step fun t k => XT.i2s Y.here E.1 rfl (hb E.2.2.2.1 hd) rfl k
theorem gDup (E : oE p l e R s m args below meth c Z bytes own nm maxL ret) (X : oX p l e R s m args below meth c Z T V cells slots) {v : Value} (hd : decode bytes pc = .ok (.dup, 1)) (hc : v.category = 1) (hp : pc + 1 = q) (G : oG p e below s Z R Ret T (mkF m q Ls (v :: v :: st))) : oG p e below s Z R Ret T (mkF m pc Ls (v :: st)) := by
  subst hp ; obtain ⟨_, _, _, _, _, Y, _⟩ := X; exact G.step fun t k => XS.dup Y.here E.1 rfl (hb E.2.2.2.1 hd) rfl hc k
theorem gPop (E : oE p l e R s m args below meth c Z bytes own nm maxL ret) (X : oX p l e R s m args below meth c Z T V cells slots) {v : Value} (hd : decode bytes pc = .ok (.pop, 1)) (hc : v.category = 1) (hp : pc + 1 = q) (G : oG p e below s Z R Ret T (mkF m q Ls st)) : oG p e below s Z R Ret T (mkF m pc Ls (v :: st)) := by
  subst hp ; obtain ⟨_, _, _, _, _, Y, _⟩ := X; exact G.step fun t k => XT.pop Y.here E.1 rfl (hb E.2.2.2.1 hd) rfl hc k
theorem gDupX1 (E : oE p l e R s m args below meth c Z bytes own nm maxL ret) (X : oX p l e R s m args below meth c Z T V cells slots) {v w : Value} (hd : decode bytes pc = .ok (.dup_x1, 1)) (hc : v.category = 1) (hc' : w.category = 1) (hp : pc + 1 = q) (G : oG p e below s Z R Ret T (mkF m q Ls (v :: w :: v :: st))) : oG p e below s Z R Ret T (mkF m pc Ls (v :: w :: st)) := by
  subst hp ; obtain ⟨_, _, _, _, _, Y, _⟩ := X; exact G.step fun t k => XT.dupX1 Y.here E.1 rfl (hb E.2.2.2.1 hd) rfl hc hc' k
theorem gDup2 (E : oE p l e R s m args below meth c Z bytes own nm maxL ret) (X : oX p l e R s m args below meth c Z T V cells slots) {v w : Value} (hd : decode bytes pc = .ok (.dup2, 1)) (hc : v.category = 1) (hc' : w.category = 1) (hp : pc + 1 = q) (G : oG p e below s Z R Ret T (mkF m q Ls (v :: w :: v :: w :: st))) : oG p e below s Z R Ret T (mkF m pc Ls (v :: w :: st)) := by
  subst hp ; obtain ⟨_, _, _, _, _, Y, _⟩ := X; exact G.step fun t k => XT.dup2 Y.here E.1 rfl (hb E.2.2.2.1 hd) rfl hc hc' k
theorem gDup2L (E : oE p l e R s m args below meth c Z bytes own nm maxL ret) (X : oX p l e R s m args below meth c Z T V cells slots) {x : Int64} (hd : decode bytes pc = .ok (.dup2, 1))  (hp : pc + 1 = q) (G : oG p e below s Z R Ret T (mkF m q Ls (.long x :: .long x :: st))) : oG p e below s Z R Ret T (mkF m pc Ls (.long x :: st)) := by
  subst hp ; obtain ⟨_, _, _, _, _, Y, _⟩ := X; exact G.step fun t k => XT.dup2L Y.here E.1 rfl (hb E.2.2.2.1 hd) rfl k
theorem gIstoreN (E : oE p l e R s m args below meth c Z bytes own nm maxL ret) (X : oX p l e R s m args below meth c Z T V cells slots) {k : Fin 4} {x : Int32} {l' : Array Slot} (hd : decode bytes pc = .ok (.istore_n k, 1)) (hl : storeLocals Ls k.val (.int x) = some l') (hp : pc + 1 = q) (G : oG p e below s Z R Ret T (mkF m q l' st)) : oG p e below s Z R Ret T (mkF m pc Ls (.int x :: st)) := by
  subst hp ; obtain ⟨_, _, _, _, _, Y, _⟩ := X; exact G.step fun t k => XS.istoreN Y.here E.1 rfl (hb E.2.2.2.1 hd) rfl hl k
theorem gIstore (E : oE p l e R s m args below meth c Z bytes own nm maxL ret) (X : oX p l e R s m args below meth c Z T V cells slots) {k : Nat} {x : Int32} {l' : Array Slot} (hd : decode bytes pc = .ok (.istore k, 2)) (hl : storeLocals Ls k (.int x) = some l') (hp : pc + 2 = q) (G : oG p e below s Z R Ret T (mkF m q l' st)) : oG p e below s Z R Ret T (mkF m pc Ls (.int x :: st)) := by
  subst hp ; obtain ⟨_, _, _, _, _, Y, _⟩ := X; exact G.step fun t k => XS.istore Y.here E.1 rfl (hb E.2.2.2.1 hd) rfl hl k
theorem gLstoreN (E : oE p l e R s m args below meth c Z bytes own nm maxL ret) (X : oX p l e R s m args below meth c Z T V cells slots) {k : Fin 4} {x : Int64} {l' : Array Slot} (hd : decode bytes pc = .ok (.lstore_n k, 1)) (hl : storeLocals Ls k.val (.long x) = some l') (hp : pc + 1 = q) (G : oG p e below s Z R Ret T (mkF m q l' st)) : oG p e below s Z R Ret T (mkF m pc Ls (.long x :: st)) := by
  subst hp ; obtain ⟨_, _, _, _, _, Y, _⟩ := X; exact G.step fun t k => XT.lstoreN Y.here E.1 rfl (hb E.2.2.2.1 hd) rfl hl k
theorem gLstore (E : oE p l e R s m args below meth c Z bytes own nm maxL ret) (X : oX p l e R s m args below meth c Z T V cells slots) {k : Nat} {x : Int64} {l' : Array Slot} (hd : decode bytes pc = .ok (.lstore k, 2)) (hl : storeLocals Ls k (.long x) = some l') (hp : pc + 2 = q) (G : oG p e below s Z R Ret T (mkF m q l' st)) : oG p e below s Z R Ret T (mkF m pc Ls (.long x :: st)) := by
  subst hp ; obtain ⟨_, _, _, _, _, Y, _⟩ := X; exact G.step fun t k => XT.lstore Y.here E.1 rfl (hb E.2.2.2.1 hd) rfl hl k
theorem gAstoreN (E : oE p l e R s m args below meth c Z bytes own nm maxL ret) (X : oX p l e R s m args below meth c Z T V cells slots) {k : Fin 4} {v : Value} {l' : Array Slot} (hd : decode bytes pc = .ok (.astore_n k, 1)) (hv : v.isRef = true) (hl : storeLocals Ls k.val v = some l') (hp : pc + 1 = q) (G : oG p e below s Z R Ret T (mkF m q l' st)) : oG p e below s Z R Ret T (mkF m pc Ls (v :: st)) := by
  subst hp ; obtain ⟨_, _, _, _, _, Y, _⟩ := X; exact G.step fun t k => XS.astoreN Y.here E.1 rfl (hb E.2.2.2.1 hd) rfl hv hl k
theorem gAstore (E : oE p l e R s m args below meth c Z bytes own nm maxL ret) (X : oX p l e R s m args below meth c Z T V cells slots) {k : Nat} {v : Value} {l' : Array Slot} (hd : decode bytes pc = .ok (.astore k, 2)) (hv : v.isRef = true) (hl : storeLocals Ls k v = some l') (hp : pc + 2 = q) (G : oG p e below s Z R Ret T (mkF m q l' st)) : oG p e below s Z R Ret T (mkF m pc Ls (v :: st)) := by
  subst hp ; obtain ⟨_, _, _, _, _, Y, _⟩ := X; exact G.step fun t k => XS.astore Y.here E.1 rfl (hb E.2.2.2.1 hd) rfl hv hl k
theorem gIinc (E : oE p l e R s m args below meth c Z bytes own nm maxL ret) (X : oX p l e R s m args below meth c Z T V cells slots) {k : Nat} {cst : Int} {x : Int32} {l' : Array Slot} (v : Int32) (hd : decode bytes pc = .ok (.iinc k cst, 3)) (hv : Int32.ofInt cst = v) (hl : Ls[k]? = some (.val (.int x))) (hl' : storeLocals Ls k (.int (x + v)) = some l') (hp : pc + 3 = q) (G : oG p e below s Z R Ret T (mkF m q l' st)) : oG p e below s Z R Ret T (mkF m pc Ls st) := by
  subst hp ; obtain ⟨_, _, _, _, _, Y, _⟩ := X; exact G.step fun t k => XT.iincV Y.here E.1 rfl v (hb E.2.2.2.1 hd) hv hl hl' k
theorem gIincV (E : oE p l e R s m args below meth c Z bytes own nm maxL ret) (X : oX p l e R s m args below meth c Z T V cells slots) {k : Nat} {cst : Int} {x : Int32} {l' : Array Slot} (v z : Int32) (hd : decode bytes pc = .ok (.iinc k cst, 3)) (hv : Int32.ofInt cst = v) (hl : Ls[k]? = some (.val (.int x))) (hz : x + v = z) (hl' : storeLocals Ls k (.int z) = some l') (hp : pc + 3 = q) (G : oG p e below s Z R Ret T (mkF m q l' st)) : oG p e below s Z R Ret T (mkF m pc Ls st) := by
  subst hp hz; obtain ⟨_, _, _, _, _, Y, _⟩ := X; exact G.step fun t k => XT.iincV Y.here E.1 rfl v (hb E.2.2.2.1 hd) hv hl hl' k
theorem gGoto (E : oE p l e R s m args below meth c Z bytes own nm maxL ret) (X : oX p l e R s m args below meth c Z T V cells slots) {o : Int} (hd : decode bytes pc = .ok (.goto o, 3)) (ho : 0 ≤ (pc : Int) + o) (hp : ((pc : Int) + o).toNat = q) (G : oG p e below s Z R Ret T (mkF m q Ls st)) : oG p e below s Z R Ret T (mkF m pc Ls st) := by
  obtain ⟨_, _, _, _, _, Y, _⟩ := X; exact G.step fun t k => XS.goto Y.here E.1 rfl (pc0 := pc) rfl (hb E.2.2.2.1 hd) ho hp k
theorem gIc_eq (E : oE p l e R s m args below meth c Z bytes own nm maxL ret) (X : oX p l e R s m args below meth c Z T V cells slots) {x y : Int32} {o : Int} {q' : Nat} (hd : decode bytes pc = .ok (.if_icmp .eq o, 3)) (ho : 0 ≤ (pc : Int) + o) (hp : ((pc : Int) + o).toNat = q) (hp' : pc + 3 = q') (G1 : x = y → oG p e below s Z R Ret T (mkF m q Ls st)) (G0 : ¬ (x = y) → oG p e below s Z R Ret T (mkF m q' Ls st)) : oG p e below s Z R Ret T (mkF m pc Ls (.int y :: .int x :: st)) := by
  obtain ⟨_, _, _, _, _, Y, _⟩ := X
  by_cases hq : x = y
  · exact (G1 hq).step fun t k => XS.icmpYes Y.here E.1 rfl (pc0 := pc) rfl (hb E.2.2.2.1 hd) rfl (XT.ii_eq_t hq) ho hp k
  · subst hp'; exact (G0 hq).step fun t k => XS.icmpNo Y.here E.1 rfl (hb E.2.2.2.1 hd) rfl (XT.ii_eq_f hq) k
theorem gIf_eq (E : oE p l e R s m args below meth c Z bytes own nm maxL ret) (X : oX p l e R s m args below meth c Z T V cells slots) {x : Int32} {o : Int} {q' : Nat} (hd : decode bytes pc = .ok (.ifCond .eq o, 3)) (ho : 0 ≤ (pc : Int) + o) (hp : ((pc : Int) + o).toNat = q) (hp' : pc + 3 = q') (G1 : x = 0 → oG p e below s Z R Ret T (mkF m q Ls st)) (G0 : ¬ (x = 0) → oG p e below s Z R Ret T (mkF m q' Ls st)) : oG p e below s Z R Ret T (mkF m pc Ls (.int x :: st)) := by
  obtain ⟨_, _, _, _, _, Y, _⟩ := X
  by_cases hq : x = 0
  · exact (G1 hq).step fun t k => XS.ifYes Y.here E.1 rfl (pc0 := pc) rfl (hb E.2.2.2.1 hd) rfl (XT.i0_eq_t hq) ho hp k
  · subst hp'; exact (G0 hq).step fun t k => XS.ifNo Y.here E.1 rfl (hb E.2.2.2.1 hd) rfl (XT.i0_eq_f hq) k
theorem gLc_eq (E : oE p l e R s m args below meth c Z bytes own nm maxL ret) (X : oX p l e R s m args below meth c Z T V cells slots) {x y : Int64} {o : Int} {q' : Nat} (hd : decode bytes pc = .ok (.ifCond .eq o, 3)) (ho : 0 ≤ (pc : Int) + o) (hp : ((pc : Int) + o).toNat = q) (hp' : pc + 3 = q') (G1 : x = y → oG p e below s Z R Ret T (mkF m q Ls st)) (G0 : ¬ (x = y) → oG p e below s Z R Ret T (mkF m q' Ls st)) : oG p e below s Z R Ret T (mkF m pc Ls (.int (XT.cmpL x y) :: st)) := by
  obtain ⟨_, _, _, _, _, Y, _⟩ := X
  by_cases hq : x = y
  · exact (G1 hq).step fun t k => XS.ifYes Y.here E.1 rfl (pc0 := pc) rfl (hb E.2.2.2.1 hd) rfl (XT.ll_eq_t hq) ho hp k
  · subst hp'; exact (G0 hq).step fun t k => XS.ifNo Y.here E.1 rfl (hb E.2.2.2.1 hd) rfl (XT.ll_eq_f hq) k
theorem gIc_ne (E : oE p l e R s m args below meth c Z bytes own nm maxL ret) (X : oX p l e R s m args below meth c Z T V cells slots) {x y : Int32} {o : Int} {q' : Nat} (hd : decode bytes pc = .ok (.if_icmp .ne o, 3)) (ho : 0 ≤ (pc : Int) + o) (hp : ((pc : Int) + o).toNat = q) (hp' : pc + 3 = q') (G1 : ¬ (x = y) → oG p e below s Z R Ret T (mkF m q Ls st)) (G0 : x = y → oG p e below s Z R Ret T (mkF m q' Ls st)) : oG p e below s Z R Ret T (mkF m pc Ls (.int y :: .int x :: st)) := by
  obtain ⟨_, _, _, _, _, Y, _⟩ := X
  by_cases hq : x = y
  · subst hp'; exact (G0 hq).step fun t k => XS.icmpNo Y.here E.1 rfl (hb E.2.2.2.1 hd) rfl (XT.ii_ne_f hq) k
  · exact (G1 hq).step fun t k => XS.icmpYes Y.here E.1 rfl (pc0 := pc) rfl (hb E.2.2.2.1 hd) rfl (XT.ii_ne_t hq) ho hp k
theorem gIf_ne (E : oE p l e R s m args below meth c Z bytes own nm maxL ret) (X : oX p l e R s m args below meth c Z T V cells slots) {x : Int32} {o : Int} {q' : Nat} (hd : decode bytes pc = .ok (.ifCond .ne o, 3)) (ho : 0 ≤ (pc : Int) + o) (hp : ((pc : Int) + o).toNat = q) (hp' : pc + 3 = q') (G1 : ¬ (x = 0) → oG p e below s Z R Ret T (mkF m q Ls st)) (G0 : x = 0 → oG p e below s Z R Ret T (mkF m q' Ls st)) : oG p e below s Z R Ret T (mkF m pc Ls (.int x :: st)) := by
  obtain ⟨_, _, _, _, _, Y, _⟩ := X
  by_cases hq : x = 0
  · subst hp'; exact (G0 hq).step fun t k => XS.ifNo Y.here E.1 rfl (hb E.2.2.2.1 hd) rfl (XT.i0_ne_f hq) k
  · exact (G1 hq).step fun t k => XS.ifYes Y.here E.1 rfl (pc0 := pc) rfl (hb E.2.2.2.1 hd) rfl (XT.i0_ne_t hq) ho hp k
theorem gLc_ne (E : oE p l e R s m args below meth c Z bytes own nm maxL ret) (X : oX p l e R s m args below meth c Z T V cells slots) {x y : Int64} {o : Int} {q' : Nat} (hd : decode bytes pc = .ok (.ifCond .ne o, 3)) (ho : 0 ≤ (pc : Int) + o) (hp : ((pc : Int) + o).toNat = q) (hp' : pc + 3 = q') (G1 : ¬ (x = y) → oG p e below s Z R Ret T (mkF m q Ls st)) (G0 : x = y → oG p e below s Z R Ret T (mkF m q' Ls st)) : oG p e below s Z R Ret T (mkF m pc Ls (.int (XT.cmpL x y) :: st)) := by
  obtain ⟨_, _, _, _, _, Y, _⟩ := X
  by_cases hq : x = y
  · subst hp'; exact (G0 hq).step fun t k => XS.ifNo Y.here E.1 rfl (hb E.2.2.2.1 hd) rfl (XT.ll_ne_f hq) k
  · exact (G1 hq).step fun t k => XS.ifYes Y.here E.1 rfl (pc0 := pc) rfl (hb E.2.2.2.1 hd) rfl (XT.ll_ne_t hq) ho hp k
theorem gIc_lt (E : oE p l e R s m args below meth c Z bytes own nm maxL ret) (X : oX p l e R s m args below meth c Z T V cells slots) {x y : Int32} {o : Int} {q' : Nat} (hd : decode bytes pc = .ok (.if_icmp .lt o, 3)) (ho : 0 ≤ (pc : Int) + o) (hp : ((pc : Int) + o).toNat = q) (hp' : pc + 3 = q') (G1 : x < y → oG p e below s Z R Ret T (mkF m q Ls st)) (G0 : ¬ (x < y) → oG p e below s Z R Ret T (mkF m q' Ls st)) : oG p e below s Z R Ret T (mkF m pc Ls (.int y :: .int x :: st)) := by
  obtain ⟨_, _, _, _, _, Y, _⟩ := X
  by_cases hq : x < y
  · exact (G1 hq).step fun t k => XS.icmpYes Y.here E.1 rfl (pc0 := pc) rfl (hb E.2.2.2.1 hd) rfl (XT.ii_lt_t hq) ho hp k
  · subst hp'; exact (G0 hq).step fun t k => XS.icmpNo Y.here E.1 rfl (hb E.2.2.2.1 hd) rfl (XT.ii_lt_f hq) k
theorem gIf_lt (E : oE p l e R s m args below meth c Z bytes own nm maxL ret) (X : oX p l e R s m args below meth c Z T V cells slots) {x : Int32} {o : Int} {q' : Nat} (hd : decode bytes pc = .ok (.ifCond .lt o, 3)) (ho : 0 ≤ (pc : Int) + o) (hp : ((pc : Int) + o).toNat = q) (hp' : pc + 3 = q') (G1 : x < 0 → oG p e below s Z R Ret T (mkF m q Ls st)) (G0 : ¬ (x < 0) → oG p e below s Z R Ret T (mkF m q' Ls st)) : oG p e below s Z R Ret T (mkF m pc Ls (.int x :: st)) := by
  obtain ⟨_, _, _, _, _, Y, _⟩ := X
  by_cases hq : x < 0
  · exact (G1 hq).step fun t k => XS.ifYes Y.here E.1 rfl (pc0 := pc) rfl (hb E.2.2.2.1 hd) rfl (XT.i0_lt_t hq) ho hp k
  · subst hp'; exact (G0 hq).step fun t k => XS.ifNo Y.here E.1 rfl (hb E.2.2.2.1 hd) rfl (XT.i0_lt_f hq) k
theorem gLc_lt (E : oE p l e R s m args below meth c Z bytes own nm maxL ret) (X : oX p l e R s m args below meth c Z T V cells slots) {x y : Int64} {o : Int} {q' : Nat} (hd : decode bytes pc = .ok (.ifCond .lt o, 3)) (ho : 0 ≤ (pc : Int) + o) (hp : ((pc : Int) + o).toNat = q) (hp' : pc + 3 = q') (G1 : x < y → oG p e below s Z R Ret T (mkF m q Ls st)) (G0 : ¬ (x < y) → oG p e below s Z R Ret T (mkF m q' Ls st)) : oG p e below s Z R Ret T (mkF m pc Ls (.int (XT.cmpL x y) :: st)) := by
  obtain ⟨_, _, _, _, _, Y, _⟩ := X
  by_cases hq : x < y
  · exact (G1 hq).step fun t k => XS.ifYes Y.here E.1 rfl (pc0 := pc) rfl (hb E.2.2.2.1 hd) rfl (XT.ll_lt_t hq) ho hp k
  · subst hp'; exact (G0 hq).step fun t k => XS.ifNo Y.here E.1 rfl (hb E.2.2.2.1 hd) rfl (XT.ll_lt_f hq) k
theorem gIc_ge (E : oE p l e R s m args below meth c Z bytes own nm maxL ret) (X : oX p l e R s m args below meth c Z T V cells slots) {x y : Int32} {o : Int} {q' : Nat} (hd : decode bytes pc = .ok (.if_icmp .ge o, 3)) (ho : 0 ≤ (pc : Int) + o) (hp : ((pc : Int) + o).toNat = q) (hp' : pc + 3 = q') (G1 : ¬ (x < y) → oG p e below s Z R Ret T (mkF m q Ls st)) (G0 : x < y → oG p e below s Z R Ret T (mkF m q' Ls st)) : oG p e below s Z R Ret T (mkF m pc Ls (.int y :: .int x :: st)) := by
  obtain ⟨_, _, _, _, _, Y, _⟩ := X
  by_cases hq : x < y
  · subst hp'; exact (G0 hq).step fun t k => XS.icmpNo Y.here E.1 rfl (hb E.2.2.2.1 hd) rfl (XT.ii_ge_f hq) k
  · exact (G1 hq).step fun t k => XS.icmpYes Y.here E.1 rfl (pc0 := pc) rfl (hb E.2.2.2.1 hd) rfl (XT.ii_ge_t hq) ho hp k
theorem gIf_ge (E : oE p l e R s m args below meth c Z bytes own nm maxL ret) (X : oX p l e R s m args below meth c Z T V cells slots) {x : Int32} {o : Int} {q' : Nat} (hd : decode bytes pc = .ok (.ifCond .ge o, 3)) (ho : 0 ≤ (pc : Int) + o) (hp : ((pc : Int) + o).toNat = q) (hp' : pc + 3 = q') (G1 : ¬ (x < 0) → oG p e below s Z R Ret T (mkF m q Ls st)) (G0 : x < 0 → oG p e below s Z R Ret T (mkF m q' Ls st)) : oG p e below s Z R Ret T (mkF m pc Ls (.int x :: st)) := by
  obtain ⟨_, _, _, _, _, Y, _⟩ := X
  by_cases hq : x < 0
  · subst hp'; exact (G0 hq).step fun t k => XS.ifNo Y.here E.1 rfl (hb E.2.2.2.1 hd) rfl (XT.i0_ge_f hq) k
  · exact (G1 hq).step fun t k => XS.ifYes Y.here E.1 rfl (pc0 := pc) rfl (hb E.2.2.2.1 hd) rfl (XT.i0_ge_t hq) ho hp k
theorem gLc_ge (E : oE p l e R s m args below meth c Z bytes own nm maxL ret) (X : oX p l e R s m args below meth c Z T V cells slots) {x y : Int64} {o : Int} {q' : Nat} (hd : decode bytes pc = .ok (.ifCond .ge o, 3)) (ho : 0 ≤ (pc : Int) + o) (hp : ((pc : Int) + o).toNat = q) (hp' : pc + 3 = q') (G1 : ¬ (x < y) → oG p e below s Z R Ret T (mkF m q Ls st)) (G0 : x < y → oG p e below s Z R Ret T (mkF m q' Ls st)) : oG p e below s Z R Ret T (mkF m pc Ls (.int (XT.cmpL x y) :: st)) := by
  obtain ⟨_, _, _, _, _, Y, _⟩ := X
  by_cases hq : x < y
  · subst hp'; exact (G0 hq).step fun t k => XS.ifNo Y.here E.1 rfl (hb E.2.2.2.1 hd) rfl (XT.ll_ge_f hq) k
  · exact (G1 hq).step fun t k => XS.ifYes Y.here E.1 rfl (pc0 := pc) rfl (hb E.2.2.2.1 hd) rfl (XT.ll_ge_t hq) ho hp k
theorem gIc_gt (E : oE p l e R s m args below meth c Z bytes own nm maxL ret) (X : oX p l e R s m args below meth c Z T V cells slots) {x y : Int32} {o : Int} {q' : Nat} (hd : decode bytes pc = .ok (.if_icmp .gt o, 3)) (ho : 0 ≤ (pc : Int) + o) (hp : ((pc : Int) + o).toNat = q) (hp' : pc + 3 = q') (G1 : y < x → oG p e below s Z R Ret T (mkF m q Ls st)) (G0 : ¬ (y < x) → oG p e below s Z R Ret T (mkF m q' Ls st)) : oG p e below s Z R Ret T (mkF m pc Ls (.int y :: .int x :: st)) := by
  obtain ⟨_, _, _, _, _, Y, _⟩ := X
  by_cases hq : y < x
  · exact (G1 hq).step fun t k => XS.icmpYes Y.here E.1 rfl (pc0 := pc) rfl (hb E.2.2.2.1 hd) rfl (XT.ii_gt_t hq) ho hp k
  · subst hp'; exact (G0 hq).step fun t k => XS.icmpNo Y.here E.1 rfl (hb E.2.2.2.1 hd) rfl (XT.ii_gt_f hq) k
theorem gIf_gt (E : oE p l e R s m args below meth c Z bytes own nm maxL ret) (X : oX p l e R s m args below meth c Z T V cells slots) {x : Int32} {o : Int} {q' : Nat} (hd : decode bytes pc = .ok (.ifCond .gt o, 3)) (ho : 0 ≤ (pc : Int) + o) (hp : ((pc : Int) + o).toNat = q) (hp' : pc + 3 = q') (G1 : 0 < x → oG p e below s Z R Ret T (mkF m q Ls st)) (G0 : ¬ (0 < x) → oG p e below s Z R Ret T (mkF m q' Ls st)) : oG p e below s Z R Ret T (mkF m pc Ls (.int x :: st)) := by
  obtain ⟨_, _, _, _, _, Y, _⟩ := X
  by_cases hq : 0 < x
  · exact (G1 hq).step fun t k => XS.ifYes Y.here E.1 rfl (pc0 := pc) rfl (hb E.2.2.2.1 hd) rfl (XT.i0_gt_t hq) ho hp k
  · subst hp'; exact (G0 hq).step fun t k => XS.ifNo Y.here E.1 rfl (hb E.2.2.2.1 hd) rfl (XT.i0_gt_f hq) k
theorem gLc_gt (E : oE p l e R s m args below meth c Z bytes own nm maxL ret) (X : oX p l e R s m args below meth c Z T V cells slots) {x y : Int64} {o : Int} {q' : Nat} (hd : decode bytes pc = .ok (.ifCond .gt o, 3)) (ho : 0 ≤ (pc : Int) + o) (hp : ((pc : Int) + o).toNat = q) (hp' : pc + 3 = q') (G1 : y < x → oG p e below s Z R Ret T (mkF m q Ls st)) (G0 : ¬ (y < x) → oG p e below s Z R Ret T (mkF m q' Ls st)) : oG p e below s Z R Ret T (mkF m pc Ls (.int (XT.cmpL x y) :: st)) := by
  obtain ⟨_, _, _, _, _, Y, _⟩ := X
  by_cases hq : y < x
  · exact (G1 hq).step fun t k => XS.ifYes Y.here E.1 rfl (pc0 := pc) rfl (hb E.2.2.2.1 hd) rfl (XT.ll_gt_t hq) ho hp k
  · subst hp'; exact (G0 hq).step fun t k => XS.ifNo Y.here E.1 rfl (hb E.2.2.2.1 hd) rfl (XT.ll_gt_f hq) k
theorem gIc_le (E : oE p l e R s m args below meth c Z bytes own nm maxL ret) (X : oX p l e R s m args below meth c Z T V cells slots) {x y : Int32} {o : Int} {q' : Nat} (hd : decode bytes pc = .ok (.if_icmp .le o, 3)) (ho : 0 ≤ (pc : Int) + o) (hp : ((pc : Int) + o).toNat = q) (hp' : pc + 3 = q') (G1 : ¬ (y < x) → oG p e below s Z R Ret T (mkF m q Ls st)) (G0 : y < x → oG p e below s Z R Ret T (mkF m q' Ls st)) : oG p e below s Z R Ret T (mkF m pc Ls (.int y :: .int x :: st)) := by
  obtain ⟨_, _, _, _, _, Y, _⟩ := X
  by_cases hq : y < x
  · subst hp'; exact (G0 hq).step fun t k => XS.icmpNo Y.here E.1 rfl (hb E.2.2.2.1 hd) rfl (XT.ii_le_f hq) k
  · exact (G1 hq).step fun t k => XS.icmpYes Y.here E.1 rfl (pc0 := pc) rfl (hb E.2.2.2.1 hd) rfl (XT.ii_le_t hq) ho hp k
theorem gIf_le (E : oE p l e R s m args below meth c Z bytes own nm maxL ret) (X : oX p l e R s m args below meth c Z T V cells slots) {x : Int32} {o : Int} {q' : Nat} (hd : decode bytes pc = .ok (.ifCond .le o, 3)) (ho : 0 ≤ (pc : Int) + o) (hp : ((pc : Int) + o).toNat = q) (hp' : pc + 3 = q') (G1 : ¬ (0 < x) → oG p e below s Z R Ret T (mkF m q Ls st)) (G0 : 0 < x → oG p e below s Z R Ret T (mkF m q' Ls st)) : oG p e below s Z R Ret T (mkF m pc Ls (.int x :: st)) := by
  obtain ⟨_, _, _, _, _, Y, _⟩ := X
  by_cases hq : 0 < x
  · subst hp'; exact (G0 hq).step fun t k => XS.ifNo Y.here E.1 rfl (hb E.2.2.2.1 hd) rfl (XT.i0_le_f hq) k
  · exact (G1 hq).step fun t k => XS.ifYes Y.here E.1 rfl (pc0 := pc) rfl (hb E.2.2.2.1 hd) rfl (XT.i0_le_t hq) ho hp k
theorem gLc_le (E : oE p l e R s m args below meth c Z bytes own nm maxL ret) (X : oX p l e R s m args below meth c Z T V cells slots) {x y : Int64} {o : Int} {q' : Nat} (hd : decode bytes pc = .ok (.ifCond .le o, 3)) (ho : 0 ≤ (pc : Int) + o) (hp : ((pc : Int) + o).toNat = q) (hp' : pc + 3 = q') (G1 : ¬ (y < x) → oG p e below s Z R Ret T (mkF m q Ls st)) (G0 : y < x → oG p e below s Z R Ret T (mkF m q' Ls st)) : oG p e below s Z R Ret T (mkF m pc Ls (.int (XT.cmpL x y) :: st)) := by
  obtain ⟨_, _, _, _, _, Y, _⟩ := X
  by_cases hq : y < x
  · subst hp'; exact (G0 hq).step fun t k => XS.ifNo Y.here E.1 rfl (hb E.2.2.2.1 hd) rfl (XT.ll_le_f hq) k
  · exact (G1 hq).step fun t k => XS.ifYes Y.here E.1 rfl (pc0 := pc) rfl (hb E.2.2.2.1 hd) rfl (XT.ll_le_t hq) ho hp k
theorem gAc_eq (E : oE p l e R s m args below meth c Z bytes own nm maxL ret) (X : oX p l e R s m args below meth c Z T V cells slots) {v w : Value} (hv : v.isRef = true) (hw' : w.isRef = true) {o : Int} {q' : Nat} (hd : decode bytes pc = .ok (.if_acmp .eq o, 3)) (ho : 0 ≤ (pc : Int) + o) (hp : ((pc : Int) + o).toNat = q) (hp' : pc + 3 = q') (G1 : v = w → oG p e below s Z R Ret T (mkF m q Ls st)) (G0 : ¬ (v = w) → oG p e below s Z R Ret T (mkF m q' Ls st)) : oG p e below s Z R Ret T (mkF m pc Ls (w :: v :: st)) := by
  obtain ⟨_, _, _, _, _, Y, _⟩ := X
  by_cases hq : v = w
  · exact (G1 hq).step fun t k => XT.acmpYes Y.here E.1 rfl (pc0 := pc) rfl (hb E.2.2.2.1 hd) rfl hv hw' (XT.aa_eq_t hq) ho hp k
  · subst hp'; exact (G0 hq).step fun t k => XT.acmpNo Y.here E.1 rfl (hb E.2.2.2.1 hd) rfl hv hw' (XT.aa_eq_f hq) k
theorem gAc_ne (E : oE p l e R s m args below meth c Z bytes own nm maxL ret) (X : oX p l e R s m args below meth c Z T V cells slots) {v w : Value} (hv : v.isRef = true) (hw' : w.isRef = true) {o : Int} {q' : Nat} (hd : decode bytes pc = .ok (.if_acmp .ne o, 3)) (ho : 0 ≤ (pc : Int) + o) (hp : ((pc : Int) + o).toNat = q) (hp' : pc + 3 = q') (G1 : ¬ (v = w) → oG p e below s Z R Ret T (mkF m q Ls st)) (G0 : v = w → oG p e below s Z R Ret T (mkF m q' Ls st)) : oG p e below s Z R Ret T (mkF m pc Ls (w :: v :: st)) := by
  obtain ⟨_, _, _, _, _, Y, _⟩ := X
  by_cases hq : v = w
  · subst hp'; exact (G0 hq).step fun t k => XT.acmpNo Y.here E.1 rfl (hb E.2.2.2.1 hd) rfl hv hw' (XT.aa_ne_f hq) k
  · exact (G1 hq).step fun t k => XT.acmpYes Y.here E.1 rfl (pc0 := pc) rfl (hb E.2.2.2.1 hd) rfl hv hw' (XT.aa_ne_t hq) ho hp k
theorem gNull_y (E : oE p l e R s m args below meth c Z bytes own nm maxL ret) (X : oX p l e R s m args below meth c Z T V cells slots) {v : Value} (hv : v.isRef = true) {o : Int} {q' : Nat} (hd : decode bytes pc = .ok (.ifnull o, 3)) (ho : 0 ≤ (pc : Int) + o) (hp : ((pc : Int) + o).toNat = q) (hp' : pc + 3 = q') (G1 : v = .null → oG p e below s Z R Ret T (mkF m q Ls st)) (G0 : ¬ (v = .null) → oG p e below s Z R Ret T (mkF m q' Ls st)) : oG p e below s Z R Ret T (mkF m pc Ls (v :: st)) := by
  obtain ⟨_, _, _, _, _, Y, _⟩ := X
  by_cases hq : v = .null
  · exact (G1 hq).step fun t k => XT.nullYes Y.here E.1 rfl (pc0 := pc) rfl (hb E.2.2.2.1 hd) rfl hq ho hp k
  · subst hp'; exact (G0 hq).step fun t k => XT.nullNo Y.here E.1 rfl (hb E.2.2.2.1 hd) rfl hv hq k
theorem gNull_n (E : oE p l e R s m args below meth c Z bytes own nm maxL ret) (X : oX p l e R s m args below meth c Z T V cells slots) {v : Value} (hv : v.isRef = true) {o : Int} {q' : Nat} (hd : decode bytes pc = .ok (.ifnonnull o, 3)) (ho : 0 ≤ (pc : Int) + o) (hp : ((pc : Int) + o).toNat = q) (hp' : pc + 3 = q') (G1 : ¬ (v = .null) → oG p e below s Z R Ret T (mkF m q Ls st)) (G0 : v = .null → oG p e below s Z R Ret T (mkF m q' Ls st)) : oG p e below s Z R Ret T (mkF m pc Ls (v :: st)) := by
  obtain ⟨_, _, _, _, _, Y, _⟩ := X
  by_cases hq : v = .null
  · subst hp'; exact (G0 hq).step fun t k => XT.nonnullNo Y.here E.1 rfl (hb E.2.2.2.1 hd) rfl hq k
  · exact (G1 hq).step fun t k => XT.nonnullYes Y.here E.1 rfl (pc0 := pc) rfl (hb E.2.2.2.1 hd) rfl hv hq ho hp k
theorem gLdcI (E : oE p l e R s m args below meth c Z bytes own nm maxL ret) (X : oX p l e R s m args below meth c Z T V cells slots) {i : Nat} {v : Int32} (hd : decode bytes pc = .ok (.ldc i, 2)) (w : (Jvm.Cond.constant own i v).before a0 Z = true) (hp : pc + 2 = q) (G : oG p e below s Z R Ret T (mkF m q Ls (.int v :: st))) : oG p e below s Z R Ret T (mkF m pc Ls st) := by
  subst hp; obtain ⟨_, _, _, _, _, Y, _⟩ := X; exact G.step fun t k => Y.ldcI E.1 E.2.2.1 (mvT E.2.1 w) rfl (hb E.2.2.2.1 hd) k
theorem gLdcWI (E : oE p l e R s m args below meth c Z bytes own nm maxL ret) (X : oX p l e R s m args below meth c Z T V cells slots) {i : Nat} {v : Int32} (hd : decode bytes pc = .ok (.ldc_w i, 3)) (w : (Jvm.Cond.constant own i v).before a0 Z = true) (hp : pc + 3 = q) (G : oG p e below s Z R Ret T (mkF m q Ls (.int v :: st))) : oG p e below s Z R Ret T (mkF m pc Ls st) := by
  subst hp; obtain ⟨_, _, _, _, _, Y, _⟩ := X; exact G.step fun t k => Y.ldcWI E.1 E.2.2.1 (mvT E.2.1 w) rfl (hb E.2.2.2.1 hd) k
theorem gLdc2J (E : oE p l e R s m args below meth c Z bytes own nm maxL ret) (X : oX p l e R s m args below meth c Z T V cells slots) {i : Nat} {v : Int64} (hd : decode bytes pc = .ok (.ldc2_w i, 3)) (w : (Jvm.Cond.constantLong own i v).before a0 Z = true) (hp : pc + 3 = q) (G : oG p e below s Z R Ret T (mkF m q Ls (.long v :: st))) : oG p e below s Z R Ret T (mkF m pc Ls st) := by
  subst hp; obtain ⟨_, _, _, _, _, Y, _⟩ := X; exact G.step fun t k => Y.ldc2J E.1 E.2.2.1 (mvT E.2.1 w) rfl (hb E.2.2.2.1 hd) k
/-! 5. objects -/
theorem gGetF (E : oE p l e R s m args below meth c Z bytes own nm maxL ret) (X : oX p l e R s m args below meth c Z T V cells slots) {R0 O n d C : String} {index i j : Nat} {a : Addr} {fs : List (String × String × String × Value)} {v : Value} (hd : decode bytes pc = .ok (.getfield index, 3))
    (w : (Jvm.Cond.fieldLink own index R0 n d).before a0 Z = true) (via : Via Z R0 O n d) (hi : V[i]? = some (a, .inl (C, fs))) (hj : fs[j]? = some (O, n, d, v)) (hp : pc + 3 = q)
    (G : ∀ T', oX p l e R s m args below meth c Z T' V cells slots → oG p e below s Z R Ret T' (mkF m q Ls (v :: st))) : oG p e below s Z R Ret T (mkF m pc Ls (.ref a :: st)) := by
  subst hp; obtain ⟨locs, c', s', q1, q2, Y, N, H⟩ := X
  obtain ⟨T', Y', e', k⟩ := getF Y E.1 E.2.1 E.2.2.1 (host := "") (Or.inl w) via rfl ((H.sat hi).2.2 _ (List.mem_of_getElem? hj)) (g := mkF m pc Ls (.ref a :: st)) rfl rfl (hb E.2.2.2.1 hd)
  exact (G T' ⟨locs, c', s', q1, q2, Y', N, e' ▸ H⟩).step k
theorem gGetFN (E : oE p l e R s m args below meth c Z bytes own nm maxL ret) (X : oX p l e R s m args below meth c Z T V cells slots) {R0 O n d C host : String} {index i j : Nat} {a : Addr} {fs : List (String × String × String × Value)} {v : Value} (hd : decode bytes pc = .ok (.getfield index, 3))
    (w : (Jvm.Cond.fieldLinkNest own index R0 n d host).before a0 Z = true) (via : Via Z R0 O n d) (hi : V[i]? = some (a, .inl (C, fs))) (hj : fs[j]? = some (O, n, d, v)) (hp : pc + 3 = q)
    (G : ∀ T', oX p l e R s m args below meth c Z T' V cells slots → oG p e below s Z R Ret T' (mkF m q Ls (v :: st))) : oG p e below s Z R Ret T (mkF m pc Ls (.ref a :: st)) := by
  subst hp; obtain ⟨locs, c', s', q1, q2, Y, N, H⟩ := X
  obtain ⟨T', Y', e', k⟩ := getF Y E.1 E.2.1 E.2.2.1 (host := host) (Or.inr w) via rfl ((H.sat hi).2.2 _ (List.mem_of_getElem? hj)) (g := mkF m pc Ls (.ref a :: st)) rfl rfl (hb E.2.2.2.1 hd)
  exact (G T' ⟨locs, c', s', q1, q2, Y', N, e' ▸ H⟩).step k
/-- a field of an object that stood at the start -/
theorem gGetF0 (E : oE p l e R s m args below meth c Z bytes own nm maxL ret) (X : oX p l e R s m args below meth c Z T V cells slots) {R0 O n d : String} {index : Nat} {a : Addr} {v : Value} (hd : decode bytes pc = .ok (.getfield index, 3))
    (w : (Jvm.Cond.fieldLink own index R0 n d).before a0 Z = true) (via : Via Z R0 O n d) (F : Fld Z Z.heap a O n d v) (hp : pc + 3 = q)
    (G : ∀ T', oX p l e R s m args below meth c Z T' V cells slots → oG p e below s Z R Ret T' (mkF m q Ls (v :: st))) : oG p e below s Z R Ret T (mkF m pc Ls (.ref a :: st)) := by
  subst hp; obtain ⟨locs, c', s', q1, q2, Y, N, H⟩ := X
  obtain ⟨T', Y', e', k⟩ := getF Y E.1 E.2.1 E.2.2.1 (host := "") (Or.inl w) via rfl (F.ext H.1) (g := mkF m pc Ls (.ref a :: st)) rfl rfl (hb E.2.2.2.1 hd)
  exact (G T' ⟨locs, c', s', q1, q2, Y', N, e' ▸ H⟩).step k
theorem gGetS (E : oE p l e R s m args below meth c Z bytes own nm maxL ret) (X : oX p l e R s m args below meth c Z T V cells slots) {R0 O n d : String} {index : Nat} {v : Value} (hd : decode bytes pc = .ok (.getstatic index, 3))
    (w : (Jvm.Cond.fieldLink own index R0 n d).before a0 Z = true) (via : Via Z R0 O n d) (F : Sta Z Z.heap O n d v) (hp : pc + 3 = q)
    (G : ∀ T', oX p l e R s m args below meth c Z T' V cells slots → oG p e below s Z R Ret T' (mkF m q Ls (v :: st))) : oG p e below s Z R Ret T (mkF m pc Ls st) := by
  subst hp; obtain ⟨locs, c', s', q1, q2, Y, N, H⟩ := X
  obtain ⟨T', Y', e', k⟩ := getS Y E.1 E.2.1 E.2.2.1 (host := "") w via rfl (F.ext H.1) (g := mkF m pc Ls st) rfl (hb E.2.2.2.1 hd)
  exact (G T' ⟨locs, c', s', q1, q2, Y', N, e' ▸ H⟩).step k
theorem gPutF (E : oE p l e R s m args below meth c Z bytes own nm maxL ret) (X : oX p l e R s m args below meth c Z T V cells slots) {R0 O n d C : String} {index i j kk : Nat} {a : Addr} {fs : List (String × String × String × Value)} {v old : Value} {ty : FieldType} (hd : decode bytes pc = .ok (.putfield index, 3))
    (w : (Jvm.Cond.fieldLink own index R0 n d).before a0 Z = true) (via : Via Z R0 O n d) (hi : V[i]? = some (a, .inl (C, fs))) (hj : fs[j]? = some (O, n, d, old)) (L : (Jvm.Cond.lays C O n d).before a0 Z = true ∨ ((Jvm.Cond.laysFinal C O n d).before a0 Z = true ∧ own = O ∧ nm = "<init>")) (wi : (Jvm.Cond.instantiable C kk).before a0 Z = true)
    (hty : parseFieldDescriptor d = some ty) (hn : narrow ty v = v) (hf : fits ty v = true) (hV : V.set i (a, .inl (C, fs.set j (O, n, d, v))) = V') (hp : pc + 3 = q)
    (G : ∀ T', oX p l e R s m args below meth c Z T' V' cells slots → oG p e below s Z R Ret T' (mkF m q Ls st)) : oG p e below s Z R Ret T (mkF m pc Ls (v :: .ref a :: st)) := by
  subst hp hV; obtain ⟨locs, c', s', q1, q2, Y, N, H⟩ := X
  have S := H.sat hi
  obtain ⟨T', h', Y', e', W, k⟩ := putF Y E.1 E.2.1 E.2.2.1 (host := "") (Or.inl w) via rfl (S.2.2 _ (List.mem_of_getElem? hj)) S.1 (L.imp id fun z => ⟨z.1, z.2.1, E.2.2.2.2.2.2.1.trans z.2.2⟩) wi hty hn hf (g := mkF m pc Ls (v :: .ref a :: st)) rfl rfl (hb E.2.2.2.1 hd)
  subst e'
  exact (G T' ⟨_, c', s', q1, q2, Y', Fr.snoc Y' N (H.ge hi), H.wr W hi (S.wrF hj W)⟩).step k
theorem gPutFN (E : oE p l e R s m args below meth c Z bytes own nm maxL ret) (X : oX p l e R s m args below meth c Z T V cells slots) {R0 O n d C host : String} {index i j kk : Nat} {a : Addr} {fs : List (String × String × String × Value)} {v old : Value} {ty : FieldType} (hd : decode bytes pc = .ok (.putfield index, 3))
    (w : (Jvm.Cond.fieldLinkNest own index R0 n d host).before a0 Z = true) (via : Via Z R0 O n d) (hi : V[i]? = some (a, .inl (C, fs))) (hj : fs[j]? = some (O, n, d, old)) (L : (Jvm.Cond.lays C O n d).before a0 Z = true ∨ ((Jvm.Cond.laysFinal C O n d).before a0 Z = true ∧ own = O ∧ nm = "<init>")) (wi : (Jvm.Cond.instantiable C kk).before a0 Z = true)
    (hty : parseFieldDescriptor d = some ty) (hn : narrow ty v = v) (hf : fits ty v = true) (hV : V.set i (a, .inl (C, fs.set j (O, n, d, v))) = V') (hp : pc + 3 = q)
    (G : ∀ T', oX p l e R s m args below meth c Z T' V' cells slots → oG p e below s Z R Ret T' (mkF m q Ls st)) : oG p e below s Z R Ret T (mkF m pc Ls (v :: .ref a :: st)) := by
  subst hp hV; obtain ⟨locs, c', s', q1, q2, Y, N, H⟩ := X
  have S := H.sat hi
  obtain ⟨T', h', Y', e', W, k⟩ := putF Y E.1 E.2.1 E.2.2.1 (host := host) (Or.inr w) via rfl (S.2.2 _ (List.mem_of_getElem? hj)) S.1 (L.imp id fun z => ⟨z.1, z.2.1, E.2.2.2.2.2.2.1.trans z.2.2⟩) wi hty hn hf (g := mkF m pc Ls (v :: .ref a :: st)) rfl rfl (hb E.2.2.2.1 hd)
  subst e'
  exact (G T' ⟨_, c', s', q1, q2, Y', Fr.snoc Y' N (H.ge hi), H.wr W hi (S.wrF hj W)⟩).step k
theorem gNew (E : oE p l e R s m args below meth c Z bytes own nm maxL ret) (X : oX p l e R s m args below meth c Z T V cells slots) {C : String} {index n : Nat} {fs : List (String × String × String × Value)} (hd : decode bytes pc = .ok (.new index, 3))
    (w : (Jvm.Cond.classLink own index C).before a0 Z = true) (wi : (Jvm.Cond.instantiable C n).before a0 Z = true) (wz : (Jvm.Cond.initialized C).before a0 Z = true) (hL : oLay Z a0 C fs) (hc : cells + 1 ≤ c2) (hs : slots + n ≤ s2) (hc2 : c2 ≤ R.cells) (hs2 : s2 ≤ R.slots) (hp : pc + 3 = q)
    (G : ∀ T' a, oX p l e R s m args below meth c Z T' (V ++ [(a, .inl (C, fs))]) c2 s2 → oG p e below s Z R Ret T' (mkF m q Ls (.ref a :: st))) : oG p e below s Z R Ret T (mkF m pc Ls st) := by
  subst hp; obtain ⟨locs, c', s', q1, q2, Y, N, H⟩ := X
  obtain ⟨T', h', Y', e', Ex, A, D, -, k⟩ := newO Y E.1 E.2.1 E.2.2.1 w wi wz rfl (g := mkF m pc Ls st) rfl (hb E.2.2.2.1 hd) (by omega) (by omega)
  subst e'
  refine (G T' T.heap.size ⟨_, _, _, by omega, by omega, Y', N, H.new Ex ⟨A, hL.1, fun f hf => ?_⟩⟩).step k
  obtain ⟨L1, ty, t1, t2⟩ := hL.2 f hf
  rw [t2]; exact D L1 t1
theorem gInitO (E : oE p l e R s m args below meth c Z bytes own nm maxL ret) (X : oX p l e R s m args below meth c Z T V cells slots) {index : Nat} {a : Addr} {W : Nat} (hd : decode bytes pc = .ok (.invokespecial index, 3))
    (w1 : (Jvm.Cond.methodLink own index Lib.objectInit).before a0 Z = true) (w2 : (Jvm.Cond.instanceMethod Lib.objectInit).before a0 Z = true) (w3 : (Jvm.Cond.code Lib.objectInit ⟨#[0xb1]⟩ 1 none).before a0 Z = true) (hsz : Ls.size = maxL) (hf : 1 ≤ R.frames) (hW : (st.map fun v => v.category).sum ≤ W) (hl : W + 12 ≤ R.locals) (hp : pc + 3 = q)
    (G : ∀ T', oX p l e R s m args below meth c Z T' V cells slots → oG p e below s Z R Ret T' (mkF m q Ls st)) : oG p e below s Z R Ret T (mkF m pc Ls (.ref a :: st)) := by
  subst hp; obtain ⟨locs, c', s', q1, q2, Y, N, H⟩ := X
  obtain ⟨T', Y', e', k⟩ := initO Y E.1 E.2.1 E.2.2.1 w1 w2 w3 rfl (g := mkF m pc Ls (.ref a :: st)) rfl (by rw [E.2.2.2.2.1]; exact hsz) rfl (hb E.2.2.2.1 hd) hf (W := W) (by show 2 * 0 + _ ≤ _; omega) hl
  exact (G T' ⟨locs, c', s', q1, q2, Y', N, e' ▸ H⟩).step k
theorem gInstY (E : oE p l e R s m args below meth c Z bytes own nm maxL ret) (X : oX p l e R s m args below meth c Z T V cells slots) {K C : String} {index i : Nat} {a : Addr} {fs : List (String × String × String × Value)} (hd : decode bytes pc = .ok (.instanceof index, 3))
    (w : (Jvm.Cond.classLink own index K).before a0 Z = true) (hi : V[i]? = some (a, .inl (C, fs))) (wc : (Jvm.Cond.castable C K).before a0 Z = true) (hp : pc + 3 = q)
    (G : ∀ T', oX p l e R s m args below meth c Z T' V cells slots → oG p e below s Z R Ret T' (mkF m q Ls (.int 1 :: st))) : oG p e below s Z R Ret T (mkF m pc Ls (.ref a :: st)) := by
  subst hp; obtain ⟨locs, c', s', q1, q2, Y, N, H⟩ := X
  obtain ⟨T', Y', e', k⟩ := instY Y E.1 E.2.1 E.2.2.1 w rfl (Ins.of_exa (H.sat hi).1 wc) (g := mkF m pc Ls (.ref a :: st)) rfl rfl (hb E.2.2.2.1 hd)
  exact (G T' ⟨locs, c', s', q1, q2, Y', N, e' ▸ H⟩).step k
theorem gInstNo (E : oE p l e R s m args below meth c Z bytes own nm maxL ret) (X : oX p l e R s m args below meth c Z T V cells slots) {K C : String} {index : Nat} {a : Addr} (hd : decode bytes pc = .ok (.instanceof index, 3))
    (w : (Jvm.Cond.classLink own index K).before a0 Z = true) (hE : ∀ h, oHv Z h V → Exa Z h a C) (F : ∃ c t, Z.vm.findClass C = some c ∧ Z.vm.findClass K = some t ∧ Z.vm.assignable c t = false) (hp : pc + 3 = q)
    (G : ∀ T', oX p l e R s m args below meth c Z T' V cells slots → oG p e below s Z R Ret T' (mkF m q Ls (.int 0 :: st))) : oG p e below s Z R Ret T (mkF m pc Ls (.ref a :: st)) := by
  subst hp; obtain ⟨locs, c', s', q1, q2, Y, N, H⟩ := X
  obtain ⟨T', Y', e', k⟩ := instNo Y E.1 E.2.1 E.2.2.1 w rfl (hE _ H) F (g := mkF m pc Ls (.ref a :: st)) rfl rfl (hb E.2.2.2.1 hd)
  exact (G T' ⟨locs, c', s', q1, q2, Y', N, e' ▸ H⟩).step k
theorem gInstNull (E : oE p l e R s m args below meth c Z bytes own nm maxL ret) (X : oX p l e R s m args below meth c Z T V cells slots) {index : Nat} (hd : decode bytes pc = .ok (.instanceof index, 3)) (hp : pc + 3 = q) (G : oG p e below s Z R Ret T (mkF m q Ls (.int 0 :: st))) : oG p e below s Z R Ret T (mkF m pc Ls (.null :: st)) := by
  subst hp; obtain ⟨_, _, _, _, _, Y, _⟩ := X; exact G.step fun t k => Y.instanceofNull E.1 (g := mkF m pc Ls (.null :: st)) rfl rfl (hb E.2.2.2.1 hd) t k
theorem gCastY (E : oE p l e R s m args below meth c Z bytes own nm maxL ret) (X : oX p l e R s m args below meth c Z T V cells slots) {K C : String} {index i : Nat} {a : Addr} {fs : List (String × String × String × Value)} (hd : decode bytes pc = .ok (.checkcast index, 3))
    (w : (Jvm.Cond.classLink own index K).before a0 Z = true) (hi : V[i]? = some (a, .inl (C, fs))) (wc : (Jvm.Cond.castable C K).before a0 Z = true) (hp : pc + 3 = q)
    (G : ∀ T', oX p l e R s m args below meth c Z T' V cells slots → oG p e below s Z R Ret T' (mkF m q Ls (.ref a :: st))) : oG p e below s Z R Ret T (mkF m pc Ls (.ref a :: st)) := by
  subst hp; obtain ⟨locs, c', s', q1, q2, Y, N, H⟩ := X
  obtain ⟨T', Y', e', k⟩ := castY Y E.1 E.2.1 E.2.2.1 w rfl (Ins.of_exa (H.sat hi).1 wc) (g := mkF m pc Ls (.ref a :: st)) rfl rfl (hb E.2.2.2.1 hd)
  exact (G T' ⟨locs, c', s', q1, q2, Y', N, e' ▸ H⟩).step k
/-! 6. arrays -/
theorem oNat {j : Int32} (hj : ¬ j < 0) {n : Nat} (hn : n < 2 ^ 31) (h : n.toInt32 = j) : j.toNatClampNeg = n := by
  subst h; simp only [Int32.toNatClampNeg, len_toInt hn]; omega
theorem oIn {c : Cell} {vs : List Value} {j : Int32} {v : Value} (h : c.slots.toList = vs) (hj : ¬ j < 0) (hv : vs[j.toNatClampNeg]? = some v) : ¬ (j < 0 ∨ c.slots.size ≤ j.toNatClampNeg) ∧ c.slots[j.toNatClampNeg]? = some v := by
  subst h
  rw [Array.getElem?_toList] at hv
  exact ⟨fun z => z.elim hj fun y => (by rw [Array.getElem?_eq_none y] at hv; cases hv), hv⟩
theorem gNewA (E : oE p l e R s m args below meth c Z bytes own nm maxL ret) (X : oX p l e R s m args below meth c Z T V cells slots) {aty : ArrayType} {n : Int32} {cap : Nat} {vs : List Value} {ty : FieldType} (hty : newarray.typeOf aty = ty) (hd : decode bytes pc = .ok (.newarray aty, 2))
    (w : (Jvm.Cond.arrayClass (newarray.typeOf aty)).before a0 Z = true) (hn : ¬ n < 0) (hcap : n.toNatClampNeg ≤ cap) (hb8 : cap * 8 ≤ 536870912) (hvs : List.replicate n.toNatClampNeg (defaultValue ty) = vs) (hc : cells + 1 ≤ c2) (hs : slots + cap ≤ s2) (hc2 : c2 ≤ R.cells) (hs2 : s2 ≤ R.slots) (hp : pc + 2 = q)
    (G : ∀ T' a, oX p l e R s m args below meth c Z T' (V ++ [(a, .inr (ty, vs))]) c2 s2 → oG p e below s Z R Ret T' (mkF m q Ls (.ref a :: st))) : oG p e below s Z R Ret T (mkF m pc Ls (.int n :: st)) := by
  subst hp hvs hty; obtain ⟨locs, c', s', q1, q2, Y, N, H⟩ := X
  obtain ⟨T', h', cA, Y', e', Ex, A, k⟩ := newP Y E.1 E.2.1 w rfl (g := mkF m pc Ls (.int n :: st)) rfl (hb E.2.2.2.1 hd) rfl hn hcap hb8 (by omega) (by omega)
  subst e'
  refine (G T' T.heap.size ⟨_, _, _, by omega, by omega, Y', N, H.new Ex ⟨_, A, by simp [newA], ?_⟩⟩).step k
  rw [List.length_replicate]; exact (back32 hn).2
theorem gLen (E : oE p l e R s m args below meth c Z bytes own nm maxL ret) (X : oX p l e R s m args below meth c Z T V cells slots) {i : Nat} {a : Addr} {ty : FieldType} {vs : List Value} {z : Int32} (hd : decode bytes pc = .ok (.arraylength, 1))
    (hi : V[i]? = some (a, .inr (ty, vs))) (hz : vs.length.toInt32 = z) (hp : pc + 1 = q) (G : oG p e below s Z R Ret T (mkF m q Ls (.int z :: st))) : oG p e below s Z R Ret T (mkF m pc Ls (.ref a :: st)) := by
  subst hp hz; obtain ⟨locs, c', s', q1, q2, Y, N, H⟩ := X
  obtain ⟨cl, A, r1, r2⟩ := H.sat hi
  simp only at r1
  subst r1
  exact G.step fun t k => Y.arraylength E.1 A.1 (State.isArrayOf_alike E.2.1.alike A.2.1) (g := mkF m pc Ls (.ref a :: st)) rfl rfl (hb E.2.2.2.1 hd) t (by rw [Array.length_toList] at k; exact k)
/-- v's length, whether she stood at the start or was made since -/
def oLn (Z : State) (V : oVw) (a : Addr) (z : Int32) : Prop := (∃ cl ty, Arr Z Z.heap a cl ty ∧ cl.slots.size.toInt32 = z) ∨ ∃ (k : Nat) (ty : FieldType) (vs : List Value), V[k]? = some (a, .inr (ty, vs)) ∧ vs.length.toInt32 = z
theorem oLn.app {a : Addr} {z : Int32} {L : oVw} (h : oLn Z V a z) : oLn Z (V ++ L) a z := h.imp id fun ⟨k, ty, vs, h1, h2⟩ => ⟨k, ty, vs, oAppGet h1, h2⟩
theorem oLn.set {a b : Addr} {z : Int32} {i : Nat} {q q' : String × List (String × String × String × Value)} (h : oLn Z V a z) (hi : V[i]? = some (b, .inl q)) : oLn Z (V.set i (b, .inl q')) a z := h.imp id fun ⟨k, ty, vs, h1, h2⟩ => ⟨k, ty, vs, oSetNe (fun e => by subst e; rw [hi] at h1; cases h1) h1, h2⟩
theorem gLenG (E : oE p l e R s m args below meth c Z bytes own nm maxL ret) (X : oX p l e R s m args below meth c Z T V cells slots) {a : Addr} {z : Int32} (hd : decode bytes pc = .ok (.arraylength, 1))
    (hL : oLn Z V a z) (hp : pc + 1 = q) (G : oG p e below s Z R Ret T (mkF m q Ls (.int z :: st))) : oG p e below s Z R Ret T (mkF m pc Ls (.ref a :: st)) := by
  rcases hL with ⟨cl, ty, A, hz⟩ | ⟨k, ty, vs, h1, h2⟩
  · subst hp hz; obtain ⟨locs, c', s', q1, q2, Y, N, H⟩ := X
    exact G.step fun t k => Y.arraylength E.1 (A.ext H.1).1 (State.isArrayOf_alike E.2.1.alike A.2.1) (g := mkF m pc Ls (.ref a :: st)) rfl rfl (hb E.2.2.2.1 hd) t k
  · exact gLen E X hd h1 h2 hp G
theorem oRepLen {n : Int32} {d : Value} (hn : ¬ n < 0) : (List.replicate n.toNatClampNeg d).length.toInt32 = n := by rw [List.length_replicate]; exact (back32 hn).1
theorem gLen0 (E : oE p l e R s m args below meth c Z bytes own nm maxL ret) (X : oX p l e R s m args below meth c Z T V cells slots) {a : Addr} {ty : FieldType} {cl : Cell} {z : Int32} (hd : decode bytes pc = .ok (.arraylength, 1))
    (A : Arr Z Z.heap a cl ty) (hz : cl.slots.size.toInt32 = z) (hp : pc + 1 = q) (G : oG p e below s Z R Ret T (mkF m q Ls (.int z :: st))) : oG p e below s Z R Ret T (mkF m pc Ls (.ref a :: st)) := by
  subst hp hz; obtain ⟨locs, c', s', q1, q2, Y, N, H⟩ := X
  exact G.step fun t k => Y.arraylength E.1 (A.ext H.1).1 (State.isArrayOf_alike E.2.1.alike A.2.1) (g := mkF m pc Ls (.ref a :: st)) rfl rfl (hb E.2.2.2.1 hd) t k
theorem gBaload (E : oE p l e R s m args below meth c Z bytes own nm maxL ret) (X : oX p l e R s m args below meth c Z T V cells slots) {i : Nat} {a : Addr} {vs : List Value} {j : Int32} {v : Value} (hd : decode bytes pc = .ok (.baload, 1))
    (hi : V[i]? = some (a, .inr (.byte, vs))) (hj : ¬ j < 0) (hv : vs[j.toNatClampNeg]? = some v) (hp : pc + 1 = q) (G : oG p e below s Z R Ret T (mkF m q Ls (v :: st))) : oG p e below s Z R Ret T (mkF m pc Ls (.int j :: .ref a :: st)) := by
  subst hp; obtain ⟨locs, c', s', q1, q2, Y, N, H⟩ := X
  obtain ⟨cl, A, r1, r2⟩ := H.sat hi
  obtain ⟨z1, z2⟩ := oIn r1 hj hv
  exact G.step fun t k => Y.baloadBytes E.1 A.1 (State.isArrayOf_alike E.2.1.alike A.2.1) A.2.2 z1 z2 (g := mkF m pc Ls (.int j :: .ref a :: st)) rfl rfl (hb E.2.2.2.1 hd) t k
theorem gBaload0 (E : oE p l e R s m args below meth c Z bytes own nm maxL ret) (X : oX p l e R s m args below meth c Z T V cells slots) {a : Addr} {cl : Cell} {j : Int32} {v : Value} (hd : decode bytes pc = .ok (.baload, 1))
    (A : Arr Z Z.heap a cl .byte) (hj : ¬ (j < 0 ∨ cl.slots.size ≤ j.toNatClampNeg)) (hv : cl.slots[j.toNatClampNeg]? = some v) (hp : pc + 1 = q) (G : oG p e below s Z R Ret T (mkF m q Ls (v :: st))) : oG p e below s Z R Ret T (mkF m pc Ls (.int j :: .ref a :: st)) := by
  subst hp; obtain ⟨locs, c', s', q1, q2, Y, N, H⟩ := X
  exact G.step fun t k => Y.baloadBytes E.1 (A.ext H.1).1 (State.isArrayOf_alike E.2.1.alike A.2.1) A.2.2 hj hv (g := mkF m pc Ls (.int j :: .ref a :: st)) rfl rfl (hb E.2.2.2.1 hd) t k
theorem gIaload (E : oE p l e R s m args below meth c Z bytes own nm maxL ret) (X : oX p l e R s m args below meth c Z T V cells slots) {i : Nat} {a : Addr} {vs : List Value} {j : Int32} {v : Value} (hd : decode bytes pc = .ok (.iaload, 1))
    (hi : V[i]? = some (a, .inr (.int, vs))) (hj : ¬ j < 0) (hv : vs[j.toNatClampNeg]? = some v) (hp : pc + 1 = q) (G : oG p e below s Z R Ret T (mkF m q Ls (v :: st))) : oG p e below s Z R Ret T (mkF m pc Ls (.int j :: .ref a :: st)) := by
  subst hp; obtain ⟨locs, c', s', q1, q2, Y, N, H⟩ := X
  obtain ⟨cl, A, r1, r2⟩ := H.sat hi
  obtain ⟨z1, z2⟩ := oIn r1 hj hv
  exact G.step fun t k => Y.iaload E.1 A.1 (State.isArrayOf_alike E.2.1.alike A.2.1) A.2.2 z1 z2 (g := mkF m pc Ls (.int j :: .ref a :: st)) rfl rfl (hb E.2.2.2.1 hd) t k
theorem gIaload0 (E : oE p l e R s m args below meth c Z bytes own nm maxL ret) (X : oX p l e R s m args below meth c Z T V cells slots) {a : Addr} {cl : Cell} {j : Int32} {v : Value} (hd : decode bytes pc = .ok (.iaload, 1))
    (A : Arr Z Z.heap a cl .int) (hj : ¬ (j < 0 ∨ cl.slots.size ≤ j.toNatClampNeg)) (hv : cl.slots[j.toNatClampNeg]? = some v) (hp : pc + 1 = q) (G : oG p e below s Z R Ret T (mkF m q Ls (v :: st))) : oG p e below s Z R Ret T (mkF m pc Ls (.int j :: .ref a :: st)) := by
  subst hp; obtain ⟨locs, c', s', q1, q2, Y, N, H⟩ := X
  exact G.step fun t k => Y.iaload E.1 (A.ext H.1).1 (State.isArrayOf_alike E.2.1.alike A.2.1) A.2.2 hj hv (g := mkF m pc Ls (.int j :: .ref a :: st)) rfl rfl (hb E.2.2.2.1 hd) t k
theorem gLaload (E : oE p l e R s m args below meth c Z bytes own nm maxL ret) (X : oX p l e R s m args below meth c Z T V cells slots) {i : Nat} {a : Addr} {vs : List Value} {j : Int32} {v : Value} (hd : decode bytes pc = .ok (.laload, 1))
    (hi : V[i]? = some (a, .inr (.long, vs))) (hj : ¬ j < 0) (hv : vs[j.toNatClampNeg]? = some v) (hp : pc + 1 = q) (G : oG p e below s Z R Ret T (mkF m q Ls (v :: st))) : oG p e below s Z R Ret T (mkF m pc Ls (.int j :: .ref a :: st)) := by
  subst hp; obtain ⟨locs, c', s', q1, q2, Y, N, H⟩ := X
  obtain ⟨cl, A, r1, r2⟩ := H.sat hi
  obtain ⟨z1, z2⟩ := oIn r1 hj hv
  exact G.step fun t k => Y.laload E.1 A.1 (State.isArrayOf_alike E.2.1.alike A.2.1) A.2.2 z1 z2 (g := mkF m pc Ls (.int j :: .ref a :: st)) rfl rfl (hb E.2.2.2.1 hd) t k
theorem gLaload0 (E : oE p l e R s m args below meth c Z bytes own nm maxL ret) (X : oX p l e R s m args below meth c Z T V cells slots) {a : Addr} {cl : Cell} {j : Int32} {v : Value} (hd : decode bytes pc = .ok (.laload, 1))
    (A : Arr Z Z.heap a cl .long) (hj : ¬ (j < 0 ∨ cl.slots.size ≤ j.toNatClampNeg)) (hv : cl.slots[j.toNatClampNeg]? = some v) (hp : pc + 1 = q) (G : oG p e below s Z R Ret T (mkF m q Ls (v :: st))) : oG p e below s Z R Ret T (mkF m pc Ls (.int j :: .ref a :: st)) := by
  subst hp; obtain ⟨locs, c', s', q1, q2, Y, N, H⟩ := X
  exact G.step fun t k => Y.laload E.1 (A.ext H.1).1 (State.isArrayOf_alike E.2.1.alike A.2.1) A.2.2 hj hv (g := mkF m pc Ls (.int j :: .ref a :: st)) rfl rfl (hb E.2.2.2.1 hd) t k
theorem gCaload (E : oE p l e R s m args below meth c Z bytes own nm maxL ret) (X : oX p l e R s m args below meth c Z T V cells slots) {i : Nat} {a : Addr} {vs : List Value} {j : Int32} {v : Value} (hd : decode bytes pc = .ok (.caload, 1))
    (hi : V[i]? = some (a, .inr (.char, vs))) (hj : ¬ j < 0) (hv : vs[j.toNatClampNeg]? = some v) (hp : pc + 1 = q) (G : oG p e below s Z R Ret T (mkF m q Ls (v :: st))) : oG p e below s Z R Ret T (mkF m pc Ls (.int j :: .ref a :: st)) := by
  subst hp; obtain ⟨locs, c', s', q1, q2, Y, N, H⟩ := X
  obtain ⟨cl, A, r1, r2⟩ := H.sat hi
  obtain ⟨z1, z2⟩ := oIn r1 hj hv
  exact G.step fun t k => Y.caload E.1 A.1 (State.isArrayOf_alike E.2.1.alike A.2.1) A.2.2 z1 z2 (g := mkF m pc Ls (.int j :: .ref a :: st)) rfl rfl (hb E.2.2.2.1 hd) t k
theorem gCaload0 (E : oE p l e R s m args below meth c Z bytes own nm maxL ret) (X : oX p l e R s m args below meth c Z T V cells slots) {a : Addr} {cl : Cell} {j : Int32} {v : Value} (hd : decode bytes pc = .ok (.caload, 1))
    (A : Arr Z Z.heap a cl .char) (hj : ¬ (j < 0 ∨ cl.slots.size ≤ j.toNatClampNeg)) (hv : cl.slots[j.toNatClampNeg]? = some v) (hp : pc + 1 = q) (G : oG p e below s Z R Ret T (mkF m q Ls (v :: st))) : oG p e below s Z R Ret T (mkF m pc Ls (.int j :: .ref a :: st)) := by
  subst hp; obtain ⟨locs, c', s', q1, q2, Y, N, H⟩ := X
  exact G.step fun t k => Y.caload E.1 (A.ext H.1).1 (State.isArrayOf_alike E.2.1.alike A.2.1) A.2.2 hj hv (g := mkF m pc Ls (.int j :: .ref a :: st)) rfl rfl (hb E.2.2.2.1 hd) t k
theorem gAaload (E : oE p l e R s m args below meth c Z bytes own nm maxL ret) (X : oX p l e R s m args below meth c Z T V cells slots) {i : Nat} {a : Addr} {ty : FieldType} {vs : List Value} {j : Int32} {v : Value} (hd : decode bytes pc = .ok (.aaload, 1))
    (hi : V[i]? = some (a, .inr (ty, vs))) (ht : ty.isReference = true) (hj : ¬ j < 0) (hv : vs[j.toNatClampNeg]? = some v) (hp : pc + 1 = q) (G : oG p e below s Z R Ret T (mkF m q Ls (v :: st))) : oG p e below s Z R Ret T (mkF m pc Ls (.int j :: .ref a :: st)) := by
  subst hp; obtain ⟨locs, c', s', q1, q2, Y, N, H⟩ := X
  obtain ⟨cl, A, r1, r2⟩ := H.sat hi
  obtain ⟨z1, z2⟩ := oIn r1 hj hv
  exact G.step fun t k => Y.aaload E.1 A.1 (State.isArrayOf_alike E.2.1.alike A.2.1) ht A.2.2 z1 z2 (g := mkF m pc Ls (.int j :: .ref a :: st)) rfl rfl (hb E.2.2.2.1 hd) t k
theorem gAaload0 (E : oE p l e R s m args below meth c Z bytes own nm maxL ret) (X : oX p l e R s m args below meth c Z T V cells slots) {a : Addr} {ty : FieldType} {cl : Cell} {j : Int32} {v : Value} (hd : decode bytes pc = .ok (.aaload, 1))
    (A : Arr Z Z.heap a cl ty) (ht : ty.isReference = true) (hj : ¬ (j < 0 ∨ cl.slots.size ≤ j.toNatClampNeg)) (hv : cl.slots[j.toNatClampNeg]? = some v) (hp : pc + 1 = q) (G : oG p e below s Z R Ret T (mkF m q Ls (v :: st))) : oG p e below s Z R Ret T (mkF m pc Ls (.int j :: .ref a :: st)) := by
  subst hp; obtain ⟨locs, c', s', q1, q2, Y, N, H⟩ := X
  exact G.step fun t k => Y.aaload E.1 (A.ext H.1).1 (State.isArrayOf_alike E.2.1.alike A.2.1) ht A.2.2 hj hv (g := mkF m pc Ls (.int j :: .ref a :: st)) rfl rfl (hb E.2.2.2.1 hd) t k
theorem gBastore (E : oE p l e R s m args below meth c Z bytes own nm maxL ret) (X : oX p l e R s m args below meth c Z T V cells slots) {i jn : Nat} {a : Addr} {vs : List Value} {j : Int32} {x x' : Int32} (hd : decode bytes pc = .ok (.bastore, 1))
    (hi : V[i]? = some (a, .inr (.byte, vs))) (hj : ¬ j < 0) (hjn : j.toNatClampNeg = jn) (hlt : jn < vs.length) (hx' : nar .byte x = x') (hV : V.set i (a, .inr (.byte, vs.set jn (.int x'))) = V') (hp : pc + 1 = q)
    (G : ∀ T', oX p l e R s m args below meth c Z T' V' cells slots → oG p e below s Z R Ret T' (mkF m q Ls st)) : oG p e below s Z R Ret T (mkF m pc Ls (.int x :: .int j :: .ref a :: st)) := by
  subst hp hV hjn hx'; obtain ⟨locs, c', s', q1, q2, Y, N, H⟩ := X
  have S := H.sat hi
  obtain ⟨cl, A, r1, r2⟩ := id S
  have hin : ¬ (j < 0 ∨ cl.slots.size ≤ j.toNatClampNeg) := fun z => z.elim hj fun y => by
    have r1' : cl.slots.toList = vs := r1
    rw [← r1', Array.length_toList] at hlt; omega
  obtain ⟨T', h', Y', e', W, k⟩ := stB Y E.1 E.2.1 rfl A hin (g := mkF m pc Ls (.int x :: .int j :: .ref a :: st)) rfl rfl (hb E.2.2.2.1 hd)
  subst e'
  exact (G T' ⟨_, c', s', q1, q2, Y', Fr.snoc Y' N (H.ge hi), H.wr W hi (S.wrA W)⟩).step k
theorem gIastore (E : oE p l e R s m args below meth c Z bytes own nm maxL ret) (X : oX p l e R s m args below meth c Z T V cells slots) {i jn : Nat} {a : Addr} {vs : List Value} {j : Int32} {x x' : Int32} (hd : decode bytes pc = .ok (.iastore, 1))
    (hi : V[i]? = some (a, .inr (.int, vs))) (hj : ¬ j < 0) (hjn : j.toNatClampNeg = jn) (hlt : jn < vs.length) (hx' : x = x') (hV : V.set i (a, .inr (.int, vs.set jn (.int x'))) = V') (hp : pc + 1 = q)
    (G : ∀ T', oX p l e R s m args below meth c Z T' V' cells slots → oG p e below s Z R Ret T' (mkF m q Ls st)) : oG p e below s Z R Ret T (mkF m pc Ls (.int x :: .int j :: .ref a :: st)) := by
  subst hp hV hjn hx'; obtain ⟨locs, c', s', q1, q2, Y, N, H⟩ := X
  have S := H.sat hi
  obtain ⟨cl, A, r1, r2⟩ := id S
  have hin : ¬ (j < 0 ∨ cl.slots.size ≤ j.toNatClampNeg) := fun z => z.elim hj fun y => by
    have r1' : cl.slots.toList = vs := r1
    rw [← r1', Array.length_toList] at hlt; omega
  obtain ⟨T', h', Y', e', W, k⟩ := stI Y E.1 E.2.1 rfl A hin (g := mkF m pc Ls (.int x :: .int j :: .ref a :: st)) rfl rfl (hb E.2.2.2.1 hd)
  subst e'
  exact (G T' ⟨_, c', s', q1, q2, Y', Fr.snoc Y' N (H.ge hi), H.wr W hi (S.wrA W)⟩).step k
theorem gLastore (E : oE p l e R s m args below meth c Z bytes own nm maxL ret) (X : oX p l e R s m args below meth c Z T V cells slots) {i jn : Nat} {a : Addr} {vs : List Value} {j : Int32} {x x' : Int64} (hd : decode bytes pc = .ok (.lastore, 1))
    (hi : V[i]? = some (a, .inr (.long, vs))) (hj : ¬ j < 0) (hjn : j.toNatClampNeg = jn) (hlt : jn < vs.length) (hx' : x = x') (hV : V.set i (a, .inr (.long, vs.set jn (.long x'))) = V') (hp : pc + 1 = q)
    (G : ∀ T', oX p l e R s m args below meth c Z T' V' cells slots → oG p e below s Z R Ret T' (mkF m q Ls st)) : oG p e below s Z R Ret T (mkF m pc Ls (.long x :: .int j :: .ref a :: st)) := by
  subst hp hV hjn hx'; obtain ⟨locs, c', s', q1, q2, Y, N, H⟩ := X
  have S := H.sat hi
  obtain ⟨cl, A, r1, r2⟩ := id S
  have hin : ¬ (j < 0 ∨ cl.slots.size ≤ j.toNatClampNeg) := fun z => z.elim hj fun y => by
    have r1' : cl.slots.toList = vs := r1
    rw [← r1', Array.length_toList] at hlt; omega
  obtain ⟨T', h', Y', e', W, k⟩ := stJ Y E.1 E.2.1 rfl A hin (g := mkF m pc Ls (.long x :: .int j :: .ref a :: st)) rfl rfl (hb E.2.2.2.1 hd)
  subst e'
  exact (G T' ⟨_, c', s', q1, q2, Y', Fr.snoc Y' N (H.ge hi), H.wr W hi (S.wrA W)⟩).step k
theorem gCastore (E : oE p l e R s m args below meth c Z bytes own nm maxL ret) (X : oX p l e R s m args below meth c Z T V cells slots) {i jn : Nat} {a : Addr} {vs : List Value} {j : Int32} {x x' : Int32} (hd : decode bytes pc = .ok (.castore, 1))
    (hi : V[i]? = some (a, .inr (.char, vs))) (hj : ¬ j < 0) (hjn : j.toNatClampNeg = jn) (hlt : jn < vs.length) (hx' : nar .char x = x') (hV : V.set i (a, .inr (.char, vs.set jn (.int x'))) = V') (hp : pc + 1 = q)
    (G : ∀ T', oX p l e R s m args below meth c Z T' V' cells slots → oG p e below s Z R Ret T' (mkF m q Ls st)) : oG p e below s Z R Ret T (mkF m pc Ls (.int x :: .int j :: .ref a :: st)) := by
  subst hp hV hjn hx'; obtain ⟨locs, c', s', q1, q2, Y, N, H⟩ := X
  have S := H.sat hi
  obtain ⟨cl, A, r1, r2⟩ := id S
  have hin : ¬ (j < 0 ∨ cl.slots.size ≤ j.toNatClampNeg) := fun z => z.elim hj fun y => by
    have r1' : cl.slots.toList = vs := r1
    rw [← r1', Array.length_toList] at hlt; omega
  obtain ⟨T', h', Y', e', W, k⟩ := stC Y E.1 E.2.1 rfl A hin (g := mkF m pc Ls (.int x :: .int j :: .ref a :: st)) rfl rfl (hb E.2.2.2.1 hd)
  subst e'
  exact (G T' ⟨_, c', s', q1, q2, Y', Fr.snoc Y' N (H.ge hi), H.wr W hi (S.wrA W)⟩).step k
/-! 7. calls -/
theorem oBack {y : MethodName} {bs : ByteArray} {mx : Nat} {rt : Option FieldType} {rm : Room} {as' : Array Value} {Ret' : Option Value → oVw → Prop} {W len : Nat} (E : oE p l e R s m args below meth c Z bytes own nm maxL ret) (K : oCon l Z y bs mx rt rm as' V Ret') {h : Heap} (H : oHv Z h V)
    (wc : (Jvm.Cond.code y bs mx rt).before a0 Z = true) (wz : (Jvm.Cond.initialized y.cls).before a0 Z = true) (hf : rm.frames + 1 ≤ R.frames) (hl : W + (mx + 11) + rm.locals ≤ R.locals) :
    Back l R p e below s args y len W (fun A a => a = as' ∧ A.U.heap = h ∧ A.cells + rm.cells ≤ R.cells ∧ A.slots + rm.slots ≤ R.slots) (fun A _ v B => ∃ L, (Fr Z.heap.size L ∧ ∃ V', Ret' v V' ∧ oHv Z B.U.heap V') ∧ B.locs = A.locs ++ L ∧ B.cells = A.cells + rm.cells ∧ B.slots = A.slots + rm.slots) :=
  backOf (W := W) (Q := fun v h L => Fr Z.heap.size L ∧ ∃ V', Ret' v V' ∧ oHv Z h V') (K [] h H) E.2.1 wc wz hf hl
theorem gCallS (E : oE p l e R s m args below meth c Z bytes own nm maxL ret) (X : oX p l e R s m args below meth c Z T V cells slots) {y : MethodName} {index : Nat} {bs : ByteArray} {mx : Nat} {rt : Option FieldType} {rm : Room} {Ret' : Option Value → oVw → Prop} {W : Nat} {ps : List FieldType} {r : Option FieldType} (argsL rest : List Value) (hd : decode bytes pc = .ok (.invokestatic index, 3))
    (w1 : (Jvm.Cond.methodLink own index y).before a0 Z = true) (w2 : (Jvm.Cond.static y).before a0 Z = true) (w3 : (Jvm.Cond.initialized y.cls).before a0 Z = true) (w4 : (Jvm.Cond.code y bs mx rt).before a0 Z = true) (hy : y.cls ≠ "java/lang/invoke/MethodHandle" ∧ y.cls ≠ "java/lang/invoke/VarHandle")
    (K : oCon l Z y bs mx rt rm argsL.toArray V Ret') (hds : parseMethodDescriptor y.desc = some ⟨ps, r⟩) (hlen : argsL.length = ps.length) (hst : st = argsL.reverse ++ rest) (hsz : Ls.size = maxL) (hf : rm.frames + 1 ≤ R.frames) (hW : (rest.map fun v => v.category).sum ≤ W) (hl : W + (mx + 11) + rm.locals ≤ R.locals)
    (hc : cells + rm.cells ≤ c2) (hs : slots + rm.slots ≤ s2) (hc2 : c2 ≤ R.cells) (hs2 : s2 ≤ R.slots) (hp : pc + 3 = q)
    (G : ∀ T' v V', Ret' v V' → oX p l e R s m args below meth c Z T' V' c2 s2 → oG p e below s Z R Ret T' (mkF m q Ls (v.toList ++ rest))) : oG p e below s Z R Ret T (mkF m pc Ls st) := by
  subst hp; obtain ⟨locs, c', s', q1, q2, Y, N, H⟩ := X
  obtain ⟨v, vm₁, ⟨T', L', k', n'⟩, -, Y', ⟨Lc, ⟨hN, V', hR, hV⟩, l', y', z'⟩, k⟩ := Jvm.LawKit.callS Y E.1 (y := y) E.2.2.1 (mvT E.2.1 w1) (mvT E.2.1 w2) (mvT E.2.1 w3) (mvT E.2.1 w4) hy (oBack (W := W) E K H w4 w3 hf hl) (g := mkF m pc Ls st) rfl (by rw [E.2.2.2.2.1]; exact hsz) (argsL := argsL) (rest := rest) (lenOf hds hlen) hst (by show 2 * 0 + _ ≤ _; omega) (hb E.2.2.2.1 hd) (fun _ _ => ⟨rfl, rfl, by dsimp only [Pt.cells]; omega, by dsimp only [Pt.slots]; omega⟩)
  dsimp only [Pt.U, Pt.locs, Pt.cells, Pt.slots] at Y' l' y' z' k hV
  subst l' y' z'
  exact (G T' v V' hR ⟨_, _, _, by omega, by omega, Y', Fr.app N hN, hV⟩).step k
theorem gCallI (E : oE p l e R s m args below meth c Z bytes own nm maxL ret) (X : oX p l e R s m args below meth c Z T V cells slots) {y : MethodName} {index : Nat} {bs : ByteArray} {mx : Nat} {rm : Room} {Ret' : Option Value → oVw → Prop} {W : Nat} {ps : List FieldType} {r : Option FieldType} {a : Addr} (argsL rest : List Value) (hd : decode bytes pc = .ok (.invokespecial index, 3)) (hy1 : y.name = "<init>")
    (w1 : (Jvm.Cond.methodLink own index y).before a0 Z = true) (w2 : (Jvm.Cond.instanceMethod y).before a0 Z = true) (w3 : (Jvm.Cond.initialized y.cls).before a0 Z = true) (w4 : (Jvm.Cond.code y bs mx none).before a0 Z = true) (hy : y.cls ≠ "java/lang/invoke/MethodHandle" ∧ y.cls ≠ "java/lang/invoke/VarHandle")
    (K : oCon l Z y bs mx none rm (.ref a :: argsL).toArray V Ret') (hds : parseMethodDescriptor y.desc = some ⟨ps, r⟩) (hlen : argsL.length = ps.length) (hst : st = argsL.reverse ++ .ref a :: rest) (hsz : Ls.size = maxL) (hf : rm.frames + 1 ≤ R.frames) (hW : (rest.map fun v => v.category).sum ≤ W) (hl : W + (mx + 11) + rm.locals ≤ R.locals)
    (hc : cells + rm.cells ≤ c2) (hs : slots + rm.slots ≤ s2) (hc2 : c2 ≤ R.cells) (hs2 : s2 ≤ R.slots) (hp : pc + 3 = q)
    (G : ∀ T' v V', Ret' v V' → oX p l e R s m args below meth c Z T' V' c2 s2 → oG p e below s Z R Ret T' (mkF m q Ls (v.toList ++ rest))) : oG p e below s Z R Ret T (mkF m pc Ls st) := by
  subst hp; obtain ⟨locs, c', s', q1, q2, Y, N, H⟩ := X
  obtain ⟨v, vm₁, ⟨T', L', k', n'⟩, -, Y', ⟨Lc, ⟨hN, V', hR, hV⟩, l', y', z'⟩, k⟩ := Y.specialBack E.1 (y := y) hy1 E.2.2.1 (mvT E.2.1 w1) (mvT E.2.1 w2) (mvT E.2.1 w4) hy (oBack (W := W) E K H w4 w3 hf hl) (g := mkF m pc Ls st) rfl (by rw [E.2.2.2.2.1]; exact hsz) (Steps.refl _) (a := a) (argsL := argsL) (rest := rest) (lenOf hds hlen) hst (by show 2 * 0 + _ ≤ _; omega) (hb E.2.2.2.1 hd) (fun _ _ => ⟨rfl, rfl, by dsimp only [Pt.cells]; omega, by dsimp only [Pt.slots]; omega⟩)
  dsimp only [Pt.U, Pt.locs, Pt.cells, Pt.slots] at Y' l' y' z' k hV
  subst l' y' z'
  exact (G T' v V' hR ⟨_, _, _, by omega, by omega, Y', Fr.app N hN, hV⟩).steps k
theorem gCallV (E : oE p l e R s m args below meth c Z bytes own nm maxL ret) (X : oX p l e R s m args below meth c Z T V cells slots) {y z : MethodName} {C : String} {index i : Nat} {bs : ByteArray} {mx : Nat} {rt : Option FieldType} {rm : Room} {Ret' : Option Value → oVw → Prop} {W : Nat} {ps : List FieldType} {r : Option FieldType} {a : Addr} {fs : List (String × String × String × Value)} (argsL rest : List Value) (hd : decode bytes pc = .ok (.invokevirtual index, 3)) (hi : V[i]? = some (a, .inl (C, fs)))
    (w1 : (Jvm.Cond.methodLink own index y).before a0 Z = true) (w2 : (Jvm.Cond.declares y).before a0 Z = true) (w5 : (Jvm.Cond.selects C y z).before a0 Z = true) (w6 : (Jvm.Cond.selects y.cls y y).before a0 Z = true) (w7 : (Jvm.Cond.instanceMethod z).before a0 Z = true) (w3 : (Jvm.Cond.initialized z.cls).before a0 Z = true) (w4 : (Jvm.Cond.code z bs mx rt).before a0 Z = true) (hy : y.cls ≠ "java/lang/invoke/MethodHandle" ∧ y.cls ≠ "java/lang/invoke/VarHandle")
    (K : oCon l Z z bs mx rt rm (.ref a :: argsL).toArray V Ret') (hds : parseMethodDescriptor y.desc = some ⟨ps, r⟩) (hlen : argsL.length = ps.length) (hst : st = argsL.reverse ++ .ref a :: rest) (hsz : Ls.size = maxL) (hf : rm.frames + 1 ≤ R.frames) (hW : (rest.map fun v => v.category).sum ≤ W) (hl : W + (mx + 11) + rm.locals ≤ R.locals)
    (hc : cells + rm.cells ≤ c2) (hs : slots + rm.slots ≤ s2) (hc2 : c2 ≤ R.cells) (hs2 : s2 ≤ R.slots) (hp : pc + 3 = q)
    (G : ∀ T' v V', Ret' v V' → oX p l e R s m args below meth c Z T' V' c2 s2 → oG p e below s Z R Ret T' (mkF m q Ls (v.toList ++ rest))) : oG p e below s Z R Ret T (mkF m pc Ls st) := by
  subst hp; obtain ⟨locs, c', s', q1, q2, Y, N, H⟩ := X
  obtain ⟨cq, kq, qa, qb, qc⟩ := isOf E.2.1 (T := T) rfl (H.sat hi).1
  obtain ⟨v, vm₁, ⟨T', L', k', n'⟩, -, Y', ⟨Lc, ⟨hN, V', hR, hV⟩, l', y', z'⟩, k⟩ := Y.virtualBack E.1 (y := y) (z := z) E.2.2.1 (mvT E.2.1 w1) (mvT E.2.1 w2) (notFace_of_selects (args := #[]) (mvT E.2.1 w6)) (mvT E.2.1 w5) (mvT E.2.1 w7) hy (oBack (W := W) E K H w4 w3 hf hl) qa qc (g := mkF m pc Ls st) rfl (by rw [E.2.2.2.2.1]; exact hsz) (Steps.refl _) (argsL := argsL) (rest := rest) (lenOf hds hlen) hst (by show 2 * 0 + _ ≤ _; omega) (hb E.2.2.2.1 hd) (fun _ _ => ⟨rfl, rfl, by dsimp only [Pt.cells]; omega, by dsimp only [Pt.slots]; omega⟩)
  dsimp only [Pt.U, Pt.locs, Pt.cells, Pt.slots] at Y' l' y' z' k hV
  subst l' y' z'
  exact (G T' v V' hR ⟨_, _, _, by omega, by omega, Y', Fr.app N hN, hV⟩).steps k
theorem gCallV0 (E : oE p l e R s m args below meth c Z bytes own nm maxL ret) (X : oX p l e R s m args below meth c Z T V cells slots) {y z : MethodName} {C : String} {index : Nat} {bs : ByteArray} {mx : Nat} {rt : Option FieldType} {rm : Room} {Ret' : Option Value → oVw → Prop} {W : Nat} {ps : List FieldType} {r : Option FieldType} {a : Addr} (argsL rest : List Value) (hd : decode bytes pc = .ok (.invokevirtual index, 3)) (hE : Exa Z Z.heap a C)
    (w1 : (Jvm.Cond.methodLink own index y).before a0 Z = true) (w2 : (Jvm.Cond.declares y).before a0 Z = true) (w5 : (Jvm.Cond.selects C y z).before a0 Z = true) (w6 : (Jvm.Cond.selects y.cls y y).before a0 Z = true) (w7 : (Jvm.Cond.instanceMethod z).before a0 Z = true) (w3 : (Jvm.Cond.initialized z.cls).before a0 Z = true) (w4 : (Jvm.Cond.code z bs mx rt).before a0 Z = true) (hy : y.cls ≠ "java/lang/invoke/MethodHandle" ∧ y.cls ≠ "java/lang/invoke/VarHandle")
    (K : oCon l Z z bs mx rt rm (.ref a :: argsL).toArray V Ret') (hds : parseMethodDescriptor y.desc = some ⟨ps, r⟩) (hlen : argsL.length = ps.length) (hst : st = argsL.reverse ++ .ref a :: rest) (hsz : Ls.size = maxL) (hf : rm.frames + 1 ≤ R.frames) (hW : (rest.map fun v => v.category).sum ≤ W) (hl : W + (mx + 11) + rm.locals ≤ R.locals)
    (hc : cells + rm.cells ≤ c2) (hs : slots + rm.slots ≤ s2) (hc2 : c2 ≤ R.cells) (hs2 : s2 ≤ R.slots) (hp : pc + 3 = q)
    (G : ∀ T' v V', Ret' v V' → oX p l e R s m args below meth c Z T' V' c2 s2 → oG p e below s Z R Ret T' (mkF m q Ls (v.toList ++ rest))) : oG p e below s Z R Ret T (mkF m pc Ls st) := by
  subst hp; obtain ⟨locs, c', s', q1, q2, Y, N, H⟩ := X
  obtain ⟨cq, kq, qa, qb, qc⟩ := isOf E.2.1 (T := T) rfl (hE.ext H.1)
  obtain ⟨v, vm₁, ⟨T', L', k', n'⟩, -, Y', ⟨Lc, ⟨hN, V', hR, hV⟩, l', y', z'⟩, k⟩ := Y.virtualBack E.1 (y := y) (z := z) E.2.2.1 (mvT E.2.1 w1) (mvT E.2.1 w2) (notFace_of_selects (args := #[]) (mvT E.2.1 w6)) (mvT E.2.1 w5) (mvT E.2.1 w7) hy (oBack (W := W) E K H w4 w3 hf hl) qa qc (g := mkF m pc Ls st) rfl (by rw [E.2.2.2.2.1]; exact hsz) (Steps.refl _) (argsL := argsL) (rest := rest) (lenOf hds hlen) hst (by show 2 * 0 + _ ≤ _; omega) (hb E.2.2.2.1 hd) (fun _ _ => ⟨rfl, rfl, by dsimp only [Pt.cells]; omega, by dsimp only [Pt.slots]; omega⟩)
  dsimp only [Pt.U, Pt.locs, Pt.cells, Pt.slots] at Y' l' y' z' k hV
  subst l' y' z'
  exact (G T' v V' hR ⟨_, _, _, by omega, by omega, Y', Fr.app N hN, hV⟩).steps k
end Walk

theorem oRemEq (x y : Int32) : x - x / y * y = x % y := by
  apply Int32.toInt_inj.mp
  rw [Int32.toInt_sub, Int32.toInt_mul, Int32.toInt_div, Int32.toInt_mod, Int.bmod_mul_bmod, Int.sub_bmod_bmod]
  have : x.toInt - x.toInt.tdiv y.toInt * y.toInt = x.toInt.tmod y.toInt := by rw [Int.tmod_def, Int.mul_comm]
  rw [this, ← Int32.toInt_mod]
  have h := rng32 (x % y)
  exact Int.bmod_eq_of_le (by omega) (by omega)
theorem oRemEqL (x y : Int64) : x - x / y * y = x % y := by
  apply Int64.toInt_inj.mp
  rw [Int64.toInt_sub, Int64.toInt_mul, Int64.toInt_div, Int64.toInt_mod, Int.bmod_mul_bmod, Int.sub_bmod_bmod]
  have : x.toInt - x.toInt.tdiv y.toInt * y.toInt = x.toInt.tmod y.toInt := by rw [Int.tmod_def, Int.mul_comm]
  rw [this, ← Int64.toInt_mod]
  have h := rng64 (x % y)
  exact Int.bmod_eq_of_le (by omega) (by omega)
theorem oBm32 {n : Int} (h : -2147483648 ≤ n ∧ n < 2147483648) : n.bmod (2 ^ 32) = n := Int.bmod_eq_of_le (by have := h.1; omega) (by have := h.2; omega)
theorem oBm64 {n : Int} (h : -9223372036854775808 ≤ n ∧ n < 9223372036854775808) : n.bmod (2 ^ 64) = n := Int.bmod_eq_of_le (by have := h.1; omega) (by have := h.2; omega)
theorem oAdd32 {x y : Int32} (h : -2147483648 ≤ (x.toInt + y.toInt) ∧ (x.toInt + y.toInt) < 2147483648) : (x + y).toInt = x.toInt + y.toInt := by rw [Int32.toInt_add, oBm32 h]
theorem oSub32 {x y : Int32} (h : -2147483648 ≤ (x.toInt - y.toInt) ∧ (x.toInt - y.toInt) < 2147483648) : (x - y).toInt = x.toInt - y.toInt := by rw [Int32.toInt_sub, oBm32 h]
theorem oMul32 {x y : Int32} (h : -2147483648 ≤ (x.toInt * y.toInt) ∧ (x.toInt * y.toInt) < 2147483648) : (x * y).toInt = x.toInt * y.toInt := by rw [Int32.toInt_mul, oBm32 h]
theorem oAdd64 {x y : Int64} (h : -9223372036854775808 ≤ (x.toInt + y.toInt) ∧ (x.toInt + y.toInt) < 9223372036854775808) : (x + y).toInt = x.toInt + y.toInt := by rw [Int64.toInt_add, oBm64 h]
theorem oSub64 {x y : Int64} (h : -9223372036854775808 ≤ (x.toInt - y.toInt) ∧ (x.toInt - y.toInt) < 9223372036854775808) : (x - y).toInt = x.toInt - y.toInt := by rw [Int64.toInt_sub, oBm64 h]
theorem oMul64 {x y : Int64} (h : -9223372036854775808 ≤ (x.toInt * y.toInt) ∧ (x.toInt * y.toInt) < 9223372036854775808) : (x * y).toInt = x.toInt * y.toInt := by rw [Int64.toInt_mul, oBm64 h]
theorem oRem32 {x y : Int32} (hx : 0 ≤ x.toInt) : (x % y).toInt = x.toInt % y.toInt := by rw [Int32.toInt_mod, Int.tmod_eq_emod_of_nonneg hx]
theorem oIx (x k : Int32) (hx : 0 ≤ x.toInt) (hk : 0 ≤ k.toInt) (h : x.toInt + k.toInt < 2147483648) : ¬ (x + k) < 0 ∧ (x + k).toNatClampNeg = x.toNatClampNeg + k.toNatClampNeg := by
  have e : (x + k).toInt = x.toInt + k.toInt := XT.add32 ⟨by omega, by omega⟩
  refine ⟨by rw [XT.negI32]; omega, ?_⟩
  simp only [Int32.toNatClampNeg, e]; omega
theorem oSto {l l' : Array Slot} {i : Nat} {v : Value} {o : Slot} (hold : l[i]? = some o) (ho : One o) (hv : v.category = 1) (e : l.setIfInBounds i (.val v) = l') : storeLocals l i v = some l' := by rw [XS.store1 hold ho hv, e]
theorem oEqI {t : Term} {n : Int32} {args : Array Value} {s : State} (h : (Jvm.Cond.eq t (.int n)).value args s none s [] = some true) : t.eval args s none [] s = some (.int n) := by
  simp only [Cond.value, Term.eval] at h
  cases ht : t.eval args s none [] s with
  | none => simp [ht] at h
  | some x => cases x <;> simp [ht] at h ⊢ <;> exact h
theorem oEqR {t u : Term} {b : Addr} {args : Array Value} {s : State} (h : (Jvm.Cond.eq t u).value args s none s [] = some true) (hu : u.eval args s none [] s = some (.ref b)) : t.eval args s none [] s = some (.ref b) := by
  simp only [Cond.value, hu] at h
  cases ht : t.eval args s none [] s with
  | none => simp [ht] at h
  | some x => cases x <;> simp [ht] at h ⊢ <;> exact h
theorem oN0 {x : Int32} (hx : 0 ≤ x.toInt) : ¬ x < 0 := by rw [XT.negI32]; omega
theorem oB8 (x : Int32) : nar .byte x.toInt8.toInt32 = x.toInt8.toInt32 := by simp [nar]
theorem oLt {α : Type} {l : List α} {i : Nat} {x : α} (h : l[i]? = some x) : i < l.length := (List.getElem?_eq_some_iff.mp h).1
theorem oNarR {t : FieldType} {v : Value} (h : v.isRef = true) : narrow t v = v := by cases v <;> simp [Value.isRef] at h <;> cases t <;> rfl
theorem oFitR {t : FieldType} {v : Value} (ht : t.isReference = true) (h : v.isRef = true) : fits t v = true := by cases v <;> simp [Value.isRef] at h <;> cases t <;> first | rfl | cases ht
theorem own_m32 (i : Nat) (hi : i < 64) : (4294967295#64)[i] = decide (i < 32) := by
  rw [← BitVec.getLsbD_eq_getElem, show (4294967295#64) = BitVec.ofNat 64 (2^32-1) from rfl, BitVec.getLsbD_ofNat, Nat.testBit_two_pow_sub_one]; simp [hi]
theorem own_m32' (i : Nat) (hi : i < 64) : (4294967295#64).getLsbD i = decide (i < 32) := by
  rw [BitVec.getLsbD_eq_getElem hi, own_m32 i hi]
theorem own_a32 (i : Nat) (hi : i < 32) : (4294967295#32)[i] = true := by
  rw [← BitVec.getLsbD_eq_getElem, show (4294967295#32) = BitVec.ofNat 32 (2^32-1) from rfl, BitVec.getLsbD_ofNat, Nat.testBit_two_pow_sub_one]; simp [hi]
def own_x (en w : Int32) : Int64 := (en.toInt64 <<< ((32 : Int32).toInt64 &&& 63)) ||| (w.toInt64 &&& (4294967295 : Int64))
theorem own_xb (en w : Int32) : (own_x en w).toBitVec = (en.toBitVec.signExtend 64) <<< 32 ||| (w.toBitVec.signExtend 64 &&& 4294967295#64) := by
  have e : (32 : Int32).toInt64 &&& 63 = 32 := by decide
  rw [own_x, e]; rfl
theorem own_hi (en w : Int32) : (XT.ushrL (own_x en w) (32 : Int32)).toInt32 = en := by
  apply Int32.toBitVec_inj.mp
  have e : (XT.ushrL (own_x en w) (32 : Int32)).toInt32.toBitVec = ((own_x en w).toBitVec >>> 32).signExtend 32 := by
    have e : ((32 : Int32).toInt64.toUInt64 &&& Int64.toUInt64 63) = 32 := by decide
    rw [XT.ushrL, e]; rfl
  rw [e, own_xb]
  ext i hi
  simp [BitVec.getElem_signExtend, hi, own_m32, show i < 64 by omega, show ¬ 32 + i < 32 by omega, show 32 + i < 64 by omega]
theorem own_lo (en w : Int32) : (own_x en w).toInt32 = w := by
  apply Int32.toBitVec_inj.mp
  have e : (own_x en w).toInt32.toBitVec = ((own_x en w).toBitVec).signExtend 32 := rfl
  rw [e, own_xb]
  ext i hi
  simp [BitVec.getElem_signExtend, hi, show i < 64 by omega]
  intro _
  exact own_a32 i hi
theorem own_5 (x : Int32) : (x &&& (7 : Int32)) % (5 : Int32) = 0 ∨ (x &&& (7 : Int32)) % (5 : Int32) = 1 ∨ (x &&& (7 : Int32)) % (5 : Int32) = 2 ∨ (x &&& (7 : Int32)) % (5 : Int32) = 3 ∨ (x &&& (7 : Int32)) % (5 : Int32) = 4 := by
  have h := c_mask x 7 3 (by decide) (by decide)
  have e : (5 : Int32).toInt = 5 := rfl
  have h2 : ((x &&& (7 : Int32)) % (5 : Int32)).toInt = (x &&& (7 : Int32)).toInt % 5 := by rw [oRem32 (by omega), e]
  simp only [← Int32.toInt_inj, h2]
  show _ = 0 ∨ _ = 1 ∨ _ = 2 ∨ _ = 3 ∨ _ = 4
  omega
theorem own_b5 {x : Int32} (h : x = 0 ∨ x = 1 ∨ x = 2 ∨ x = 3 ∨ x = 4) : 0 ≤ x.toInt ∧ x.toInt ≤ 4 ∧ x.toNatClampNeg ≤ 4 := by
  rcases h with rfl | rfl | rfl | rfl | rfl <;> decide
theorem own_sl {x y : Int32} (h : x = 0 ∨ x = 1 ∨ x = 2 ∨ x = 3 ∨ x = 4) (g : y = 0 ∨ y = 1 ∨ y = 2 ∨ y = 3 ∨ y = 4) : XT.ushr (x <<< ((3 : Int32) &&& 31) ||| y) (3 : Int32) = x ∧ (x <<< ((3 : Int32) &&& 31) ||| y) &&& (7 : Int32) = y := by
  rcases h with rfl | rfl | rfl | rfl | rfl <;> rcases g with rfl | rfl | rfl | rfl | rfl <;> decide
theorem own_rd (L : List Value) (n : Nat) (x0 x1 x2 x3 : Value) (h : n + 3 < L.length) : ((((L.set n x0).set (n+1) x1).set (n+2) x2).set (n+3) x3)[n]? = some x0 ∧ ((((L.set n x0).set (n+1) x1).set (n+2) x2).set (n+3) x3)[n+1]? = some x1 ∧ ((((L.set n x0).set (n+1) x1).set (n+2) x2).set (n+3) x3)[n+2]? = some x2 ∧ ((((L.set n x0).set (n+1) x1).set (n+2) x2).set (n+3) x3)[n+3]? = some x3 := by
  simp [List.getElem?_set]; omega
abbrev own_S : Int64 := (6840227782638526189 : Int64)
def own_C (t i en a b d f : Int32) : Prop :=
    ∃ xx, ((((([Value.long own_S, .long own_S, .long own_S, .long own_S, .long own_S, .long own_S, .long own_S, .long own_S]).set t.toNatClampNeg (.long (own_x en a))).set (t.toNatClampNeg + 1) (.long (own_x en b))).set (t.toNatClampNeg + 2) (.long (own_x en d))).set (t.toNatClampNeg + 3) (.long (own_x en f)))[i.toNatClampNeg]? = some (.long xx) ∧
      ((i - t) < 0 ∨ (3 : Int32) < (i - t) → xx = own_S) ∧ (¬ (i - t) < 0 → ¬ (3 : Int32) < (i - t) → (XT.ushrL xx (32 : Int32)).toInt32 = en ∧ ([Value.int a, .int b, .int d, .int f])[(i - t).toNatClampNeg]? = some (.int xx.toInt32))
theorem own_c00 (en a b d f : Int32) : own_C (0 : Int32) (0 : Int32) en a b d f := by
  exact ⟨_, rfl, fun h => absurd h (by decide), fun _ _ => ⟨own_hi _ _, by rw [own_lo]; rfl⟩⟩
theorem own_c01 (en a b d f : Int32) : own_C (0 : Int32) (1 : Int32) en a b d f := by
  exact ⟨_, rfl, fun h => absurd h (by decide), fun _ _ => ⟨own_hi _ _, by rw [own_lo]; rfl⟩⟩
theorem own_c02 (en a b d f : Int32) : own_C (0 : Int32) (2 : Int32) en a b d f := by
  exact ⟨_, rfl, fun h => absurd h (by decide), fun _ _ => ⟨own_hi _ _, by rw [own_lo]; rfl⟩⟩
theorem own_c03 (en a b d f : Int32) : own_C (0 : Int32) (3 : Int32) en a b d f := by
  exact ⟨_, rfl, fun h => absurd h (by decide), fun _ _ => ⟨own_hi _ _, by rw [own_lo]; rfl⟩⟩
theorem own_c04 (en a b d f : Int32) : own_C (0 : Int32) (4 : Int32) en a b d f := by
  exact ⟨_, rfl, fun _ => rfl, fun h1 h2 => absurd h2 (by decide)⟩
theorem own_c05 (en a b d f : Int32) : own_C (0 : Int32) (5 : Int32) en a b d f := by
  exact ⟨_, rfl, fun _ => rfl, fun h1 h2 => absurd h2 (by decide)⟩
theorem own_c06 (en a b d f : Int32) : own_C (0 : Int32) (6 : Int32) en a b d f := by
  exact ⟨_, rfl, fun _ => rfl, fun h1 h2 => absurd h2 (by decide)⟩
theorem own_c07 (en a b d f : Int32) : own_C (0 : Int32) (7 : Int32) en a b d f := by
  exact ⟨_, rfl, fun _ => rfl, fun h1 h2 => absurd h2 (by decide)⟩
theorem own_c10 (en a b d f : Int32) : own_C (1 : Int32) (0 : Int32) en a b d f := by
  exact ⟨_, rfl, fun _ => rfl, fun h1 h2 => absurd h1 (by decide)⟩
theorem own_c11 (en a b d f : Int32) : own_C (1 : Int32) (1 : Int32) en a b d f := by
  exact ⟨_, rfl, fun h => absurd h (by decide), fun _ _ => ⟨own_hi _ _, by rw [own_lo]; rfl⟩⟩
theorem own_c12 (en a b d f : Int32) : own_C (1 : Int32) (2 : Int32) en a b d f := by
  exact ⟨_, rfl, fun h => absurd h (by decide), fun _ _ => ⟨own_hi _ _, by rw [own_lo]; rfl⟩⟩
theorem own_c13 (en a b d f : Int32) : own_C (1 : Int32) (3 : Int32) en a b d f := by
  exact ⟨_, rfl, fun h => absurd h (by decide), fun _ _ => ⟨own_hi _ _, by rw [own_lo]; rfl⟩⟩
theorem own_c14 (en a b d f : Int32) : own_C (1 : Int32) (4 : Int32) en a b d f := by
  exact ⟨_, rfl, fun h => absurd h (by decide), fun _ _ => ⟨own_hi _ _, by rw [own_lo]; rfl⟩⟩
theorem own_c15 (en a b d f : Int32) : own_C (1 : Int32) (5 : Int32) en a b d f := by
  exact ⟨_, rfl, fun _ => rfl, fun h1 h2 => absurd h2 (by decide)⟩
theorem own_c16 (en a b d f : Int32) : own_C (1 : Int32) (6 : Int32) en a b d f := by
  exact ⟨_, rfl, fun _ => rfl, fun h1 h2 => absurd h2 (by decide)⟩
theorem own_c17 (en a b d f : Int32) : own_C (1 : Int32) (7 : Int32) en a b d f := by
  exact ⟨_, rfl, fun _ => rfl, fun h1 h2 => absurd h2 (by decide)⟩
theorem own_c20 (en a b d f : Int32) : own_C (2 : Int32) (0 : Int32) en a b d f := by
  exact ⟨_, rfl, fun _ => rfl, fun h1 h2 => absurd h1 (by decide)⟩
theorem own_c21 (en a b d f : Int32) : own_C (2 : Int32) (1 : Int32) en a b d f := by
  exact ⟨_, rfl, fun _ => rfl, fun h1 h2 => absurd h1 (by decide)⟩
theorem own_c22 (en a b d f : Int32) : own_C (2 : Int32) (2 : Int32) en a b d f := by
  exact ⟨_, rfl, fun h => absurd h (by decide), fun _ _ => ⟨own_hi _ _, by rw [own_lo]; rfl⟩⟩
theorem own_c23 (en a b d f : Int32) : own_C (2 : Int32) (3 : Int32) en a b d f := by
  exact ⟨_, rfl, fun h => absurd h (by decide), fun _ _ => ⟨own_hi _ _, by rw [own_lo]; rfl⟩⟩
theorem own_c24 (en a b d f : Int32) : own_C (2 : Int32) (4 : Int32) en a b d f := by
  exact ⟨_, rfl, fun h => absurd h (by decide), fun _ _ => ⟨own_hi _ _, by rw [own_lo]; rfl⟩⟩
theorem own_c25 (en a b d f : Int32) : own_C (2 : Int32) (5 : Int32) en a b d f := by
  exact ⟨_, rfl, fun h => absurd h (by decide), fun _ _ => ⟨own_hi _ _, by rw [own_lo]; rfl⟩⟩
theorem own_c26 (en a b d f : Int32) : own_C (2 : Int32) (6 : Int32) en a b d f := by
  exact ⟨_, rfl, fun _ => rfl, fun h1 h2 => absurd h2 (by decide)⟩
theorem own_c27 (en a b d f : Int32) : own_C (2 : Int32) (7 : Int32) en a b d f := by
  exact ⟨_, rfl, fun _ => rfl, fun h1 h2 => absurd h2 (by decide)⟩
theorem own_c30 (en a b d f : Int32) : own_C (3 : Int32) (0 : Int32) en a b d f := by
  exact ⟨_, rfl, fun _ => rfl, fun h1 h2 => absurd h1 (by decide)⟩
theorem own_c31 (en a b d f : Int32) : own_C (3 : Int32) (1 : Int32) en a b d f := by
  exact ⟨_, rfl, fun _ => rfl, fun h1 h2 => absurd h1 (by decide)⟩
theorem own_c32 (en a b d f : Int32) : own_C (3 : Int32) (2 : Int32) en a b d f := by
  exact ⟨_, rfl, fun _ => rfl, fun h1 h2 => absurd h1 (by decide)⟩
theorem own_c33 (en a b d f : Int32) : own_C (3 : Int32) (3 : Int32) en a b d f := by
  exact ⟨_, rfl, fun h => absurd h (by decide), fun _ _ => ⟨own_hi _ _, by rw [own_lo]; rfl⟩⟩
theorem own_c34 (en a b d f : Int32) : own_C (3 : Int32) (4 : Int32) en a b d f := by
  exact ⟨_, rfl, fun h => absurd h (by decide), fun _ _ => ⟨own_hi _ _, by rw [own_lo]; rfl⟩⟩
theorem own_c35 (en a b d f : Int32) : own_C (3 : Int32) (5 : Int32) en a b d f := by
  exact ⟨_, rfl, fun h => absurd h (by decide), fun _ _ => ⟨own_hi _ _, by rw [own_lo]; rfl⟩⟩
theorem own_c36 (en a b d f : Int32) : own_C (3 : Int32) (6 : Int32) en a b d f := by
  exact ⟨_, rfl, fun h => absurd h (by decide), fun _ _ => ⟨own_hi _ _, by rw [own_lo]; rfl⟩⟩
theorem own_c37 (en a b d f : Int32) : own_C (3 : Int32) (7 : Int32) en a b d f := by
  exact ⟨_, rfl, fun _ => rfl, fun h1 h2 => absurd h2 (by decide)⟩
theorem own_c40 (en a b d f : Int32) : own_C (4 : Int32) (0 : Int32) en a b d f := by
  exact ⟨_, rfl, fun _ => rfl, fun h1 h2 => absurd h1 (by decide)⟩
theorem own_c41 (en a b d f : Int32) : own_C (4 : Int32) (1 : Int32) en a b d f := by
  exact ⟨_, rfl, fun _ => rfl, fun h1 h2 => absurd h1 (by decide)⟩
theorem own_c42 (en a b d f : Int32) : own_C (4 : Int32) (2 : Int32) en a b d f := by
  exact ⟨_, rfl, fun _ => rfl, fun h1 h2 => absurd h1 (by decide)⟩
theorem own_c43 (en a b d f : Int32) : own_C (4 : Int32) (3 : Int32) en a b d f := by
  exact ⟨_, rfl, fun _ => rfl, fun h1 h2 => absurd h1 (by decide)⟩
theorem own_c44 (en a b d f : Int32) : own_C (4 : Int32) (4 : Int32) en a b d f := by
  exact ⟨_, rfl, fun h => absurd h (by decide), fun _ _ => ⟨own_hi _ _, by rw [own_lo]; rfl⟩⟩
theorem own_c45 (en a b d f : Int32) : own_C (4 : Int32) (5 : Int32) en a b d f := by
  exact ⟨_, rfl, fun h => absurd h (by decide), fun _ _ => ⟨own_hi _ _, by rw [own_lo]; rfl⟩⟩
theorem own_c46 (en a b d f : Int32) : own_C (4 : Int32) (6 : Int32) en a b d f := by
  exact ⟨_, rfl, fun h => absurd h (by decide), fun _ _ => ⟨own_hi _ _, by rw [own_lo]; rfl⟩⟩
theorem own_c47 (en a b d f : Int32) : own_C (4 : Int32) (7 : Int32) en a b d f := by
  exact ⟨_, rfl, fun h => absurd h (by decide), fun _ _ => ⟨own_hi _ _, by rw [own_lo]; rfl⟩⟩
theorem own_c (t i : Int32) (ht : t = 0 ∨ t = 1 ∨ t = 2 ∨ t = 3 ∨ t = 4) (hi : i = 0 ∨ i = 1 ∨ i = 2 ∨ i = 3 ∨ i = 4 ∨ i = 5 ∨ i = 6 ∨ i = 7) (en a b d f : Int32) : own_C t i en a b d f := by
  rcases ht with rfl | rfl | rfl | rfl | rfl <;> rcases hi with rfl | rfl | rfl | rfl | rfl | rfl | rfl | rfl
  · exact own_c00 _ _ _ _ _
  · exact own_c01 _ _ _ _ _
  · exact own_c02 _ _ _ _ _
  · exact own_c03 _ _ _ _ _
  · exact own_c04 _ _ _ _ _
  · exact own_c05 _ _ _ _ _
  · exact own_c06 _ _ _ _ _
  · exact own_c07 _ _ _ _ _
  · exact own_c10 _ _ _ _ _
  · exact own_c11 _ _ _ _ _
  · exact own_c12 _ _ _ _ _
  · exact own_c13 _ _ _ _ _
  · exact own_c14 _ _ _ _ _
  · exact own_c15 _ _ _ _ _
  · exact own_c16 _ _ _ _ _
  · exact own_c17 _ _ _ _ _
  · exact own_c20 _ _ _ _ _
  · exact own_c21 _ _ _ _ _
  · exact own_c22 _ _ _ _ _
  · exact own_c23 _ _ _ _ _
  · exact own_c24 _ _ _ _ _
  · exact own_c25 _ _ _ _ _
  · exact own_c26 _ _ _ _ _
  · exact own_c27 _ _ _ _ _
  · exact own_c30 _ _ _ _ _
  · exact own_c31 _ _ _ _ _
  · exact own_c32 _ _ _ _ _
  · exact own_c33 _ _ _ _ _
  · exact own_c34 _ _ _ _ _
  · exact own_c35 _ _ _ _ _
  · exact own_c36 _ _ _ _ _
  · exact own_c37 _ _ _ _ _
  · exact own_c40 _ _ _ _ _
  · exact own_c41 _ _ _ _ _
  · exact own_c42 _ _ _ _ _
  · exact own_c43 _ _ _ _ _
  · exact own_c44 _ _ _ _ _
  · exact own_c45 _ _ _ _ _
  · exact own_c46 _ _ _ _ _
  · exact own_c47 _ _ _ _ _
theorem d1_0 : decode prog_24_method_10_code 0 = .ok (.iload_n 1, 1) := by decide +kernel
theorem d1_1 : decode prog_24_method_10_code 1 = .ok (.iconst 3, 1) := by decide +kernel
theorem d1_2 : decode prog_24_method_10_code 2 = .ok (.iushr, 1) := by decide +kernel
theorem d1_3 : decode prog_24_method_10_code 3 = .ok (.istore 5, 2) := by decide +kernel
theorem d1_5 : decode prog_24_method_10_code 5 = .ok (.iload_n 2, 1) := by decide +kernel
theorem d1_6 : decode prog_24_method_10_code 6 = .ok (.i2l, 1) := by decide +kernel
theorem d1_7 : decode prog_24_method_10_code 7 = .ok (.bipush 32, 2) := by decide +kernel
theorem d1_9 : decode prog_24_method_10_code 9 = .ok (.lshl, 1) := by decide +kernel
theorem d1_10 : decode prog_24_method_10_code 10 = .ok (.lstore 6, 2) := by decide +kernel
theorem d1_12 : decode prog_24_method_10_code 12 = .ok (.aload_n 3, 1) := by decide +kernel
theorem d1_13 : decode prog_24_method_10_code 13 = .ok (.iload 4, 2) := by decide +kernel
theorem d1_15 : decode prog_24_method_10_code 15 = .ok (.lload 6, 2) := by decide +kernel
theorem d1_17 : decode prog_24_method_10_code 17 = .ok (.aload_n 0, 1) := by decide +kernel
theorem d1_18 : decode prog_24_method_10_code 18 = .ok (.iload 5, 2) := by decide +kernel
theorem d1_20 : decode prog_24_method_10_code 20 = .ok (.iaload, 1) := by decide +kernel
theorem d1_21 : decode prog_24_method_10_code 21 = .ok (.i2l, 1) := by decide +kernel
theorem d1_22 : decode prog_24_method_10_code 22 = .ok (.ldc2_w 141, 3) := by decide +kernel
theorem d1_25 : decode prog_24_method_10_code 25 = .ok (.land, 1) := by decide +kernel
theorem d1_26 : decode prog_24_method_10_code 26 = .ok (.lor, 1) := by decide +kernel
theorem d1_27 : decode prog_24_method_10_code 27 = .ok (.lastore, 1) := by decide +kernel
theorem d1_28 : decode prog_24_method_10_code 28 = .ok (.aload_n 3, 1) := by decide +kernel
theorem d1_29 : decode prog_24_method_10_code 29 = .ok (.iload 4, 2) := by decide +kernel
theorem d1_31 : decode prog_24_method_10_code 31 = .ok (.iconst 1, 1) := by decide +kernel
theorem d1_32 : decode prog_24_method_10_code 32 = .ok (.iadd, 1) := by decide +kernel
theorem d1_33 : decode prog_24_method_10_code 33 = .ok (.lload 6, 2) := by decide +kernel
theorem d1_35 : decode prog_24_method_10_code 35 = .ok (.aload_n 0, 1) := by decide +kernel
theorem d1_36 : decode prog_24_method_10_code 36 = .ok (.iload 5, 2) := by decide +kernel
theorem d1_38 : decode prog_24_method_10_code 38 = .ok (.iconst 1, 1) := by decide +kernel
theorem d1_39 : decode prog_24_method_10_code 39 = .ok (.iadd, 1) := by decide +kernel
theorem d1_40 : decode prog_24_method_10_code 40 = .ok (.iaload, 1) := by decide +kernel
theorem d1_41 : decode prog_24_method_10_code 41 = .ok (.i2l, 1) := by decide +kernel
theorem d1_42 : decode prog_24_method_10_code 42 = .ok (.ldc2_w 141, 3) := by decide +kernel
theorem d1_45 : decode prog_24_method_10_code 45 = .ok (.land, 1) := by decide +kernel
theorem d1_46 : decode prog_24_method_10_code 46 = .ok (.lor, 1) := by decide +kernel
theorem d1_47 : decode prog_24_method_10_code 47 = .ok (.lastore, 1) := by decide +kernel
theorem d1_48 : decode prog_24_method_10_code 48 = .ok (.aload_n 3, 1) := by decide +kernel
theorem d1_49 : decode prog_24_method_10_code 49 = .ok (.iload 4, 2) := by decide +kernel
theorem d1_51 : decode prog_24_method_10_code 51 = .ok (.iconst 2, 1) := by decide +kernel
theorem d1_52 : decode prog_24_method_10_code 52 = .ok (.iadd, 1) := by decide +kernel
theorem d1_53 : decode prog_24_method_10_code 53 = .ok (.lload 6, 2) := by decide +kernel
theorem d1_55 : decode prog_24_method_10_code 55 = .ok (.aload_n 0, 1) := by decide +kernel
theorem d1_56 : decode prog_24_method_10_code 56 = .ok (.iload 5, 2) := by decide +kernel
theorem d1_58 : decode prog_24_method_10_code 58 = .ok (.iconst 2, 1) := by decide +kernel
theorem d1_59 : decode prog_24_method_10_code 59 = .ok (.iadd, 1) := by decide +kernel
theorem d1_60 : decode prog_24_method_10_code 60 = .ok (.iaload, 1) := by decide +kernel
theorem d1_61 : decode prog_24_method_10_code 61 = .ok (.i2l, 1) := by decide +kernel
theorem d1_62 : decode prog_24_method_10_code 62 = .ok (.ldc2_w 141, 3) := by decide +kernel
theorem d1_65 : decode prog_24_method_10_code 65 = .ok (.land, 1) := by decide +kernel
theorem d1_66 : decode prog_24_method_10_code 66 = .ok (.lor, 1) := by decide +kernel
theorem d1_67 : decode prog_24_method_10_code 67 = .ok (.lastore, 1) := by decide +kernel
theorem d1_68 : decode prog_24_method_10_code 68 = .ok (.aload_n 3, 1) := by decide +kernel
theorem d1_69 : decode prog_24_method_10_code 69 = .ok (.iload 4, 2) := by decide +kernel
theorem d1_71 : decode prog_24_method_10_code 71 = .ok (.iconst 3, 1) := by decide +kernel
theorem d1_72 : decode prog_24_method_10_code 72 = .ok (.iadd, 1) := by decide +kernel
theorem d1_73 : decode prog_24_method_10_code 73 = .ok (.lload 6, 2) := by decide +kernel
theorem d1_75 : decode prog_24_method_10_code 75 = .ok (.aload_n 0, 1) := by decide +kernel
theorem d1_76 : decode prog_24_method_10_code 76 = .ok (.iload 5, 2) := by decide +kernel
theorem d1_78 : decode prog_24_method_10_code 78 = .ok (.iconst 3, 1) := by decide +kernel
theorem d1_79 : decode prog_24_method_10_code 79 = .ok (.iadd, 1) := by decide +kernel
theorem d1_80 : decode prog_24_method_10_code 80 = .ok (.iaload, 1) := by decide +kernel
theorem d1_81 : decode prog_24_method_10_code 81 = .ok (.i2l, 1) := by decide +kernel
theorem d1_82 : decode prog_24_method_10_code 82 = .ok (.ldc2_w 141, 3) := by decide +kernel
theorem d1_85 : decode prog_24_method_10_code 85 = .ok (.land, 1) := by decide +kernel
theorem d1_86 : decode prog_24_method_10_code 86 = .ok (.lor, 1) := by decide +kernel
theorem d1_87 : decode prog_24_method_10_code 87 = .ok (.lastore, 1) := by decide +kernel
theorem d1_88 : decode prog_24_method_10_code 88 = .ok (.iload 4, 2) := by decide +kernel
theorem d1_90 : decode prog_24_method_10_code 90 = .ok (.iload_n 1, 1) := by decide +kernel
theorem d1_91 : decode prog_24_method_10_code 91 = .ok (.bipush 7, 2) := by decide +kernel
theorem d1_93 : decode prog_24_method_10_code 93 = .ok (.iand, 1) := by decide +kernel
theorem d1_94 : decode prog_24_method_10_code 94 = .ok (.iadd, 1) := by decide +kernel
theorem d1_95 : decode prog_24_method_10_code 95 = .ok (.ireturn, 1) := by decide +kernel
theorem pn_com_example_rakau_rakau_OutputLists : plainName "com/example/rakau/rakau/OutputLists" = true := by first | (simp [plainName, overriddenIn]; done) | decide +kernel
set_option maxRecDepth 65536 in
set_option maxHeartbeats 40000000 in
theorem cC (l : Launch) (Z : State) (a0 : Array Value) (hw : ∀ d ∈ tables_1, d.before a0 Z = true) {V : oVw} (a : Addr) (y1 : Int32) (y2 : Int32) (b : Addr) (tt : Int32) (ss : Int32) (ll : Int32) (w0 : Int32) (w1 : Int32) (w2 : Int32) (w3 : Int32) (vs : List Value) (us : List Value) {i : Nat} (hi : V[i]? = some (a, (.inr (.int, vs)))) {k : Nat} (hk : V[k]? = some (b, (.inr (.long, us)))) (hik : k ≠ i) (hs : XT.ushr y1 (3 : Int32) = ss) (hl : y1 &&& (7 : Int32) = ll) (hss : 0 ≤ ss.toInt ∧ ss.toInt ≤ 4) (htt : 0 ≤ tt.toInt ∧ tt.toInt ≤ 4) (hlen : tt.toNatClampNeg + 3 < us.length) (r0 : vs[ss.toNatClampNeg]? = some (.int w0)) (r1 : vs[ss.toNatClampNeg + 1]? = some (.int w1)) (r2 : vs[ss.toNatClampNeg + 2]? = some (.int w2)) (r3 : vs[ss.toNatClampNeg + 3]? = some (.int w3)) :
    oCon l Z (⟨"com/example/rakau/rakau/OutputLists", "copy", "([III[JI)I"⟩ : MethodName) prog_24_method_10_code 8 (some .int) ({ frames := 0, cells := 0, slots := 0, locals := 0 } : Room) #[(.ref a), (.int y1), (.int y2), (.ref b), (.int tt)] V (fun v V' => v = some (.int (tt + ll)) ∧ V' = V.set k (b, .inr (.long, ((((us.set tt.toNatClampNeg (.long (own_x y2 w0))).set (tt.toNatClampNeg + 1) (.long (own_x y2 w1))).set (tt.toNatClampNeg + 2) (.long (own_x y2 w2))).set (tt.toNatClampNeg + 3) (.long (own_x y2 w3)))))) := by
  refine oEnter (plainFor_of_name pn_com_example_rakau_rakau_OutputLists) (Ls := #[.val (.ref a), .val (.int y1), .val (.int y2), .val (.ref b), .val (.int tt), .unset, .unset, .unset]) (fun m => by first | (simp [entryFrame, mkF, argsToLocals, Value.category]; done) | rfl) ?_
  intro p e s m below meth c T E X
  have hlen0 : tt.toNatClampNeg < us.length := by omega
  refine gIloadN E X d1_0 rfl (q := 1) rfl ?_
  refine gIconst E X d1_1 (v := (3 : Int32)) (by decide) (q := 2) rfl ?_
  refine gIushr E X d1_2 (z := ss) hs (q := 3) rfl ?_
  refine gIstore E X d1_3 (l' := #[.val (.ref a), .val (.int y1), .val (.int y2), .val (.ref b), .val (.int tt), .val (.int ss), .unset, .unset]) rfl (q := 5) rfl ?_
  refine gIloadN E X d1_5 rfl (q := 6) rfl ?_
  refine gI2l E X d1_6 (z := y2.toInt64) rfl (q := 7) rfl ?_
  refine gBipush E X d1_7 (v := (32 : Int32)) (by decide) (q := 9) rfl ?_
  refine gLshl E X d1_9 (z := (y2.toInt64 <<< ((32 : Int32).toInt64 &&& 63))) rfl (q := 10) rfl ?_
  refine gLstore E X d1_10 (l' := #[.val (.ref a), .val (.int y1), .val (.int y2), .val (.ref b), .val (.int tt), .val (.int ss), .val (.long (y2.toInt64 <<< ((32 : Int32).toInt64 &&& 63))), .second]) rfl (q := 12) rfl ?_
  refine gAloadN E X d1_12 rfl rfl (q := 13) rfl ?_
  refine gIload E X d1_13 rfl (q := 15) rfl ?_
  refine gLload E X d1_15 rfl (q := 17) rfl ?_
  refine gAloadN E X d1_17 rfl rfl (q := 18) rfl ?_
  refine gIload E X d1_18 rfl (q := 20) rfl ?_
  refine gIaload E X (i := i) (v := (.int w0)) d1_20 hi (oN0 hss.1) r0 (q := 21) rfl ?_
  refine gI2l E X d1_21 (z := w0.toInt64) rfl (q := 22) rfl ?_
  refine gLdc2J E X d1_22 (hw _ (List.mem_of_getElem? (i := 15) rfl)) (q := 25) rfl ?_
  refine gLand E X d1_25 (z := (w0.toInt64 &&& (4294967295 : Int64))) rfl (q := 26) rfl ?_
  refine gLor E X d1_26 (z := (own_x y2 w0)) rfl (q := 27) rfl ?_
  refine gLastore E X (i := k) (jn := tt.toNatClampNeg) (x' := (own_x y2 w0)) (V' := (V.set k (b, (.inr (.long, (us.set tt.toNatClampNeg (.long (own_x y2 w0)))))))) d1_27 hk (oN0 htt.1) rfl hlen0 rfl rfl (q := 28) rfl ?_
  intro T1 X1
  obtain ⟨V1, eV1⟩ : ∃ z, z = (V.set k (b, (.inr (.long, (us.set tt.toNatClampNeg (.long (own_x y2 w0))))))) := ⟨_, rfl⟩
  rw [← eV1] at X1
  have i1_0 := (eV1 ▸ oSetNe hik hi : V1[i]? = some (a, (.inr (.int, vs))))
  have i1_1 := (eV1 ▸ oSetGet hk : V1[k]? = some (b, (.inr (.long, (us.set tt.toNatClampNeg (.long (own_x y2 w0)))))))
  refine gAloadN E X1 d1_28 rfl rfl (q := 29) rfl ?_
  refine gIload E X1 d1_29 rfl (q := 31) rfl ?_
  refine gIconst E X1 d1_31 (v := (1 : Int32)) (by decide) (q := 32) rfl ?_
  refine gIadd E X1 d1_32 (z := (tt + (1 : Int32))) rfl (q := 33) rfl ?_
  refine gLload E X1 d1_33 rfl (q := 35) rfl ?_
  refine gAloadN E X1 d1_35 rfl rfl (q := 36) rfl ?_
  refine gIload E X1 d1_36 rfl (q := 38) rfl ?_
  refine gIconst E X1 d1_38 (v := (1 : Int32)) (by decide) (q := 39) rfl ?_
  refine gIadd E X1 d1_39 (z := (ss + (1 : Int32))) rfl (q := 40) rfl ?_
  refine gIaload E X1 (i := i) (v := (.int w1)) d1_40 i1_0 (oIx ss (1 : Int32) hss.1 (by decide) (by have : (1 : Int32).toInt = 1 := rfl; omega)).1 (by rw [(oIx ss (1 : Int32) hss.1 (by decide) (by have : (1 : Int32).toInt = 1 := rfl; omega)).2]; exact r1) (q := 41) rfl ?_
  refine gI2l E X1 d1_41 (z := w1.toInt64) rfl (q := 42) rfl ?_
  refine gLdc2J E X1 d1_42 (hw _ (List.mem_of_getElem? (i := 15) rfl)) (q := 45) rfl ?_
  refine gLand E X1 d1_45 (z := (w1.toInt64 &&& (4294967295 : Int64))) rfl (q := 46) rfl ?_
  refine gLor E X1 d1_46 (z := (own_x y2 w1)) rfl (q := 47) rfl ?_
  refine gLastore E X1 (i := k) (jn := (tt.toNatClampNeg + 1)) (x' := (own_x y2 w1)) (V' := (V1.set k (b, (.inr (.long, ((us.set tt.toNatClampNeg (.long (own_x y2 w0))).set (tt.toNatClampNeg + 1) (.long (own_x y2 w1)))))))) d1_47 i1_1 (oIx tt (1 : Int32) htt.1 (by decide) (by have : (1 : Int32).toInt = 1 := rfl; omega)).1 (oIx tt (1 : Int32) htt.1 (by decide) (by have : (1 : Int32).toInt = 1 := rfl; omega)).2 (by simp only [List.length_set]; omega) rfl rfl (q := 48) rfl ?_
  intro T2 X2
  obtain ⟨V2, eV2⟩ : ∃ z, z = (V1.set k (b, (.inr (.long, ((us.set tt.toNatClampNeg (.long (own_x y2 w0))).set (tt.toNatClampNeg + 1) (.long (own_x y2 w1))))))) := ⟨_, rfl⟩
  rw [← eV2] at X2
  have i2_0 := (eV2 ▸ oSetNe hik i1_0 : V2[i]? = some (a, (.inr (.int, vs))))
  have i2_1 := (eV2 ▸ oSetGet i1_1 : V2[k]? = some (b, (.inr (.long, ((us.set tt.toNatClampNeg (.long (own_x y2 w0))).set (tt.toNatClampNeg + 1) (.long (own_x y2 w1)))))))
  refine gAloadN E X2 d1_48 rfl rfl (q := 49) rfl ?_
  refine gIload E X2 d1_49 rfl (q := 51) rfl ?_
  refine gIconst E X2 d1_51 (v := (2 : Int32)) (by decide) (q := 52) rfl ?_
  refine gIadd E X2 d1_52 (z := (tt + (2 : Int32))) rfl (q := 53) rfl ?_
  refine gLload E X2 d1_53 rfl (q := 55) rfl ?_
  refine gAloadN E X2 d1_55 rfl rfl (q := 56) rfl ?_
  refine gIload E X2 d1_56 rfl (q := 58) rfl ?_
  refine gIconst E X2 d1_58 (v := (2 : Int32)) (by decide) (q := 59) rfl ?_
  refine gIadd E X2 d1_59 (z := (ss + (2 : Int32))) rfl (q := 60) rfl ?_
  refine gIaload E X2 (i := i) (v := (.int w2)) d1_60 i2_0 (oIx ss (2 : Int32) hss.1 (by decide) (by have : (2 : Int32).toInt = 2 := rfl; omega)).1 (by rw [(oIx ss (2 : Int32) hss.1 (by decide) (by have : (2 : Int32).toInt = 2 := rfl; omega)).2]; exact r2) (q := 61) rfl ?_
  refine gI2l E X2 d1_61 (z := w2.toInt64) rfl (q := 62) rfl ?_
  refine gLdc2J E X2 d1_62 (hw _ (List.mem_of_getElem? (i := 15) rfl)) (q := 65) rfl ?_
  refine gLand E X2 d1_65 (z := (w2.toInt64 &&& (4294967295 : Int64))) rfl (q := 66) rfl ?_
  refine gLor E X2 d1_66 (z := (own_x y2 w2)) rfl (q := 67) rfl ?_
  refine gLastore E X2 (i := k) (jn := (tt.toNatClampNeg + 2)) (x' := (own_x y2 w2)) (V' := (V2.set k (b, (.inr (.long, (((us.set tt.toNatClampNeg (.long (own_x y2 w0))).set (tt.toNatClampNeg + 1) (.long (own_x y2 w1))).set (tt.toNatClampNeg + 2) (.long (own_x y2 w2)))))))) d1_67 i2_1 (oIx tt (2 : Int32) htt.1 (by decide) (by have : (2 : Int32).toInt = 2 := rfl; omega)).1 (oIx tt (2 : Int32) htt.1 (by decide) (by have : (2 : Int32).toInt = 2 := rfl; omega)).2 (by simp only [List.length_set]; omega) rfl rfl (q := 68) rfl ?_
  intro T3 X3
  obtain ⟨V3, eV3⟩ : ∃ z, z = (V2.set k (b, (.inr (.long, (((us.set tt.toNatClampNeg (.long (own_x y2 w0))).set (tt.toNatClampNeg + 1) (.long (own_x y2 w1))).set (tt.toNatClampNeg + 2) (.long (own_x y2 w2))))))) := ⟨_, rfl⟩
  rw [← eV3] at X3
  have i3_0 := (eV3 ▸ oSetNe hik i2_0 : V3[i]? = some (a, (.inr (.int, vs))))
  have i3_1 := (eV3 ▸ oSetGet i2_1 : V3[k]? = some (b, (.inr (.long, (((us.set tt.toNatClampNeg (.long (own_x y2 w0))).set (tt.toNatClampNeg + 1) (.long (own_x y2 w1))).set (tt.toNatClampNeg + 2) (.long (own_x y2 w2)))))))
  refine gAloadN E X3 d1_68 rfl rfl (q := 69) rfl ?_
  refine gIload E X3 d1_69 rfl (q := 71) rfl ?_
  refine gIconst E X3 d1_71 (v := (3 : Int32)) (by decide) (q := 72) rfl ?_
  refine gIadd E X3 d1_72 (z := (tt + (3 : Int32))) rfl (q := 73) rfl ?_
  refine gLload E X3 d1_73 rfl (q := 75) rfl ?_
  refine gAloadN E X3 d1_75 rfl rfl (q := 76) rfl ?_
  refine gIload E X3 d1_76 rfl (q := 78) rfl ?_
  refine gIconst E X3 d1_78 (v := (3 : Int32)) (by decide) (q := 79) rfl ?_
  refine gIadd E X3 d1_79 (z := (ss + (3 : Int32))) rfl (q := 80) rfl ?_
  refine gIaload E X3 (i := i) (v := (.int w3)) d1_80 i3_0 (oIx ss (3 : Int32) hss.1 (by decide) (by have : (3 : Int32).toInt = 3 := rfl; omega)).1 (by rw [(oIx ss (3 : Int32) hss.1 (by decide) (by have : (3 : Int32).toInt = 3 := rfl; omega)).2]; exact r3) (q := 81) rfl ?_
  refine gI2l E X3 d1_81 (z := w3.toInt64) rfl (q := 82) rfl ?_
  refine gLdc2J E X3 d1_82 (hw _ (List.mem_of_getElem? (i := 15) rfl)) (q := 85) rfl ?_
  refine gLand E X3 d1_85 (z := (w3.toInt64 &&& (4294967295 : Int64))) rfl (q := 86) rfl ?_
  refine gLor E X3 d1_86 (z := (own_x y2 w3)) rfl (q := 87) rfl ?_
  refine gLastore E X3 (i := k) (jn := (tt.toNatClampNeg + 3)) (x' := (own_x y2 w3)) (V' := (V3.set k (b, (.inr (.long, ((((us.set tt.toNatClampNeg (.long (own_x y2 w0))).set (tt.toNatClampNeg + 1) (.long (own_x y2 w1))).set (tt.toNatClampNeg + 2) (.long (own_x y2 w2))).set (tt.toNatClampNeg + 3) (.long (own_x y2 w3)))))))) d1_87 i3_1 (oIx tt (3 : Int32) htt.1 (by decide) (by have : (3 : Int32).toInt = 3 := rfl; omega)).1 (oIx tt (3 : Int32) htt.1 (by decide) (by have : (3 : Int32).toInt = 3 := rfl; omega)).2 (by simp only [List.length_set]; omega) rfl rfl (q := 88) rfl ?_
  intro T4 X4
  obtain ⟨V4, eV4⟩ : ∃ z, z = (V3.set k (b, (.inr (.long, ((((us.set tt.toNatClampNeg (.long (own_x y2 w0))).set (tt.toNatClampNeg + 1) (.long (own_x y2 w1))).set (tt.toNatClampNeg + 2) (.long (own_x y2 w2))).set (tt.toNatClampNeg + 3) (.long (own_x y2 w3))))))) := ⟨_, rfl⟩
  rw [← eV4] at X4
  have i4_0 := (eV4 ▸ oSetNe hik i3_0 : V4[i]? = some (a, (.inr (.int, vs))))
  have i4_1 := (eV4 ▸ oSetGet i3_1 : V4[k]? = some (b, (.inr (.long, ((((us.set tt.toNatClampNeg (.long (own_x y2 w0))).set (tt.toNatClampNeg + 1) (.long (own_x y2 w1))).set (tt.toNatClampNeg + 2) (.long (own_x y2 w2))).set (tt.toNatClampNeg + 3) (.long (own_x y2 w3)))))))
  refine gIload E X4 d1_88 rfl (q := 90) rfl ?_
  refine gIloadN E X4 d1_90 rfl (q := 91) rfl ?_
  refine gBipush E X4 d1_91 (v := (7 : Int32)) (by decide) (q := 93) rfl ?_
  refine gIand E X4 d1_93 (z := ll) hl (q := 94) rfl ?_
  refine gIadd E X4 d1_94 (z := (tt + ll)) rfl (q := 95) rfl ?_
  exact gRetI E X4 d1_95 (by decide) (by decide) (⟨rfl, by simp only [eV4, eV3, eV2, eV1, List.set_set]⟩)
theorem d2_0 : decode method_3_code 0 = .ok (.iload_n 1, 1) := by decide +kernel
theorem d2_1 : decode method_3_code 1 = .ok (.iload_n 2, 1) := by decide +kernel
theorem d2_2 : decode method_3_code 2 = .ok (.isub, 1) := by decide +kernel
theorem d2_3 : decode method_3_code 3 = .ok (.istore 5, 2) := by decide +kernel
theorem d2_5 : decode method_3_code 5 = .ok (.iload 5, 2) := by decide +kernel
theorem d2_7 : decode method_3_code 7 = .ok (.ifCond .lt 9, 3) := by decide +kernel
theorem d2_10 : decode method_3_code 10 = .ok (.iload 5, 2) := by decide +kernel
theorem d2_12 : decode method_3_code 12 = .ok (.iconst 3, 1) := by decide +kernel
theorem d2_13 : decode method_3_code 13 = .ok (.if_icmp .le 19, 3) := by decide +kernel
theorem d2_16 : decode method_3_code 16 = .ok (.aload_n 0, 1) := by decide +kernel
theorem d2_17 : decode method_3_code 17 = .ok (.iload_n 1, 1) := by decide +kernel
theorem d2_18 : decode method_3_code 18 = .ok (.laload, 1) := by decide +kernel
theorem d2_19 : decode method_3_code 19 = .ok (.ldc2_w 15, 3) := by decide +kernel
theorem d2_22 : decode method_3_code 22 = .ok (.lcmp, 1) := by decide +kernel
theorem d2_23 : decode method_3_code 23 = .ok (.ifCond .ne 7, 3) := by decide +kernel
theorem d2_26 : decode method_3_code 26 = .ok (.iconst 1, 1) := by decide +kernel
theorem d2_27 : decode method_3_code 27 = .ok (.goto 4, 3) := by decide +kernel
theorem d2_31 : decode method_3_code 31 = .ok (.ireturn, 1) := by decide +kernel
theorem d2_32 : decode method_3_code 32 = .ok (.aload_n 0, 1) := by decide +kernel
theorem d2_33 : decode method_3_code 33 = .ok (.iload_n 1, 1) := by decide +kernel
theorem d2_34 : decode method_3_code 34 = .ok (.laload, 1) := by decide +kernel
theorem d2_35 : decode method_3_code 35 = .ok (.lstore 6, 2) := by decide +kernel
theorem d2_37 : decode method_3_code 37 = .ok (.lload 6, 2) := by decide +kernel
theorem d2_39 : decode method_3_code 39 = .ok (.bipush 32, 2) := by decide +kernel
theorem d2_41 : decode method_3_code 41 = .ok (.lushr, 1) := by decide +kernel
theorem d2_42 : decode method_3_code 42 = .ok (.l2i, 1) := by decide +kernel
theorem d2_43 : decode method_3_code 43 = .ok (.iload_n 3, 1) := by decide +kernel
theorem d2_44 : decode method_3_code 44 = .ok (.if_icmp .ne 18, 3) := by decide +kernel
theorem d2_47 : decode method_3_code 47 = .ok (.lload 6, 2) := by decide +kernel
theorem d2_49 : decode method_3_code 49 = .ok (.l2i, 1) := by decide +kernel
theorem d2_50 : decode method_3_code 50 = .ok (.aload 4, 2) := by decide +kernel
theorem d2_52 : decode method_3_code 52 = .ok (.iload 5, 2) := by decide +kernel
theorem d2_54 : decode method_3_code 54 = .ok (.iaload, 1) := by decide +kernel
theorem d2_55 : decode method_3_code 55 = .ok (.if_icmp .ne 7, 3) := by decide +kernel
theorem d2_58 : decode method_3_code 58 = .ok (.iconst 1, 1) := by decide +kernel
theorem d2_59 : decode method_3_code 59 = .ok (.goto 4, 3) := by decide +kernel
theorem d2_63 : decode method_3_code 63 = .ok (.ireturn, 1) := by decide +kernel
theorem pn_com_example_rakau_rakau_OutputListsCopyPinLaw : plainName "com/example/rakau/rakau/OutputListsCopyPinLaw" = true := by first | (simp [plainName, overriddenIn]; done) | decide +kernel
set_option maxRecDepth 65536 in
set_option maxHeartbeats 40000000 in
theorem cX (l : Launch) (Z : State) (a0 : Array Value) (hw : ∀ d ∈ tables_1, d.before a0 Z = true) {V : oVw} (a : Addr) (y1 : Int32) (y2 : Int32) (y3 : Int32) (b : Addr) (xx : Int64) (vs : List Value) (us : List Value) {i : Nat} (hi : V[i]? = some (a, (.inr (.long, vs)))) {k : Nat} (hk : V[k]? = some (b, (.inr (.int, us)))) (g0 : ¬ y1 < 0) (hx : vs[y1.toNatClampNeg]? = some (.long xx)) (hp : (y1 - y2) < 0 ∨ (3 : Int32) < (y1 - y2) → xx = (6840227782638526189 : Int64)) (hq : ¬ (y1 - y2) < 0 → ¬ (3 : Int32) < (y1 - y2) → (XT.ushrL xx (32 : Int32)).toInt32 = y3 ∧ us[(y1 - y2).toNatClampNeg]? = some (.int xx.toInt32)) :
    oCon l Z (⟨"com/example/rakau/rakau/OutputListsCopyPinLaw", "cell", "([JIII[I)Z"⟩ : MethodName) method_3_code 8 (some .boolean) ({ frames := 0, cells := 0, slots := 0, locals := 0 } : Room) #[(.ref a), (.int y1), (.int y2), (.int y3), (.ref b)] V (fun v V' => v = some (.int 1) ∧ V' = V) := by
  refine oEnter (plainFor_of_name pn_com_example_rakau_rakau_OutputListsCopyPinLaw) (Ls := #[.val (.ref a), .val (.int y1), .val (.int y2), .val (.int y3), .val (.ref b), .unset, .unset, .unset]) (fun m => by first | (simp [entryFrame, mkF, argsToLocals, Value.category]; done) | rfl) ?_
  intro p e s m below meth c T E X
  refine gIloadN E X d2_0 rfl (q := 1) rfl ?_
  refine gIloadN E X d2_1 rfl (q := 2) rfl ?_
  refine gIsub E X d2_2 (z := (y1 - y2)) rfl (q := 3) rfl ?_
  refine gIstore E X d2_3 (l' := #[.val (.ref a), .val (.int y1), .val (.int y2), .val (.int y3), .val (.ref b), .val (.int (y1 - y2)), .unset, .unset]) rfl (q := 5) rfl ?_
  refine gIload E X d2_5 rfl (q := 7) rfl ?_
  refine gIf_lt E X d2_7 (by decide) (q := 16) (by decide) (q' := 10) rfl (fun h7 => ?_) (fun h7 => ?_)
  · refine gAloadN E X d2_16 rfl rfl (q := 17) rfl ?_
    refine gIloadN E X d2_17 rfl (q := 18) rfl ?_
    refine gLaload E X (i := i) (v := (.long xx)) d2_18 hi g0 hx (q := 19) rfl ?_
    refine gLdc2J E X d2_19 (hw _ (List.mem_of_getElem? (i := 10) rfl)) (q := 22) rfl ?_
    refine gLcmp E X d2_22 (q := 23) rfl ?_
    refine gLc_ne E X d2_23 (by decide) (q := 30) (by decide) (q' := 26) rfl (fun h23 => by exfalso; first | exact h23 (hp (Or.inl h7)) | exact h23 (hp (Or.inr h13))) (fun h23 => ?_)
    refine gIconst E X d2_26 (v := (1 : Int32)) (by decide) (q := 27) rfl ?_
    refine gGoto E X d2_27 (by decide) (q := 31) (by decide) ?_
    exact gRetN E X (by simp) d2_31 (by decide) (by decide) (⟨rfl, rfl⟩)
  · refine gIload E X d2_10 rfl (q := 12) rfl ?_
    refine gIconst E X d2_12 (v := (3 : Int32)) (by decide) (q := 13) rfl ?_
    refine gIc_le E X d2_13 (by decide) (q := 32) (by decide) (q' := 16) rfl (fun h13 => ?_) (fun h13 => ?_)
    · refine gAloadN E X d2_32 rfl rfl (q := 33) rfl ?_
      refine gIloadN E X d2_33 rfl (q := 34) rfl ?_
      refine gLaload E X (i := i) (v := (.long xx)) d2_34 hi g0 hx (q := 35) rfl ?_
      refine gLstore E X d2_35 (l' := #[.val (.ref a), .val (.int y1), .val (.int y2), .val (.int y3), .val (.ref b), .val (.int (y1 - y2)), .val (.long xx), .second]) rfl (q := 37) rfl ?_
      refine gLload E X d2_37 rfl (q := 39) rfl ?_
      refine gBipush E X d2_39 (v := (32 : Int32)) (by decide) (q := 41) rfl ?_
      refine gLushr E X d2_41 (z := (XT.ushrL xx (32 : Int32))) rfl (q := 42) rfl ?_
      refine gL2i E X d2_42 (z := (XT.ushrL xx (32 : Int32)).toInt32) rfl (q := 43) rfl ?_
      refine gIloadN E X d2_43 rfl (q := 44) rfl ?_
      refine gIc_ne E X d2_44 (by decide) (q := 62) (by decide) (q' := 47) rfl (fun h44 => by exfalso; exact h44 (hq h7 h13).1) (fun h44 => ?_)
      refine gLload E X d2_47 rfl (q := 49) rfl ?_
      refine gL2i E X d2_49 (z := xx.toInt32) rfl (q := 50) rfl ?_
      refine gAload E X d2_50 rfl rfl (q := 52) rfl ?_
      refine gIload E X d2_52 rfl (q := 54) rfl ?_
      refine gIaload E X (i := k) (v := (.int xx.toInt32)) d2_54 hk h7 (hq h7 h13).2 (q := 55) rfl ?_
      refine gIc_ne E X d2_55 (by decide) (q := 62) (by decide) (q' := 58) rfl (fun h55 => by exfalso; exact h55 rfl) (fun h55 => ?_)
      refine gIconst E X d2_58 (v := (1 : Int32)) (by decide) (q := 59) rfl ?_
      refine gGoto E X d2_59 (by decide) (q := 63) (by decide) ?_
      exact gRetN E X (by simp) d2_63 (by decide) (by decide) (⟨rfl, rfl⟩)
    · refine gAloadN E X d2_16 rfl rfl (q := 17) rfl ?_
      refine gIloadN E X d2_17 rfl (q := 18) rfl ?_
      refine gLaload E X (i := i) (v := (.long xx)) d2_18 hi g0 hx (q := 19) rfl ?_
      refine gLdc2J E X d2_19 (hw _ (List.mem_of_getElem? (i := 10) rfl)) (q := 22) rfl ?_
      refine gLcmp E X d2_22 (q := 23) rfl ?_
      refine gLc_ne E X d2_23 (by decide) (q := 30) (by decide) (q' := 26) rfl (fun h23 => by exfalso; first | exact h23 (hp (Or.inl h7)) | exact h23 (hp (Or.inr h13))) (fun h23 => ?_)
      refine gIconst E X d2_26 (v := (1 : Int32)) (by decide) (q := 27) rfl ?_
      refine gGoto E X d2_27 (by decide) (q := 31) (by decide) ?_
      exact gRetN E X (by simp) d2_31 (by decide) (by decide) (⟨rfl, rfl⟩)
theorem pd_0 : parseMethodDescriptor "([III[JI)I" = some ⟨[(.array .int), .int, .int, (.array .long), .int], some .int⟩ := by decide +kernel
theorem pd_1 : parseMethodDescriptor "([JIII[I)Z" = some ⟨[(.array .long), .int, .int, .int, (.array .int)], some .boolean⟩ := by decide +kernel
set_option maxRecDepth 65536 in
set_option maxHeartbeats 40000000 in
theorem rm0 (l : Launch) (Z : State) (a0 : Array Value) (hw : ∀ d ∈ tables_1, d.before a0 Z = true) (u0 : Int32) (u1 : Int32) (u2 : Int32) (u3 : Int32) (u4 : Int32) (u5 : Int32)  :
    oCon l Z x code maxLocals ret room_1 #[(.int u0), (.int u1), (.int u2), (.int u3), (.int u4), (.int u5)] [] (fun v _ => v = some (.int 1)) := by
  refine oEnter (plainFor_of_name pn_com_example_rakau_rakau_OutputListsCopyPinLaw) (Ls := #[.val (.int u0), .val (.int u1), .val (.int u2), .val (.int u3), .val (.int u4), .val (.int u5), .unset, .unset, .unset, .unset, .unset, .unset, .unset, .unset]) (fun m => by first | (simp [entryFrame, mkF, argsToLocals, Value.category, maxLocals]; done) | rfl) ?_
  intro p e s m below meth c T E X
  refine gIload E X at_0 rfl (q := 2) rfl ?_
  refine gBipush E X at_2 (v := (7 : Int32)) (by decide) (q := 4) rfl ?_
  refine gIand E X at_4 (z := (u5 &&& (7 : Int32))) rfl (q := 5) rfl ?_
  refine gIconst E X at_5 (v := (5 : Int32)) (by decide) (q := 6) rfl ?_
  refine gIrem E X at_6 (by decide) (z := ((u5 &&& (7 : Int32)) % (5 : Int32))) (oRemEq _ _) (q := 7) rfl ?_
  refine gIstore E X at_7 (l' := #[.val (.int u0), .val (.int u1), .val (.int u2), .val (.int u3), .val (.int u4), .val (.int u5), .val (.int ((u5 &&& (7 : Int32)) % (5 : Int32))), .unset, .unset, .unset, .unset, .unset, .unset, .unset]) rfl (q := 9) rfl ?_
  refine gIload E X at_9 rfl (q := 11) rfl ?_
  refine gIconst E X at_11 (v := (3 : Int32)) (by decide) (q := 12) rfl ?_
  refine gIushr E X at_12 (z := (XT.ushr u5 (3 : Int32))) rfl (q := 13) rfl ?_
  refine gBipush E X at_13 (v := (7 : Int32)) (by decide) (q := 15) rfl ?_
  refine gIand E X at_15 (z := ((XT.ushr u5 (3 : Int32)) &&& (7 : Int32))) rfl (q := 16) rfl ?_
  refine gIconst E X at_16 (v := (5 : Int32)) (by decide) (q := 17) rfl ?_
  refine gIrem E X at_17 (by decide) (z := (((XT.ushr u5 (3 : Int32)) &&& (7 : Int32)) % (5 : Int32))) (oRemEq _ _) (q := 18) rfl ?_
  refine gIstore E X at_18 (l' := #[.val (.int u0), .val (.int u1), .val (.int u2), .val (.int u3), .val (.int u4), .val (.int u5), .val (.int ((u5 &&& (7 : Int32)) % (5 : Int32))), .val (.int (((XT.ushr u5 (3 : Int32)) &&& (7 : Int32)) % (5 : Int32))), .unset, .unset, .unset, .unset, .unset, .unset]) rfl (q := 20) rfl ?_
  refine gIload E X at_20 rfl (q := 22) rfl ?_
  refine gBipush E X at_22 (v := (6 : Int32)) (by decide) (q := 24) rfl ?_
  refine gIushr E X at_24 (z := (XT.ushr u5 (6 : Int32))) rfl (q := 25) rfl ?_
  refine gBipush E X at_25 (v := (7 : Int32)) (by decide) (q := 27) rfl ?_
  refine gIand E X at_27 (z := ((XT.ushr u5 (6 : Int32)) &&& (7 : Int32))) rfl (q := 28) rfl ?_
  refine gIconst E X at_28 (v := (5 : Int32)) (by decide) (q := 29) rfl ?_
  refine gIrem E X at_29 (by decide) (z := (((XT.ushr u5 (6 : Int32)) &&& (7 : Int32)) % (5 : Int32))) (oRemEq _ _) (q := 30) rfl ?_
  refine gIstore E X at_30 (l' := #[.val (.int u0), .val (.int u1), .val (.int u2), .val (.int u3), .val (.int u4), .val (.int u5), .val (.int ((u5 &&& (7 : Int32)) % (5 : Int32))), .val (.int (((XT.ushr u5 (3 : Int32)) &&& (7 : Int32)) % (5 : Int32))), .val (.int (((XT.ushr u5 (6 : Int32)) &&& (7 : Int32)) % (5 : Int32))), .unset, .unset, .unset, .unset, .unset]) rfl (q := 32) rfl ?_
  refine (fun (k : ∀ (ss : Int32), ss = ((u5 &&& (7 : Int32)) % (5 : Int32)) → oG p e below s Z room_1 (fun v _ => v = some (.int 1)) T (mkF m 32 #[.val (.int u0), .val (.int u1), .val (.int u2), .val (.int u3), .val (.int u4), .val (.int u5), .val (.int ss), .val (.int (((XT.ushr u5 (3 : Int32)) &&& (7 : Int32)) % (5 : Int32))), .val (.int (((XT.ushr u5 (6 : Int32)) &&& (7 : Int32)) % (5 : Int32))), .unset, .unset, .unset, .unset, .unset] [])) => k _ rfl) ?_
  intro ss hss
  refine (fun (k : ∀ (ll : Int32), ll = (((XT.ushr u5 (3 : Int32)) &&& (7 : Int32)) % (5 : Int32)) → oG p e below s Z room_1 (fun v _ => v = some (.int 1)) T (mkF m 32 #[.val (.int u0), .val (.int u1), .val (.int u2), .val (.int u3), .val (.int u4), .val (.int u5), .val (.int ss), .val (.int ll), .val (.int (((XT.ushr u5 (6 : Int32)) &&& (7 : Int32)) % (5 : Int32))), .unset, .unset, .unset, .unset, .unset] [])) => k _ rfl) ?_
  intro ll hll
  refine (fun (k : ∀ (tt : Int32), tt = (((XT.ushr u5 (6 : Int32)) &&& (7 : Int32)) % (5 : Int32)) → oG p e below s Z room_1 (fun v _ => v = some (.int 1)) T (mkF m 32 #[.val (.int u0), .val (.int u1), .val (.int u2), .val (.int u3), .val (.int u4), .val (.int u5), .val (.int ss), .val (.int ll), .val (.int tt), .unset, .unset, .unset, .unset, .unset] [])) => k _ rfl) ?_
  intro tt htt
  have hs5 : ss = 0 ∨ ss = 1 ∨ ss = 2 ∨ ss = 3 ∨ ss = 4 := by rw [hss]; exact own_5 _
  have hl5 : ll = 0 ∨ ll = 1 ∨ ll = 2 ∨ ll = 3 ∨ ll = 4 := by rw [hll]; exact own_5 _
  have ht5 : tt = 0 ∨ tt = 1 ∨ tt = 2 ∨ tt = 3 ∨ tt = 4 := by rw [htt]; exact own_5 _
  clear hss hll htt
  have hss := own_b5 hs5
  have htt := own_b5 ht5
  refine gIload E X at_32 rfl (q := 34) rfl ?_
  refine gIconst E X at_34 (v := (3 : Int32)) (by decide) (q := 35) rfl ?_
  refine gIshl E X at_35 (z := (ss <<< ((3 : Int32) &&& 31))) rfl (q := 36) rfl ?_
  refine gIload E X at_36 rfl (q := 38) rfl ?_
  refine gIor E X at_38 (z := ((ss <<< ((3 : Int32) &&& 31)) ||| ll)) rfl (q := 39) rfl ?_
  refine gIstore E X at_39 (l' := #[.val (.int u0), .val (.int u1), .val (.int u2), .val (.int u3), .val (.int u4), .val (.int u5), .val (.int ss), .val (.int ll), .val (.int tt), .val (.int ((ss <<< ((3 : Int32) &&& 31)) ||| ll)), .unset, .unset, .unset, .unset]) rfl (q := 41) rfl ?_
  refine gBipush E X at_41 (v := (8 : Int32)) (by decide) (q := 43) rfl ?_
  refine gNewA E X (c2 := 1) (s2 := 8) (cap := 8) (vs := [(.int (0 : Int32)), (.int (0 : Int32)), (.int (0 : Int32)), (.int (0 : Int32)), (.int (0 : Int32)), (.int (0 : Int32)), (.int (0 : Int32)), (.int (0 : Int32))]) (ty := .int) rfl at_43 (hw _ (List.mem_of_getElem? (i := 0) rfl)) (by decide) (by decide) (by decide) rfl (by decide) (by decide) (by decide) (by decide) (q := 45) rfl ?_
  intro T1 a1 X1
  refine gAstore E X1 at_45 rfl (l' := #[.val (.int u0), .val (.int u1), .val (.int u2), .val (.int u3), .val (.int u4), .val (.int u5), .val (.int ss), .val (.int ll), .val (.int tt), .val (.int ((ss <<< ((3 : Int32) &&& 31)) ||| ll)), .val (.ref a1), .unset, .unset, .unset]) rfl (q := 47) rfl ?_
  refine gAload E X1 at_47 rfl rfl (q := 49) rfl ?_
  refine gIconst E X1 at_49 (v := (0 : Int32)) (by decide) (q := 50) rfl ?_
  refine gLdcI E X1 at_50 (hw _ (List.mem_of_getElem? (i := 1) rfl)) (q := 52) rfl ?_
  refine gIastore E X1 (i := 0) (jn := 0) (x' := (324508624 : Int32)) (V' := [(a1, (.inr (.int, [(.int (324508624 : Int32)), (.int (0 : Int32)), (.int (0 : Int32)), (.int (0 : Int32)), (.int (0 : Int32)), (.int (0 : Int32)), (.int (0 : Int32)), (.int (0 : Int32))])))]) at_52 rfl (by decide) rfl (by show 0 < 8; decide) rfl rfl (q := 53) rfl ?_
  intro T2 X2
  refine gAload E X2 at_53 rfl rfl (q := 55) rfl ?_
  refine gIconst E X2 at_55 (v := (1 : Int32)) (by decide) (q := 56) rfl ?_
  refine gLdcI E X2 at_56 (hw _ (List.mem_of_getElem? (i := 2) rfl)) (q := 58) rfl ?_
  refine gIastore E X2 (i := 0) (jn := 1) (x' := (324508625 : Int32)) (V' := [(a1, (.inr (.int, [(.int (324508624 : Int32)), (.int (324508625 : Int32)), (.int (0 : Int32)), (.int (0 : Int32)), (.int (0 : Int32)), (.int (0 : Int32)), (.int (0 : Int32)), (.int (0 : Int32))])))]) at_58 rfl (by decide) rfl (by show 1 < 8; decide) rfl rfl (q := 59) rfl ?_
  intro T3 X3
  refine gAload E X3 at_59 rfl rfl (q := 61) rfl ?_
  refine gIconst E X3 at_61 (v := (2 : Int32)) (by decide) (q := 62) rfl ?_
  refine gLdcI E X3 at_62 (hw _ (List.mem_of_getElem? (i := 3) rfl)) (q := 64) rfl ?_
  refine gIastore E X3 (i := 0) (jn := 2) (x' := (324508626 : Int32)) (V' := [(a1, (.inr (.int, [(.int (324508624 : Int32)), (.int (324508625 : Int32)), (.int (324508626 : Int32)), (.int (0 : Int32)), (.int (0 : Int32)), (.int (0 : Int32)), (.int (0 : Int32)), (.int (0 : Int32))])))]) at_64 rfl (by decide) rfl (by show 2 < 8; decide) rfl rfl (q := 65) rfl ?_
  intro T4 X4
  refine gAload E X4 at_65 rfl rfl (q := 67) rfl ?_
  refine gIconst E X4 at_67 (v := (3 : Int32)) (by decide) (q := 68) rfl ?_
  refine gLdcI E X4 at_68 (hw _ (List.mem_of_getElem? (i := 4) rfl)) (q := 70) rfl ?_
  refine gIastore E X4 (i := 0) (jn := 3) (x' := (324508627 : Int32)) (V' := [(a1, (.inr (.int, [(.int (324508624 : Int32)), (.int (324508625 : Int32)), (.int (324508626 : Int32)), (.int (324508627 : Int32)), (.int (0 : Int32)), (.int (0 : Int32)), (.int (0 : Int32)), (.int (0 : Int32))])))]) at_70 rfl (by decide) rfl (by show 3 < 8; decide) rfl rfl (q := 71) rfl ?_
  intro T5 X5
  refine gAload E X5 at_71 rfl rfl (q := 73) rfl ?_
  refine gIconst E X5 at_73 (v := (4 : Int32)) (by decide) (q := 74) rfl ?_
  refine gLdcI E X5 at_74 (hw _ (List.mem_of_getElem? (i := 5) rfl)) (q := 76) rfl ?_
  refine gIastore E X5 (i := 0) (jn := 4) (x' := (324508628 : Int32)) (V' := [(a1, (.inr (.int, [(.int (324508624 : Int32)), (.int (324508625 : Int32)), (.int (324508626 : Int32)), (.int (324508627 : Int32)), (.int (324508628 : Int32)), (.int (0 : Int32)), (.int (0 : Int32)), (.int (0 : Int32))])))]) at_76 rfl (by decide) rfl (by show 4 < 8; decide) rfl rfl (q := 77) rfl ?_
  intro T6 X6
  refine gAload E X6 at_77 rfl rfl (q := 79) rfl ?_
  refine gIconst E X6 at_79 (v := (5 : Int32)) (by decide) (q := 80) rfl ?_
  refine gLdcI E X6 at_80 (hw _ (List.mem_of_getElem? (i := 6) rfl)) (q := 82) rfl ?_
  refine gIastore E X6 (i := 0) (jn := 5) (x' := (324508629 : Int32)) (V' := [(a1, (.inr (.int, [(.int (324508624 : Int32)), (.int (324508625 : Int32)), (.int (324508626 : Int32)), (.int (324508627 : Int32)), (.int (324508628 : Int32)), (.int (324508629 : Int32)), (.int (0 : Int32)), (.int (0 : Int32))])))]) at_82 rfl (by decide) rfl (by show 5 < 8; decide) rfl rfl (q := 83) rfl ?_
  intro T7 X7
  refine gAload E X7 at_83 rfl rfl (q := 85) rfl ?_
  refine gBipush E X7 at_85 (v := (6 : Int32)) (by decide) (q := 87) rfl ?_
  refine gLdcI E X7 at_87 (hw _ (List.mem_of_getElem? (i := 7) rfl)) (q := 89) rfl ?_
  refine gIastore E X7 (i := 0) (jn := 6) (x' := (324508630 : Int32)) (V' := [(a1, (.inr (.int, [(.int (324508624 : Int32)), (.int (324508625 : Int32)), (.int (324508626 : Int32)), (.int (324508627 : Int32)), (.int (324508628 : Int32)), (.int (324508629 : Int32)), (.int (324508630 : Int32)), (.int (0 : Int32))])))]) at_89 rfl (by decide) rfl (by show 6 < 8; decide) rfl rfl (q := 90) rfl ?_
  intro T8 X8
  refine gAload E X8 at_90 rfl rfl (q := 92) rfl ?_
  refine gBipush E X8 at_92 (v := (7 : Int32)) (by decide) (q := 94) rfl ?_
  refine gLdcI E X8 at_94 (hw _ (List.mem_of_getElem? (i := 8) rfl)) (q := 96) rfl ?_
  refine gIastore E X8 (i := 0) (jn := 7) (x' := (324508631 : Int32)) (V' := [(a1, (.inr (.int, [(.int (324508624 : Int32)), (.int (324508625 : Int32)), (.int (324508626 : Int32)), (.int (324508627 : Int32)), (.int (324508628 : Int32)), (.int (324508629 : Int32)), (.int (324508630 : Int32)), (.int (324508631 : Int32))])))]) at_96 rfl (by decide) rfl (by show 7 < 8; decide) rfl rfl (q := 97) rfl ?_
  intro T9 X9
  refine gAload E X9 at_97 rfl rfl (q := 99) rfl ?_
  refine gIload E X9 at_99 rfl (q := 101) rfl ?_
  refine gIloadN E X9 at_101 rfl (q := 102) rfl ?_
  refine gIastore E X9 (i := 0) (jn := ss.toNatClampNeg) (x' := u0) (V' := [(a1, (.inr (.int, ([(.int (324508624 : Int32)), (.int (324508625 : Int32)), (.int (324508626 : Int32)), (.int (324508627 : Int32)), (.int (324508628 : Int32)), (.int (324508629 : Int32)), (.int (324508630 : Int32)), (.int (324508631 : Int32))].set ss.toNatClampNeg (.int u0)))))]) at_102 rfl (oN0 hss.1) rfl (show ss.toNatClampNeg < 8 by omega) rfl rfl (q := 103) rfl ?_
  intro T10 X10
  refine gAload E X10 at_103 rfl rfl (q := 105) rfl ?_
  refine gIload E X10 at_105 rfl (q := 107) rfl ?_
  refine gIconst E X10 at_107 (v := (1 : Int32)) (by decide) (q := 108) rfl ?_
  refine gIadd E X10 at_108 (z := (ss + (1 : Int32))) rfl (q := 109) rfl ?_
  refine gIloadN E X10 at_109 rfl (q := 110) rfl ?_
  refine gIastore E X10 (i := 0) (jn := (ss.toNatClampNeg + 1)) (x' := u1) (V' := [(a1, (.inr (.int, (([(.int (324508624 : Int32)), (.int (324508625 : Int32)), (.int (324508626 : Int32)), (.int (324508627 : Int32)), (.int (324508628 : Int32)), (.int (324508629 : Int32)), (.int (324508630 : Int32)), (.int (324508631 : Int32))].set ss.toNatClampNeg (.int u0)).set (ss.toNatClampNeg + 1) (.int u1)))))]) at_110 rfl (oIx ss (1 : Int32) hss.1 (by decide) (by have : (1 : Int32).toInt = 1 := rfl; omega)).1 (oIx ss (1 : Int32) hss.1 (by decide) (by have : (1 : Int32).toInt = 1 := rfl; omega)).2 (by simp only [List.length_set]; show ss.toNatClampNeg + 1 < 8; omega) rfl rfl (q := 111) rfl ?_
  intro T11 X11
  refine gAload E X11 at_111 rfl rfl (q := 113) rfl ?_
  refine gIload E X11 at_113 rfl (q := 115) rfl ?_
  refine gIconst E X11 at_115 (v := (2 : Int32)) (by decide) (q := 116) rfl ?_
  refine gIadd E X11 at_116 (z := (ss + (2 : Int32))) rfl (q := 117) rfl ?_
  refine gIloadN E X11 at_117 rfl (q := 118) rfl ?_
  refine gIastore E X11 (i := 0) (jn := (ss.toNatClampNeg + 2)) (x' := u2) (V' := [(a1, (.inr (.int, ((([(.int (324508624 : Int32)), (.int (324508625 : Int32)), (.int (324508626 : Int32)), (.int (324508627 : Int32)), (.int (324508628 : Int32)), (.int (324508629 : Int32)), (.int (324508630 : Int32)), (.int (324508631 : Int32))].set ss.toNatClampNeg (.int u0)).set (ss.toNatClampNeg + 1) (.int u1)).set (ss.toNatClampNeg + 2) (.int u2)))))]) at_118 rfl (oIx ss (2 : Int32) hss.1 (by decide) (by have : (2 : Int32).toInt = 2 := rfl; omega)).1 (oIx ss (2 : Int32) hss.1 (by decide) (by have : (2 : Int32).toInt = 2 := rfl; omega)).2 (by simp only [List.length_set]; show ss.toNatClampNeg + 2 < 8; omega) rfl rfl (q := 119) rfl ?_
  intro T12 X12
  refine gAload E X12 at_119 rfl rfl (q := 121) rfl ?_
  refine gIload E X12 at_121 rfl (q := 123) rfl ?_
  refine gIconst E X12 at_123 (v := (3 : Int32)) (by decide) (q := 124) rfl ?_
  refine gIadd E X12 at_124 (z := (ss + (3 : Int32))) rfl (q := 125) rfl ?_
  refine gIloadN E X12 at_125 rfl (q := 126) rfl ?_
  refine gIastore E X12 (i := 0) (jn := (ss.toNatClampNeg + 3)) (x' := u3) (V' := [(a1, (.inr (.int, (((([(.int (324508624 : Int32)), (.int (324508625 : Int32)), (.int (324508626 : Int32)), (.int (324508627 : Int32)), (.int (324508628 : Int32)), (.int (324508629 : Int32)), (.int (324508630 : Int32)), (.int (324508631 : Int32))].set ss.toNatClampNeg (.int u0)).set (ss.toNatClampNeg + 1) (.int u1)).set (ss.toNatClampNeg + 2) (.int u2)).set (ss.toNatClampNeg + 3) (.int u3)))))]) at_126 rfl (oIx ss (3 : Int32) hss.1 (by decide) (by have : (3 : Int32).toInt = 3 := rfl; omega)).1 (oIx ss (3 : Int32) hss.1 (by decide) (by have : (3 : Int32).toInt = 3 := rfl; omega)).2 (by simp only [List.length_set]; show ss.toNatClampNeg + 3 < 8; omega) rfl rfl (q := 127) rfl ?_
  intro T13 X13
  refine gBipush E X13 at_127 (v := (8 : Int32)) (by decide) (q := 129) rfl ?_
  refine gNewA E X13 (c2 := 2) (s2 := 16) (cap := 8) (vs := [(.long (0 : Int64)), (.long (0 : Int64)), (.long (0 : Int64)), (.long (0 : Int64)), (.long (0 : Int64)), (.long (0 : Int64)), (.long (0 : Int64)), (.long (0 : Int64))]) (ty := .long) rfl at_129 (hw _ (List.mem_of_getElem? (i := 9) rfl)) (by decide) (by decide) (by decide) rfl (by decide) (by decide) (by decide) (by decide) (q := 131) rfl ?_
  intro T14 a14 X14
  refine gAstore E X14 at_131 rfl (l' := #[.val (.int u0), .val (.int u1), .val (.int u2), .val (.int u3), .val (.int u4), .val (.int u5), .val (.int ss), .val (.int ll), .val (.int tt), .val (.int ((ss <<< ((3 : Int32) &&& 31)) ||| ll)), .val (.ref a1), .val (.ref a14), .unset, .unset]) rfl (q := 133) rfl ?_
  refine gAload E X14 at_133 rfl rfl (q := 135) rfl ?_
  refine gIconst E X14 at_135 (v := (0 : Int32)) (by decide) (q := 136) rfl ?_
  refine gLdc2J E X14 at_136 (hw _ (List.mem_of_getElem? (i := 10) rfl)) (q := 139) rfl ?_
  refine gLastore E X14 (i := 1) (jn := 0) (x' := (6840227782638526189 : Int64)) (V' := [(a1, (.inr (.int, (((([(.int (324508624 : Int32)), (.int (324508625 : Int32)), (.int (324508626 : Int32)), (.int (324508627 : Int32)), (.int (324508628 : Int32)), (.int (324508629 : Int32)), (.int (324508630 : Int32)), (.int (324508631 : Int32))].set ss.toNatClampNeg (.int u0)).set (ss.toNatClampNeg + 1) (.int u1)).set (ss.toNatClampNeg + 2) (.int u2)).set (ss.toNatClampNeg + 3) (.int u3))))), (a14, (.inr (.long, [(.long (6840227782638526189 : Int64)), (.long (0 : Int64)), (.long (0 : Int64)), (.long (0 : Int64)), (.long (0 : Int64)), (.long (0 : Int64)), (.long (0 : Int64)), (.long (0 : Int64))])))]) at_139 rfl (by decide) rfl (by show 0 < 8; decide) rfl rfl (q := 140) rfl ?_
  intro T15 X15
  refine gAload E X15 at_140 rfl rfl (q := 142) rfl ?_
  refine gIconst E X15 at_142 (v := (1 : Int32)) (by decide) (q := 143) rfl ?_
  refine gLdc2J E X15 at_143 (hw _ (List.mem_of_getElem? (i := 10) rfl)) (q := 146) rfl ?_
  refine gLastore E X15 (i := 1) (jn := 1) (x' := (6840227782638526189 : Int64)) (V' := [(a1, (.inr (.int, (((([(.int (324508624 : Int32)), (.int (324508625 : Int32)), (.int (324508626 : Int32)), (.int (324508627 : Int32)), (.int (324508628 : Int32)), (.int (324508629 : Int32)), (.int (324508630 : Int32)), (.int (324508631 : Int32))].set ss.toNatClampNeg (.int u0)).set (ss.toNatClampNeg + 1) (.int u1)).set (ss.toNatClampNeg + 2) (.int u2)).set (ss.toNatClampNeg + 3) (.int u3))))), (a14, (.inr (.long, [(.long (6840227782638526189 : Int64)), (.long (6840227782638526189 : Int64)), (.long (0 : Int64)), (.long (0 : Int64)), (.long (0 : Int64)), (.long (0 : Int64)), (.long (0 : Int64)), (.long (0 : Int64))])))]) at_146 rfl (by decide) rfl (by show 1 < 8; decide) rfl rfl (q := 147) rfl ?_
  intro T16 X16
  refine gAload E X16 at_147 rfl rfl (q := 149) rfl ?_
  refine gIconst E X16 at_149 (v := (2 : Int32)) (by decide) (q := 150) rfl ?_
  refine gLdc2J E X16 at_150 (hw _ (List.mem_of_getElem? (i := 10) rfl)) (q := 153) rfl ?_
  refine gLastore E X16 (i := 1) (jn := 2) (x' := (6840227782638526189 : Int64)) (V' := [(a1, (.inr (.int, (((([(.int (324508624 : Int32)), (.int (324508625 : Int32)), (.int (324508626 : Int32)), (.int (324508627 : Int32)), (.int (324508628 : Int32)), (.int (324508629 : Int32)), (.int (324508630 : Int32)), (.int (324508631 : Int32))].set ss.toNatClampNeg (.int u0)).set (ss.toNatClampNeg + 1) (.int u1)).set (ss.toNatClampNeg + 2) (.int u2)).set (ss.toNatClampNeg + 3) (.int u3))))), (a14, (.inr (.long, [(.long (6840227782638526189 : Int64)), (.long (6840227782638526189 : Int64)), (.long (6840227782638526189 : Int64)), (.long (0 : Int64)), (.long (0 : Int64)), (.long (0 : Int64)), (.long (0 : Int64)), (.long (0 : Int64))])))]) at_153 rfl (by decide) rfl (by show 2 < 8; decide) rfl rfl (q := 154) rfl ?_
  intro T17 X17
  refine gAload E X17 at_154 rfl rfl (q := 156) rfl ?_
  refine gIconst E X17 at_156 (v := (3 : Int32)) (by decide) (q := 157) rfl ?_
  refine gLdc2J E X17 at_157 (hw _ (List.mem_of_getElem? (i := 10) rfl)) (q := 160) rfl ?_
  refine gLastore E X17 (i := 1) (jn := 3) (x' := (6840227782638526189 : Int64)) (V' := [(a1, (.inr (.int, (((([(.int (324508624 : Int32)), (.int (324508625 : Int32)), (.int (324508626 : Int32)), (.int (324508627 : Int32)), (.int (324508628 : Int32)), (.int (324508629 : Int32)), (.int (324508630 : Int32)), (.int (324508631 : Int32))].set ss.toNatClampNeg (.int u0)).set (ss.toNatClampNeg + 1) (.int u1)).set (ss.toNatClampNeg + 2) (.int u2)).set (ss.toNatClampNeg + 3) (.int u3))))), (a14, (.inr (.long, [(.long (6840227782638526189 : Int64)), (.long (6840227782638526189 : Int64)), (.long (6840227782638526189 : Int64)), (.long (6840227782638526189 : Int64)), (.long (0 : Int64)), (.long (0 : Int64)), (.long (0 : Int64)), (.long (0 : Int64))])))]) at_160 rfl (by decide) rfl (by show 3 < 8; decide) rfl rfl (q := 161) rfl ?_
  intro T18 X18
  refine gAload E X18 at_161 rfl rfl (q := 163) rfl ?_
  refine gIconst E X18 at_163 (v := (4 : Int32)) (by decide) (q := 164) rfl ?_
  refine gLdc2J E X18 at_164 (hw _ (List.mem_of_getElem? (i := 10) rfl)) (q := 167) rfl ?_
  refine gLastore E X18 (i := 1) (jn := 4) (x' := (6840227782638526189 : Int64)) (V' := [(a1, (.inr (.int, (((([(.int (324508624 : Int32)), (.int (324508625 : Int32)), (.int (324508626 : Int32)), (.int (324508627 : Int32)), (.int (324508628 : Int32)), (.int (324508629 : Int32)), (.int (324508630 : Int32)), (.int (324508631 : Int32))].set ss.toNatClampNeg (.int u0)).set (ss.toNatClampNeg + 1) (.int u1)).set (ss.toNatClampNeg + 2) (.int u2)).set (ss.toNatClampNeg + 3) (.int u3))))), (a14, (.inr (.long, [(.long (6840227782638526189 : Int64)), (.long (6840227782638526189 : Int64)), (.long (6840227782638526189 : Int64)), (.long (6840227782638526189 : Int64)), (.long (6840227782638526189 : Int64)), (.long (0 : Int64)), (.long (0 : Int64)), (.long (0 : Int64))])))]) at_167 rfl (by decide) rfl (by show 4 < 8; decide) rfl rfl (q := 168) rfl ?_
  intro T19 X19
  refine gAload E X19 at_168 rfl rfl (q := 170) rfl ?_
  refine gIconst E X19 at_170 (v := (5 : Int32)) (by decide) (q := 171) rfl ?_
  refine gLdc2J E X19 at_171 (hw _ (List.mem_of_getElem? (i := 10) rfl)) (q := 174) rfl ?_
  refine gLastore E X19 (i := 1) (jn := 5) (x' := (6840227782638526189 : Int64)) (V' := [(a1, (.inr (.int, (((([(.int (324508624 : Int32)), (.int (324508625 : Int32)), (.int (324508626 : Int32)), (.int (324508627 : Int32)), (.int (324508628 : Int32)), (.int (324508629 : Int32)), (.int (324508630 : Int32)), (.int (324508631 : Int32))].set ss.toNatClampNeg (.int u0)).set (ss.toNatClampNeg + 1) (.int u1)).set (ss.toNatClampNeg + 2) (.int u2)).set (ss.toNatClampNeg + 3) (.int u3))))), (a14, (.inr (.long, [(.long (6840227782638526189 : Int64)), (.long (6840227782638526189 : Int64)), (.long (6840227782638526189 : Int64)), (.long (6840227782638526189 : Int64)), (.long (6840227782638526189 : Int64)), (.long (6840227782638526189 : Int64)), (.long (0 : Int64)), (.long (0 : Int64))])))]) at_174 rfl (by decide) rfl (by show 5 < 8; decide) rfl rfl (q := 175) rfl ?_
  intro T20 X20
  refine gAload E X20 at_175 rfl rfl (q := 177) rfl ?_
  refine gBipush E X20 at_177 (v := (6 : Int32)) (by decide) (q := 179) rfl ?_
  refine gLdc2J E X20 at_179 (hw _ (List.mem_of_getElem? (i := 10) rfl)) (q := 182) rfl ?_
  refine gLastore E X20 (i := 1) (jn := 6) (x' := (6840227782638526189 : Int64)) (V' := [(a1, (.inr (.int, (((([(.int (324508624 : Int32)), (.int (324508625 : Int32)), (.int (324508626 : Int32)), (.int (324508627 : Int32)), (.int (324508628 : Int32)), (.int (324508629 : Int32)), (.int (324508630 : Int32)), (.int (324508631 : Int32))].set ss.toNatClampNeg (.int u0)).set (ss.toNatClampNeg + 1) (.int u1)).set (ss.toNatClampNeg + 2) (.int u2)).set (ss.toNatClampNeg + 3) (.int u3))))), (a14, (.inr (.long, [(.long (6840227782638526189 : Int64)), (.long (6840227782638526189 : Int64)), (.long (6840227782638526189 : Int64)), (.long (6840227782638526189 : Int64)), (.long (6840227782638526189 : Int64)), (.long (6840227782638526189 : Int64)), (.long (6840227782638526189 : Int64)), (.long (0 : Int64))])))]) at_182 rfl (by decide) rfl (by show 6 < 8; decide) rfl rfl (q := 183) rfl ?_
  intro T21 X21
  refine gAload E X21 at_183 rfl rfl (q := 185) rfl ?_
  refine gBipush E X21 at_185 (v := (7 : Int32)) (by decide) (q := 187) rfl ?_
  refine gLdc2J E X21 at_187 (hw _ (List.mem_of_getElem? (i := 10) rfl)) (q := 190) rfl ?_
  refine gLastore E X21 (i := 1) (jn := 7) (x' := (6840227782638526189 : Int64)) (V' := [(a1, (.inr (.int, (((([(.int (324508624 : Int32)), (.int (324508625 : Int32)), (.int (324508626 : Int32)), (.int (324508627 : Int32)), (.int (324508628 : Int32)), (.int (324508629 : Int32)), (.int (324508630 : Int32)), (.int (324508631 : Int32))].set ss.toNatClampNeg (.int u0)).set (ss.toNatClampNeg + 1) (.int u1)).set (ss.toNatClampNeg + 2) (.int u2)).set (ss.toNatClampNeg + 3) (.int u3))))), (a14, (.inr (.long, [(.long (6840227782638526189 : Int64)), (.long (6840227782638526189 : Int64)), (.long (6840227782638526189 : Int64)), (.long (6840227782638526189 : Int64)), (.long (6840227782638526189 : Int64)), (.long (6840227782638526189 : Int64)), (.long (6840227782638526189 : Int64)), (.long (6840227782638526189 : Int64))])))]) at_190 rfl (by decide) rfl (by show 7 < 8; decide) rfl rfl (q := 191) rfl ?_
  intro T22 X22
  refine gIconst E X22 at_191 (v := (4 : Int32)) (by decide) (q := 192) rfl ?_
  refine gNewA E X22 (c2 := 3) (s2 := 20) (cap := 4) (vs := [(.int (0 : Int32)), (.int (0 : Int32)), (.int (0 : Int32)), (.int (0 : Int32))]) (ty := .int) rfl at_192 (hw _ (List.mem_of_getElem? (i := 0) rfl)) (by decide) (by decide) (by decide) rfl (by decide) (by decide) (by decide) (by decide) (q := 194) rfl ?_
  intro T23 a23 X23
  refine gAstore E X23 at_194 rfl (l' := #[.val (.int u0), .val (.int u1), .val (.int u2), .val (.int u3), .val (.int u4), .val (.int u5), .val (.int ss), .val (.int ll), .val (.int tt), .val (.int ((ss <<< ((3 : Int32) &&& 31)) ||| ll)), .val (.ref a1), .val (.ref a14), .val (.ref a23), .unset]) rfl (q := 196) rfl ?_
  refine gAload E X23 at_196 rfl rfl (q := 198) rfl ?_
  refine gIconst E X23 at_198 (v := (0 : Int32)) (by decide) (q := 199) rfl ?_
  refine gIloadN E X23 at_199 rfl (q := 200) rfl ?_
  refine gIastore E X23 (i := 2) (jn := 0) (x' := u0) (V' := [(a1, (.inr (.int, (((([(.int (324508624 : Int32)), (.int (324508625 : Int32)), (.int (324508626 : Int32)), (.int (324508627 : Int32)), (.int (324508628 : Int32)), (.int (324508629 : Int32)), (.int (324508630 : Int32)), (.int (324508631 : Int32))].set ss.toNatClampNeg (.int u0)).set (ss.toNatClampNeg + 1) (.int u1)).set (ss.toNatClampNeg + 2) (.int u2)).set (ss.toNatClampNeg + 3) (.int u3))))), (a14, (.inr (.long, [(.long (6840227782638526189 : Int64)), (.long (6840227782638526189 : Int64)), (.long (6840227782638526189 : Int64)), (.long (6840227782638526189 : Int64)), (.long (6840227782638526189 : Int64)), (.long (6840227782638526189 : Int64)), (.long (6840227782638526189 : Int64)), (.long (6840227782638526189 : Int64))]))), (a23, (.inr (.int, [(.int u0), (.int (0 : Int32)), (.int (0 : Int32)), (.int (0 : Int32))])))]) at_200 rfl (by decide) rfl (by show 0 < 4; decide) rfl rfl (q := 201) rfl ?_
  intro T24 X24
  refine gAload E X24 at_201 rfl rfl (q := 203) rfl ?_
  refine gIconst E X24 at_203 (v := (1 : Int32)) (by decide) (q := 204) rfl ?_
  refine gIloadN E X24 at_204 rfl (q := 205) rfl ?_
  refine gIastore E X24 (i := 2) (jn := 1) (x' := u1) (V' := [(a1, (.inr (.int, (((([(.int (324508624 : Int32)), (.int (324508625 : Int32)), (.int (324508626 : Int32)), (.int (324508627 : Int32)), (.int (324508628 : Int32)), (.int (324508629 : Int32)), (.int (324508630 : Int32)), (.int (324508631 : Int32))].set ss.toNatClampNeg (.int u0)).set (ss.toNatClampNeg + 1) (.int u1)).set (ss.toNatClampNeg + 2) (.int u2)).set (ss.toNatClampNeg + 3) (.int u3))))), (a14, (.inr (.long, [(.long (6840227782638526189 : Int64)), (.long (6840227782638526189 : Int64)), (.long (6840227782638526189 : Int64)), (.long (6840227782638526189 : Int64)), (.long (6840227782638526189 : Int64)), (.long (6840227782638526189 : Int64)), (.long (6840227782638526189 : Int64)), (.long (6840227782638526189 : Int64))]))), (a23, (.inr (.int, [(.int u0), (.int u1), (.int (0 : Int32)), (.int (0 : Int32))])))]) at_205 rfl (by decide) rfl (by show 1 < 4; decide) rfl rfl (q := 206) rfl ?_
  intro T25 X25
  refine gAload E X25 at_206 rfl rfl (q := 208) rfl ?_
  refine gIconst E X25 at_208 (v := (2 : Int32)) (by decide) (q := 209) rfl ?_
  refine gIloadN E X25 at_209 rfl (q := 210) rfl ?_
  refine gIastore E X25 (i := 2) (jn := 2) (x' := u2) (V' := [(a1, (.inr (.int, (((([(.int (324508624 : Int32)), (.int (324508625 : Int32)), (.int (324508626 : Int32)), (.int (324508627 : Int32)), (.int (324508628 : Int32)), (.int (324508629 : Int32)), (.int (324508630 : Int32)), (.int (324508631 : Int32))].set ss.toNatClampNeg (.int u0)).set (ss.toNatClampNeg + 1) (.int u1)).set (ss.toNatClampNeg + 2) (.int u2)).set (ss.toNatClampNeg + 3) (.int u3))))), (a14, (.inr (.long, [(.long (6840227782638526189 : Int64)), (.long (6840227782638526189 : Int64)), (.long (6840227782638526189 : Int64)), (.long (6840227782638526189 : Int64)), (.long (6840227782638526189 : Int64)), (.long (6840227782638526189 : Int64)), (.long (6840227782638526189 : Int64)), (.long (6840227782638526189 : Int64))]))), (a23, (.inr (.int, [(.int u0), (.int u1), (.int u2), (.int (0 : Int32))])))]) at_210 rfl (by decide) rfl (by show 2 < 4; decide) rfl rfl (q := 211) rfl ?_
  intro T26 X26
  refine gAload E X26 at_211 rfl rfl (q := 213) rfl ?_
  refine gIconst E X26 at_213 (v := (3 : Int32)) (by decide) (q := 214) rfl ?_
  refine gIloadN E X26 at_214 rfl (q := 215) rfl ?_
  refine gIastore E X26 (i := 2) (jn := 3) (x' := u3) (V' := [(a1, (.inr (.int, (((([(.int (324508624 : Int32)), (.int (324508625 : Int32)), (.int (324508626 : Int32)), (.int (324508627 : Int32)), (.int (324508628 : Int32)), (.int (324508629 : Int32)), (.int (324508630 : Int32)), (.int (324508631 : Int32))].set ss.toNatClampNeg (.int u0)).set (ss.toNatClampNeg + 1) (.int u1)).set (ss.toNatClampNeg + 2) (.int u2)).set (ss.toNatClampNeg + 3) (.int u3))))), (a14, (.inr (.long, [(.long (6840227782638526189 : Int64)), (.long (6840227782638526189 : Int64)), (.long (6840227782638526189 : Int64)), (.long (6840227782638526189 : Int64)), (.long (6840227782638526189 : Int64)), (.long (6840227782638526189 : Int64)), (.long (6840227782638526189 : Int64)), (.long (6840227782638526189 : Int64))]))), (a23, (.inr (.int, [(.int u0), (.int u1), (.int u2), (.int u3)])))]) at_215 rfl (by decide) rfl (by show 3 < 4; decide) rfl rfl (q := 216) rfl ?_
  intro T27 X27
  refine gAload E X27 at_216 rfl rfl (q := 218) rfl ?_
  refine gIload E X27 at_218 rfl (q := 220) rfl ?_
  refine gIload E X27 at_220 rfl (q := 222) rfl ?_
  refine gAload E X27 at_222 rfl rfl (q := 224) rfl ?_
  refine gIload E X27 at_224 rfl (q := 226) rfl ?_
  refine gCallS E X27 (W := 0) (c2 := 3) (s2 := 20) [(.ref a1), (.int ((ss <<< ((3 : Int32) &&& 31)) ||| ll)), (.int u4), (.ref a14), (.int tt)] [] at_226 (hw _ (List.mem_of_getElem? (i := 11) rfl)) (hw _ (List.mem_of_getElem? (i := 12) rfl)) (hw _ (List.mem_of_getElem? (i := 13) rfl)) (hw _ (List.mem_of_getElem? (i := 14) rfl)) (by decide) (cC l Z a0 hw a1 ((ss <<< ((3 : Int32) &&& 31)) ||| ll) u4 a14 tt ss ll u0 u1 u2 u3 _ _ (i := 0) rfl (k := 1) rfl (by decide) (own_sl hs5 hl5).1 (own_sl hs5 hl5).2 ⟨hss.1, hss.2.1⟩ ⟨htt.1, htt.2.1⟩ (show tt.toNatClampNeg + 3 < 8 by omega) (own_rd _ _ _ _ _ _ (show ss.toNatClampNeg + 3 < 8 by omega)).1 (own_rd _ _ _ _ _ _ (show ss.toNatClampNeg + 3 < 8 by omega)).2.1 (own_rd _ _ _ _ _ _ (show ss.toNatClampNeg + 3 < 8 by omega)).2.2.1 (own_rd _ _ _ _ _ _ (show ss.toNatClampNeg + 3 < 8 by omega)).2.2.2) pd_0 rfl rfl rfl (by decide) (Nat.le_of_eq rfl) (by decide) (by decide) (by decide) (by decide) (by decide) (q := 229) rfl ?_
  intro T28 v28 V28 R28 X28
  obtain ⟨rfl, rfl⟩ := R28
  replace X28 : oX p l e room_1 s m #[(.int u0), (.int u1), (.int u2), (.int u3), (.int u4), (.int u5)] below meth c Z T28 [(a1, (.inr (.int, (((([(.int (324508624 : Int32)), (.int (324508625 : Int32)), (.int (324508626 : Int32)), (.int (324508627 : Int32)), (.int (324508628 : Int32)), (.int (324508629 : Int32)), (.int (324508630 : Int32)), (.int (324508631 : Int32))].set ss.toNatClampNeg (.int u0)).set (ss.toNatClampNeg + 1) (.int u1)).set (ss.toNatClampNeg + 2) (.int u2)).set (ss.toNatClampNeg + 3) (.int u3))))), (a14, (.inr (.long, (((([(.long (6840227782638526189 : Int64)), (.long (6840227782638526189 : Int64)), (.long (6840227782638526189 : Int64)), (.long (6840227782638526189 : Int64)), (.long (6840227782638526189 : Int64)), (.long (6840227782638526189 : Int64)), (.long (6840227782638526189 : Int64)), (.long (6840227782638526189 : Int64))].set tt.toNatClampNeg (.long (own_x u4 u0))).set (tt.toNatClampNeg + 1) (.long (own_x u4 u1))).set (tt.toNatClampNeg + 2) (.long (own_x u4 u2))).set (tt.toNatClampNeg + 3) (.long (own_x u4 u3)))))), (a23, (.inr (.int, [(.int u0), (.int u1), (.int u2), (.int u3)])))] 3 20 := X28
  show oG p e below s Z room_1 (fun v _ => v = some (.int 1)) T28 (mkF m 229 #[.val (.int u0), .val (.int u1), .val (.int u2), .val (.int u3), .val (.int u4), .val (.int u5), .val (.int ss), .val (.int ll), .val (.int tt), .val (.int ((ss <<< ((3 : Int32) &&& 31)) ||| ll)), .val (.ref a1), .val (.ref a14), .val (.ref a23), .unset] [(.int (tt + ll))])
  refine gIstore E X28 at_229 (l' := #[.val (.int u0), .val (.int u1), .val (.int u2), .val (.int u3), .val (.int u4), .val (.int u5), .val (.int ss), .val (.int ll), .val (.int tt), .val (.int ((ss <<< ((3 : Int32) &&& 31)) ||| ll)), .val (.ref a1), .val (.ref a14), .val (.ref a23), .val (.int (tt + ll))]) rfl (q := 231) rfl ?_
  refine gIload E X28 at_231 rfl (q := 233) rfl ?_
  refine gIload E X28 at_233 rfl (q := 235) rfl ?_
  refine gIload E X28 at_235 rfl (q := 237) rfl ?_
  refine gIadd E X28 at_237 (z := (tt + ll)) rfl (q := 238) rfl ?_
  refine gIc_ne E X28 at_238 (by decide) (q := 367) (by decide) (q' := 241) rfl (fun h238 => by exfalso; exact h238 rfl) (fun h238 => ?_)
  obtain ⟨xx0, r0, p0, q0⟩ := own_c tt (0 : Int32) ht5 (by decide) u4 u0 u1 u2 u3
  obtain ⟨xx1, r1, p1, q1⟩ := own_c tt (1 : Int32) ht5 (by decide) u4 u0 u1 u2 u3
  obtain ⟨xx2, r2, p2, q2⟩ := own_c tt (2 : Int32) ht5 (by decide) u4 u0 u1 u2 u3
  obtain ⟨xx3, r3, p3, q3⟩ := own_c tt (3 : Int32) ht5 (by decide) u4 u0 u1 u2 u3
  obtain ⟨xx4, r4, p4, q4⟩ := own_c tt (4 : Int32) ht5 (by decide) u4 u0 u1 u2 u3
  obtain ⟨xx5, r5, p5, q5⟩ := own_c tt (5 : Int32) ht5 (by decide) u4 u0 u1 u2 u3
  obtain ⟨xx6, r6, p6, q6⟩ := own_c tt (6 : Int32) ht5 (by decide) u4 u0 u1 u2 u3
  obtain ⟨xx7, r7, p7, q7⟩ := own_c tt (7 : Int32) ht5 (by decide) u4 u0 u1 u2 u3
  refine gAload E X28 at_241 rfl rfl (q := 243) rfl ?_
  refine gIconst E X28 at_243 (v := (0 : Int32)) (by decide) (q := 244) rfl ?_
  refine gIload E X28 at_244 rfl (q := 246) rfl ?_
  refine gIload E X28 at_246 rfl (q := 248) rfl ?_
  refine gAload E X28 at_248 rfl rfl (q := 250) rfl ?_
  refine gCallS E X28 (W := 0) (c2 := 3) (s2 := 20) [(.ref a14), (.int (0 : Int32)), (.int tt), (.int u4), (.ref a23)] [] at_250 (hw _ (List.mem_of_getElem? (i := 16) rfl)) (hw _ (List.mem_of_getElem? (i := 17) rfl)) (hw _ (List.mem_of_getElem? (i := 18) rfl)) (hw _ (List.mem_of_getElem? (i := 19) rfl)) (by decide) (cX l Z a0 hw a14 (0 : Int32) tt u4 a23 xx0 _ _ (i := 1) rfl (k := 2) rfl (by decide) r0 p0 q0) pd_1 rfl rfl rfl (by decide) (Nat.le_of_eq rfl) (by decide) (by decide) (by decide) (by decide) (by decide) (q := 253) rfl ?_
  intro T29 v29 V29 R29 X29
  obtain ⟨rfl, rfl⟩ := R29
  replace X29 : oX p l e room_1 s m #[(.int u0), (.int u1), (.int u2), (.int u3), (.int u4), (.int u5)] below meth c Z T29 [(a1, (.inr (.int, (((([(.int (324508624 : Int32)), (.int (324508625 : Int32)), (.int (324508626 : Int32)), (.int (324508627 : Int32)), (.int (324508628 : Int32)), (.int (324508629 : Int32)), (.int (324508630 : Int32)), (.int (324508631 : Int32))].set ss.toNatClampNeg (.int u0)).set (ss.toNatClampNeg + 1) (.int u1)).set (ss.toNatClampNeg + 2) (.int u2)).set (ss.toNatClampNeg + 3) (.int u3))))), (a14, (.inr (.long, (((([(.long (6840227782638526189 : Int64)), (.long (6840227782638526189 : Int64)), (.long (6840227782638526189 : Int64)), (.long (6840227782638526189 : Int64)), (.long (6840227782638526189 : Int64)), (.long (6840227782638526189 : Int64)), (.long (6840227782638526189 : Int64)), (.long (6840227782638526189 : Int64))].set tt.toNatClampNeg (.long (own_x u4 u0))).set (tt.toNatClampNeg + 1) (.long (own_x u4 u1))).set (tt.toNatClampNeg + 2) (.long (own_x u4 u2))).set (tt.toNatClampNeg + 3) (.long (own_x u4 u3)))))), (a23, (.inr (.int, [(.int u0), (.int u1), (.int u2), (.int u3)])))] 3 20 := X29
  show oG p e below s Z room_1 (fun v _ => v = some (.int 1)) T29 (mkF m 253 #[.val (.int u0), .val (.int u1), .val (.int u2), .val (.int u3), .val (.int u4), .val (.int u5), .val (.int ss), .val (.int ll), .val (.int tt), .val (.int ((ss <<< ((3 : Int32) &&& 31)) ||| ll)), .val (.ref a1), .val (.ref a14), .val (.ref a23), .val (.int (tt + ll))] [(.int (1 : Int32))])
  refine gIf_eq E X29 at_253 (by decide) (q := 367) (by decide) (q' := 256) rfl (fun h253 => by exfalso; exact absurd h253 (by decide)) (fun h253 => ?_)
  refine gAload E X29 at_256 rfl rfl (q := 258) rfl ?_
  refine gIconst E X29 at_258 (v := (1 : Int32)) (by decide) (q := 259) rfl ?_
  refine gIload E X29 at_259 rfl (q := 261) rfl ?_
  refine gIload E X29 at_261 rfl (q := 263) rfl ?_
  refine gAload E X29 at_263 rfl rfl (q := 265) rfl ?_
  refine gCallS E X29 (W := 0) (c2 := 3) (s2 := 20) [(.ref a14), (.int (1 : Int32)), (.int tt), (.int u4), (.ref a23)] [] at_265 (hw _ (List.mem_of_getElem? (i := 16) rfl)) (hw _ (List.mem_of_getElem? (i := 17) rfl)) (hw _ (List.mem_of_getElem? (i := 18) rfl)) (hw _ (List.mem_of_getElem? (i := 19) rfl)) (by decide) (cX l Z a0 hw a14 (1 : Int32) tt u4 a23 xx1 _ _ (i := 1) rfl (k := 2) rfl (by decide) r1 p1 q1) pd_1 rfl rfl rfl (by decide) (Nat.le_of_eq rfl) (by decide) (by decide) (by decide) (by decide) (by decide) (q := 268) rfl ?_
  intro T30 v30 V30 R30 X30
  obtain ⟨rfl, rfl⟩ := R30
  replace X30 : oX p l e room_1 s m #[(.int u0), (.int u1), (.int u2), (.int u3), (.int u4), (.int u5)] below meth c Z T30 [(a1, (.inr (.int, (((([(.int (324508624 : Int32)), (.int (324508625 : Int32)), (.int (324508626 : Int32)), (.int (324508627 : Int32)), (.int (324508628 : Int32)), (.int (324508629 : Int32)), (.int (324508630 : Int32)), (.int (324508631 : Int32))].set ss.toNatClampNeg (.int u0)).set (ss.toNatClampNeg + 1) (.int u1)).set (ss.toNatClampNeg + 2) (.int u2)).set (ss.toNatClampNeg + 3) (.int u3))))), (a14, (.inr (.long, (((([(.long (6840227782638526189 : Int64)), (.long (6840227782638526189 : Int64)), (.long (6840227782638526189 : Int64)), (.long (6840227782638526189 : Int64)), (.long (6840227782638526189 : Int64)), (.long (6840227782638526189 : Int64)), (.long (6840227782638526189 : Int64)), (.long (6840227782638526189 : Int64))].set tt.toNatClampNeg (.long (own_x u4 u0))).set (tt.toNatClampNeg + 1) (.long (own_x u4 u1))).set (tt.toNatClampNeg + 2) (.long (own_x u4 u2))).set (tt.toNatClampNeg + 3) (.long (own_x u4 u3)))))), (a23, (.inr (.int, [(.int u0), (.int u1), (.int u2), (.int u3)])))] 3 20 := X30
  show oG p e below s Z room_1 (fun v _ => v = some (.int 1)) T30 (mkF m 268 #[.val (.int u0), .val (.int u1), .val (.int u2), .val (.int u3), .val (.int u4), .val (.int u5), .val (.int ss), .val (.int ll), .val (.int tt), .val (.int ((ss <<< ((3 : Int32) &&& 31)) ||| ll)), .val (.ref a1), .val (.ref a14), .val (.ref a23), .val (.int (tt + ll))] [(.int (1 : Int32))])
  refine gIf_eq E X30 at_268 (by decide) (q := 367) (by decide) (q' := 271) rfl (fun h268 => by exfalso; exact absurd h268 (by decide)) (fun h268 => ?_)
  refine gAload E X30 at_271 rfl rfl (q := 273) rfl ?_
  refine gIconst E X30 at_273 (v := (2 : Int32)) (by decide) (q := 274) rfl ?_
  refine gIload E X30 at_274 rfl (q := 276) rfl ?_
  refine gIload E X30 at_276 rfl (q := 278) rfl ?_
  refine gAload E X30 at_278 rfl rfl (q := 280) rfl ?_
  refine gCallS E X30 (W := 0) (c2 := 3) (s2 := 20) [(.ref a14), (.int (2 : Int32)), (.int tt), (.int u4), (.ref a23)] [] at_280 (hw _ (List.mem_of_getElem? (i := 16) rfl)) (hw _ (List.mem_of_getElem? (i := 17) rfl)) (hw _ (List.mem_of_getElem? (i := 18) rfl)) (hw _ (List.mem_of_getElem? (i := 19) rfl)) (by decide) (cX l Z a0 hw a14 (2 : Int32) tt u4 a23 xx2 _ _ (i := 1) rfl (k := 2) rfl (by decide) r2 p2 q2) pd_1 rfl rfl rfl (by decide) (Nat.le_of_eq rfl) (by decide) (by decide) (by decide) (by decide) (by decide) (q := 283) rfl ?_
  intro T31 v31 V31 R31 X31
  obtain ⟨rfl, rfl⟩ := R31
  replace X31 : oX p l e room_1 s m #[(.int u0), (.int u1), (.int u2), (.int u3), (.int u4), (.int u5)] below meth c Z T31 [(a1, (.inr (.int, (((([(.int (324508624 : Int32)), (.int (324508625 : Int32)), (.int (324508626 : Int32)), (.int (324508627 : Int32)), (.int (324508628 : Int32)), (.int (324508629 : Int32)), (.int (324508630 : Int32)), (.int (324508631 : Int32))].set ss.toNatClampNeg (.int u0)).set (ss.toNatClampNeg + 1) (.int u1)).set (ss.toNatClampNeg + 2) (.int u2)).set (ss.toNatClampNeg + 3) (.int u3))))), (a14, (.inr (.long, (((([(.long (6840227782638526189 : Int64)), (.long (6840227782638526189 : Int64)), (.long (6840227782638526189 : Int64)), (.long (6840227782638526189 : Int64)), (.long (6840227782638526189 : Int64)), (.long (6840227782638526189 : Int64)), (.long (6840227782638526189 : Int64)), (.long (6840227782638526189 : Int64))].set tt.toNatClampNeg (.long (own_x u4 u0))).set (tt.toNatClampNeg + 1) (.long (own_x u4 u1))).set (tt.toNatClampNeg + 2) (.long (own_x u4 u2))).set (tt.toNatClampNeg + 3) (.long (own_x u4 u3)))))), (a23, (.inr (.int, [(.int u0), (.int u1), (.int u2), (.int u3)])))] 3 20 := X31
  show oG p e below s Z room_1 (fun v _ => v = some (.int 1)) T31 (mkF m 283 #[.val (.int u0), .val (.int u1), .val (.int u2), .val (.int u3), .val (.int u4), .val (.int u5), .val (.int ss), .val (.int ll), .val (.int tt), .val (.int ((ss <<< ((3 : Int32) &&& 31)) ||| ll)), .val (.ref a1), .val (.ref a14), .val (.ref a23), .val (.int (tt + ll))] [(.int (1 : Int32))])
  refine gIf_eq E X31 at_283 (by decide) (q := 367) (by decide) (q' := 286) rfl (fun h283 => by exfalso; exact absurd h283 (by decide)) (fun h283 => ?_)
  refine gAload E X31 at_286 rfl rfl (q := 288) rfl ?_
  refine gIconst E X31 at_288 (v := (3 : Int32)) (by decide) (q := 289) rfl ?_
  refine gIload E X31 at_289 rfl (q := 291) rfl ?_
  refine gIload E X31 at_291 rfl (q := 293) rfl ?_
  refine gAload E X31 at_293 rfl rfl (q := 295) rfl ?_
  refine gCallS E X31 (W := 0) (c2 := 3) (s2 := 20) [(.ref a14), (.int (3 : Int32)), (.int tt), (.int u4), (.ref a23)] [] at_295 (hw _ (List.mem_of_getElem? (i := 16) rfl)) (hw _ (List.mem_of_getElem? (i := 17) rfl)) (hw _ (List.mem_of_getElem? (i := 18) rfl)) (hw _ (List.mem_of_getElem? (i := 19) rfl)) (by decide) (cX l Z a0 hw a14 (3 : Int32) tt u4 a23 xx3 _ _ (i := 1) rfl (k := 2) rfl (by decide) r3 p3 q3) pd_1 rfl rfl rfl (by decide) (Nat.le_of_eq rfl) (by decide) (by decide) (by decide) (by decide) (by decide) (q := 298) rfl ?_
  intro T32 v32 V32 R32 X32
  obtain ⟨rfl, rfl⟩ := R32
  replace X32 : oX p l e room_1 s m #[(.int u0), (.int u1), (.int u2), (.int u3), (.int u4), (.int u5)] below meth c Z T32 [(a1, (.inr (.int, (((([(.int (324508624 : Int32)), (.int (324508625 : Int32)), (.int (324508626 : Int32)), (.int (324508627 : Int32)), (.int (324508628 : Int32)), (.int (324508629 : Int32)), (.int (324508630 : Int32)), (.int (324508631 : Int32))].set ss.toNatClampNeg (.int u0)).set (ss.toNatClampNeg + 1) (.int u1)).set (ss.toNatClampNeg + 2) (.int u2)).set (ss.toNatClampNeg + 3) (.int u3))))), (a14, (.inr (.long, (((([(.long (6840227782638526189 : Int64)), (.long (6840227782638526189 : Int64)), (.long (6840227782638526189 : Int64)), (.long (6840227782638526189 : Int64)), (.long (6840227782638526189 : Int64)), (.long (6840227782638526189 : Int64)), (.long (6840227782638526189 : Int64)), (.long (6840227782638526189 : Int64))].set tt.toNatClampNeg (.long (own_x u4 u0))).set (tt.toNatClampNeg + 1) (.long (own_x u4 u1))).set (tt.toNatClampNeg + 2) (.long (own_x u4 u2))).set (tt.toNatClampNeg + 3) (.long (own_x u4 u3)))))), (a23, (.inr (.int, [(.int u0), (.int u1), (.int u2), (.int u3)])))] 3 20 := X32
  show oG p e below s Z room_1 (fun v _ => v = some (.int 1)) T32 (mkF m 298 #[.val (.int u0), .val (.int u1), .val (.int u2), .val (.int u3), .val (.int u4), .val (.int u5), .val (.int ss), .val (.int ll), .val (.int tt), .val (.int ((ss <<< ((3 : Int32) &&& 31)) ||| ll)), .val (.ref a1), .val (.ref a14), .val (.ref a23), .val (.int (tt + ll))] [(.int (1 : Int32))])
  refine gIf_eq E X32 at_298 (by decide) (q := 367) (by decide) (q' := 301) rfl (fun h298 => by exfalso; exact absurd h298 (by decide)) (fun h298 => ?_)
  refine gAload E X32 at_301 rfl rfl (q := 303) rfl ?_
  refine gIconst E X32 at_303 (v := (4 : Int32)) (by decide) (q := 304) rfl ?_
  refine gIload E X32 at_304 rfl (q := 306) rfl ?_
  refine gIload E X32 at_306 rfl (q := 308) rfl ?_
  refine gAload E X32 at_308 rfl rfl (q := 310) rfl ?_
  refine gCallS E X32 (W := 0) (c2 := 3) (s2 := 20) [(.ref a14), (.int (4 : Int32)), (.int tt), (.int u4), (.ref a23)] [] at_310 (hw _ (List.mem_of_getElem? (i := 16) rfl)) (hw _ (List.mem_of_getElem? (i := 17) rfl)) (hw _ (List.mem_of_getElem? (i := 18) rfl)) (hw _ (List.mem_of_getElem? (i := 19) rfl)) (by decide) (cX l Z a0 hw a14 (4 : Int32) tt u4 a23 xx4 _ _ (i := 1) rfl (k := 2) rfl (by decide) r4 p4 q4) pd_1 rfl rfl rfl (by decide) (Nat.le_of_eq rfl) (by decide) (by decide) (by decide) (by decide) (by decide) (q := 313) rfl ?_
  intro T33 v33 V33 R33 X33
  obtain ⟨rfl, rfl⟩ := R33
  replace X33 : oX p l e room_1 s m #[(.int u0), (.int u1), (.int u2), (.int u3), (.int u4), (.int u5)] below meth c Z T33 [(a1, (.inr (.int, (((([(.int (324508624 : Int32)), (.int (324508625 : Int32)), (.int (324508626 : Int32)), (.int (324508627 : Int32)), (.int (324508628 : Int32)), (.int (324508629 : Int32)), (.int (324508630 : Int32)), (.int (324508631 : Int32))].set ss.toNatClampNeg (.int u0)).set (ss.toNatClampNeg + 1) (.int u1)).set (ss.toNatClampNeg + 2) (.int u2)).set (ss.toNatClampNeg + 3) (.int u3))))), (a14, (.inr (.long, (((([(.long (6840227782638526189 : Int64)), (.long (6840227782638526189 : Int64)), (.long (6840227782638526189 : Int64)), (.long (6840227782638526189 : Int64)), (.long (6840227782638526189 : Int64)), (.long (6840227782638526189 : Int64)), (.long (6840227782638526189 : Int64)), (.long (6840227782638526189 : Int64))].set tt.toNatClampNeg (.long (own_x u4 u0))).set (tt.toNatClampNeg + 1) (.long (own_x u4 u1))).set (tt.toNatClampNeg + 2) (.long (own_x u4 u2))).set (tt.toNatClampNeg + 3) (.long (own_x u4 u3)))))), (a23, (.inr (.int, [(.int u0), (.int u1), (.int u2), (.int u3)])))] 3 20 := X33
  show oG p e below s Z room_1 (fun v _ => v = some (.int 1)) T33 (mkF m 313 #[.val (.int u0), .val (.int u1), .val (.int u2), .val (.int u3), .val (.int u4), .val (.int u5), .val (.int ss), .val (.int ll), .val (.int tt), .val (.int ((ss <<< ((3 : Int32) &&& 31)) ||| ll)), .val (.ref a1), .val (.ref a14), .val (.ref a23), .val (.int (tt + ll))] [(.int (1 : Int32))])
  refine gIf_eq E X33 at_313 (by decide) (q := 367) (by decide) (q' := 316) rfl (fun h313 => by exfalso; exact absurd h313 (by decide)) (fun h313 => ?_)
  refine gAload E X33 at_316 rfl rfl (q := 318) rfl ?_
  refine gIconst E X33 at_318 (v := (5 : Int32)) (by decide) (q := 319) rfl ?_
  refine gIload E X33 at_319 rfl (q := 321) rfl ?_
  refine gIload E X33 at_321 rfl (q := 323) rfl ?_
  refine gAload E X33 at_323 rfl rfl (q := 325) rfl ?_
  refine gCallS E X33 (W := 0) (c2 := 3) (s2 := 20) [(.ref a14), (.int (5 : Int32)), (.int tt), (.int u4), (.ref a23)] [] at_325 (hw _ (List.mem_of_getElem? (i := 16) rfl)) (hw _ (List.mem_of_getElem? (i := 17) rfl)) (hw _ (List.mem_of_getElem? (i := 18) rfl)) (hw _ (List.mem_of_getElem? (i := 19) rfl)) (by decide) (cX l Z a0 hw a14 (5 : Int32) tt u4 a23 xx5 _ _ (i := 1) rfl (k := 2) rfl (by decide) r5 p5 q5) pd_1 rfl rfl rfl (by decide) (Nat.le_of_eq rfl) (by decide) (by decide) (by decide) (by decide) (by decide) (q := 328) rfl ?_
  intro T34 v34 V34 R34 X34
  obtain ⟨rfl, rfl⟩ := R34
  replace X34 : oX p l e room_1 s m #[(.int u0), (.int u1), (.int u2), (.int u3), (.int u4), (.int u5)] below meth c Z T34 [(a1, (.inr (.int, (((([(.int (324508624 : Int32)), (.int (324508625 : Int32)), (.int (324508626 : Int32)), (.int (324508627 : Int32)), (.int (324508628 : Int32)), (.int (324508629 : Int32)), (.int (324508630 : Int32)), (.int (324508631 : Int32))].set ss.toNatClampNeg (.int u0)).set (ss.toNatClampNeg + 1) (.int u1)).set (ss.toNatClampNeg + 2) (.int u2)).set (ss.toNatClampNeg + 3) (.int u3))))), (a14, (.inr (.long, (((([(.long (6840227782638526189 : Int64)), (.long (6840227782638526189 : Int64)), (.long (6840227782638526189 : Int64)), (.long (6840227782638526189 : Int64)), (.long (6840227782638526189 : Int64)), (.long (6840227782638526189 : Int64)), (.long (6840227782638526189 : Int64)), (.long (6840227782638526189 : Int64))].set tt.toNatClampNeg (.long (own_x u4 u0))).set (tt.toNatClampNeg + 1) (.long (own_x u4 u1))).set (tt.toNatClampNeg + 2) (.long (own_x u4 u2))).set (tt.toNatClampNeg + 3) (.long (own_x u4 u3)))))), (a23, (.inr (.int, [(.int u0), (.int u1), (.int u2), (.int u3)])))] 3 20 := X34
  show oG p e below s Z room_1 (fun v _ => v = some (.int 1)) T34 (mkF m 328 #[.val (.int u0), .val (.int u1), .val (.int u2), .val (.int u3), .val (.int u4), .val (.int u5), .val (.int ss), .val (.int ll), .val (.int tt), .val (.int ((ss <<< ((3 : Int32) &&& 31)) ||| ll)), .val (.ref a1), .val (.ref a14), .val (.ref a23), .val (.int (tt + ll))] [(.int (1 : Int32))])
  refine gIf_eq E X34 at_328 (by decide) (q := 367) (by decide) (q' := 331) rfl (fun h328 => by exfalso; exact absurd h328 (by decide)) (fun h328 => ?_)
  refine gAload E X34 at_331 rfl rfl (q := 333) rfl ?_
  refine gBipush E X34 at_333 (v := (6 : Int32)) (by decide) (q := 335) rfl ?_
  refine gIload E X34 at_335 rfl (q := 337) rfl ?_
  refine gIload E X34 at_337 rfl (q := 339) rfl ?_
  refine gAload E X34 at_339 rfl rfl (q := 341) rfl ?_
  refine gCallS E X34 (W := 0) (c2 := 3) (s2 := 20) [(.ref a14), (.int (6 : Int32)), (.int tt), (.int u4), (.ref a23)] [] at_341 (hw _ (List.mem_of_getElem? (i := 16) rfl)) (hw _ (List.mem_of_getElem? (i := 17) rfl)) (hw _ (List.mem_of_getElem? (i := 18) rfl)) (hw _ (List.mem_of_getElem? (i := 19) rfl)) (by decide) (cX l Z a0 hw a14 (6 : Int32) tt u4 a23 xx6 _ _ (i := 1) rfl (k := 2) rfl (by decide) r6 p6 q6) pd_1 rfl rfl rfl (by decide) (Nat.le_of_eq rfl) (by decide) (by decide) (by decide) (by decide) (by decide) (q := 344) rfl ?_
  intro T35 v35 V35 R35 X35
  obtain ⟨rfl, rfl⟩ := R35
  replace X35 : oX p l e room_1 s m #[(.int u0), (.int u1), (.int u2), (.int u3), (.int u4), (.int u5)] below meth c Z T35 [(a1, (.inr (.int, (((([(.int (324508624 : Int32)), (.int (324508625 : Int32)), (.int (324508626 : Int32)), (.int (324508627 : Int32)), (.int (324508628 : Int32)), (.int (324508629 : Int32)), (.int (324508630 : Int32)), (.int (324508631 : Int32))].set ss.toNatClampNeg (.int u0)).set (ss.toNatClampNeg + 1) (.int u1)).set (ss.toNatClampNeg + 2) (.int u2)).set (ss.toNatClampNeg + 3) (.int u3))))), (a14, (.inr (.long, (((([(.long (6840227782638526189 : Int64)), (.long (6840227782638526189 : Int64)), (.long (6840227782638526189 : Int64)), (.long (6840227782638526189 : Int64)), (.long (6840227782638526189 : Int64)), (.long (6840227782638526189 : Int64)), (.long (6840227782638526189 : Int64)), (.long (6840227782638526189 : Int64))].set tt.toNatClampNeg (.long (own_x u4 u0))).set (tt.toNatClampNeg + 1) (.long (own_x u4 u1))).set (tt.toNatClampNeg + 2) (.long (own_x u4 u2))).set (tt.toNatClampNeg + 3) (.long (own_x u4 u3)))))), (a23, (.inr (.int, [(.int u0), (.int u1), (.int u2), (.int u3)])))] 3 20 := X35
  show oG p e below s Z room_1 (fun v _ => v = some (.int 1)) T35 (mkF m 344 #[.val (.int u0), .val (.int u1), .val (.int u2), .val (.int u3), .val (.int u4), .val (.int u5), .val (.int ss), .val (.int ll), .val (.int tt), .val (.int ((ss <<< ((3 : Int32) &&& 31)) ||| ll)), .val (.ref a1), .val (.ref a14), .val (.ref a23), .val (.int (tt + ll))] [(.int (1 : Int32))])
  refine gIf_eq E X35 at_344 (by decide) (q := 367) (by decide) (q' := 347) rfl (fun h344 => by exfalso; exact absurd h344 (by decide)) (fun h344 => ?_)
  refine gAload E X35 at_347 rfl rfl (q := 349) rfl ?_
  refine gBipush E X35 at_349 (v := (7 : Int32)) (by decide) (q := 351) rfl ?_
  refine gIload E X35 at_351 rfl (q := 353) rfl ?_
  refine gIload E X35 at_353 rfl (q := 355) rfl ?_
  refine gAload E X35 at_355 rfl rfl (q := 357) rfl ?_
  refine gCallS E X35 (W := 0) (c2 := 3) (s2 := 20) [(.ref a14), (.int (7 : Int32)), (.int tt), (.int u4), (.ref a23)] [] at_357 (hw _ (List.mem_of_getElem? (i := 16) rfl)) (hw _ (List.mem_of_getElem? (i := 17) rfl)) (hw _ (List.mem_of_getElem? (i := 18) rfl)) (hw _ (List.mem_of_getElem? (i := 19) rfl)) (by decide) (cX l Z a0 hw a14 (7 : Int32) tt u4 a23 xx7 _ _ (i := 1) rfl (k := 2) rfl (by decide) r7 p7 q7) pd_1 rfl rfl rfl (by decide) (Nat.le_of_eq rfl) (by decide) (by decide) (by decide) (by decide) (by decide) (q := 360) rfl ?_
  intro T36 v36 V36 R36 X36
  obtain ⟨rfl, rfl⟩ := R36
  replace X36 : oX p l e room_1 s m #[(.int u0), (.int u1), (.int u2), (.int u3), (.int u4), (.int u5)] below meth c Z T36 [(a1, (.inr (.int, (((([(.int (324508624 : Int32)), (.int (324508625 : Int32)), (.int (324508626 : Int32)), (.int (324508627 : Int32)), (.int (324508628 : Int32)), (.int (324508629 : Int32)), (.int (324508630 : Int32)), (.int (324508631 : Int32))].set ss.toNatClampNeg (.int u0)).set (ss.toNatClampNeg + 1) (.int u1)).set (ss.toNatClampNeg + 2) (.int u2)).set (ss.toNatClampNeg + 3) (.int u3))))), (a14, (.inr (.long, (((([(.long (6840227782638526189 : Int64)), (.long (6840227782638526189 : Int64)), (.long (6840227782638526189 : Int64)), (.long (6840227782638526189 : Int64)), (.long (6840227782638526189 : Int64)), (.long (6840227782638526189 : Int64)), (.long (6840227782638526189 : Int64)), (.long (6840227782638526189 : Int64))].set tt.toNatClampNeg (.long (own_x u4 u0))).set (tt.toNatClampNeg + 1) (.long (own_x u4 u1))).set (tt.toNatClampNeg + 2) (.long (own_x u4 u2))).set (tt.toNatClampNeg + 3) (.long (own_x u4 u3)))))), (a23, (.inr (.int, [(.int u0), (.int u1), (.int u2), (.int u3)])))] 3 20 := X36
  show oG p e below s Z room_1 (fun v _ => v = some (.int 1)) T36 (mkF m 360 #[.val (.int u0), .val (.int u1), .val (.int u2), .val (.int u3), .val (.int u4), .val (.int u5), .val (.int ss), .val (.int ll), .val (.int tt), .val (.int ((ss <<< ((3 : Int32) &&& 31)) ||| ll)), .val (.ref a1), .val (.ref a14), .val (.ref a23), .val (.int (tt + ll))] [(.int (1 : Int32))])
  refine gIf_eq E X36 at_360 (by decide) (q := 367) (by decide) (q' := 363) rfl (fun h360 => by exfalso; exact absurd h360 (by decide)) (fun h360 => ?_)
  refine gIconst E X36 at_363 (v := (1 : Int32)) (by decide) (q := 364) rfl ?_
  refine gGoto E X36 at_364 (by decide) (q := 368) (by decide) ?_
  exact gRetN E X36 (by simp) at_368 (by decide) (by decide) (rfl)
set_option maxRecDepth 65536 in
set_option maxHeartbeats 40000000 in
theorem comes_1 {Post : Tables → Env → Array Value → State → Outcome → State → Prop} (hpost : ∀ tb e args s v u, (limb_1_1.after args s (.returned v) u = true ∧ limb_1_2.after args s (.returned v) u = true ∧ True) → FrameEnd s (.returned v) u (Jvm.fieldLocs frame_1_writes args s ++ Jvm.arrayLocs frame_1_arrays args s ++ Jvm.staticLocs frame_1_statics s) 16 128 → Post tb e args s (.returned v) u) :
    ArmFor flags0 classFile x code maxLocals ret World_1 tables_1 room_1 Calls_1 rest_1 Pre_1 Post := by
  intro l hfl _ _ p e ha hc hk s m args below hf hA hF happ hP
  obtain ⟨hcalls, hrest, hpre⟩ := hP
  obtain ⟨-, -, -, hnamed, -, -, -, hat⟩ := (Spec.applies_iff hf).mp happ
  obtain ⟨hg, hn⟩ := and_e (Cond.before_iff.mp (show (Jvm.Cond.and given_1 narrow_1).before args s = true from hpre))
  obtain ⟨h1, hg0⟩ := and_e hg
  obtain ⟨g0, hg1⟩ := and_e hg0
  obtain ⟨g1, hg2⟩ := and_e hg1
  obtain ⟨g2, hg3⟩ := and_e hg2
  obtain ⟨g3, hg4⟩ := and_e hg3
  obtain ⟨g4, hg5⟩ := and_e hg4
  obtain ⟨w0, w1, w2, w3, w4, w5, rfl⟩ : ∃ w0 w1 w2 w3 w4 w5 : Value, args = #[w0, w1, w2, w3, w4, w5] := by
    have hs : args.size = 6 := by simpa [Cond.value, given_1] using h1
    obtain ⟨L⟩ := args
    match L, hs with
    | [w0, w1, w2, w3, w4, w5], _ => exact ⟨w0, w1, w2, w3, w4, w5, rfl⟩
  have hw := fun d (hd : d ∈ tables_1) => atoms_spec (ws := Jvm.Cond.code x code maxLocals ret :: tables_1) hat d (List.mem_cons_of_mem _ hd)
  have hfit : Fit s := fun {y c} hc i hi => by
    obtain ⟨ha, rfl⟩ := Array.getElem?_eq_some_iff.mp hc
    have q := List.all_eq_true.mp ((Array.all_eq_true_iff_forall_mem.mp hF) _ (Array.getElem_mem ha)) i (List.mem_range.mpr hi)
    simpa [Array.getElem?_eq_getElem hi] using q
  obtain ⟨i0, e0⟩ := is_v g0
  obtain rfl : w0 = (.int i0) := Option.some.inj e0
  obtain ⟨i1, e1⟩ := is_v g1
  obtain rfl : w1 = (.int i1) := Option.some.inj e1
  obtain ⟨i2, e2⟩ := is_v g2
  obtain rfl : w2 = (.int i2) := Option.some.inj e2
  obtain ⟨i3, e3⟩ := is_v g3
  obtain rfl : w3 = (.int i3) := Option.some.inj e3
  obtain ⟨i4, e4⟩ := is_v g4
  obtain rfl : w4 = (.int i4) := Option.some.inj e4
  obtain ⟨i5, e5⟩ := is_v hg5
  obtain rfl : w5 = (.int i5) := Option.some.inj e5
  obtain ⟨n, o, h1, h2, h3, v, L, rfl, ⟨N, V', rfl, -⟩, hq⟩ := rm0 l s _ hw i0 i1 i2 i3 i4 i5 tables_1 s.heap (oHv.nil s) p e ha hc hk s m _ below hf ((Spec.applies_iff_loose hf).mp happ).1 ⟨rfl, State.Warmed39.refl s, rfl⟩ trivial
  refine ⟨n, _, h1, h2, h3, hpost _ _ _ _ _ _ ⟨Cond.after_iff.mpr rfl, Cond.after_iff.mpr (eq_i res_at (Term.int_eval (1)) rfl), trivial⟩ ⟨hq.1, hq.2.1, (hq.2.2.sift fun y hy => Or.inr (N y hy)).mono (by decide) (by decide)⟩⟩
theorem main_1_1 : Claimed_1_1 := comes_1 fun _ _ _ _ _ _ h hF => ⟨h.1, hF⟩
theorem main_1_2 : Claimed_1_2 := comes_1 fun _ _ _ _ _ _ h hF => ⟨h.2.1, hF⟩
end Jvm.Pilot.@@N@@
namespace Jvm.Pilot.@@N@@
open Jvm Jvm.ClassFile Sem Op Lib Jvm.Free Jvm.Stand Jvm.Pilot.@@N@@.Jvm.D
/-! MADE BY PROGRAM (witnessworld.py) out of the Statement's table words and the real class files: 11 classes; the members and pool entries that the words name. The judged class is class 1, her method 1. -/
namespace start1
open Jvm.ClassFile
def u (s : String) : CpInfo := .utf8 (stringToUtf16 s)
/-- a pool by its gaps: so many unusable entries, then the entry; so many at the end -/
def gap : Nat → List CpInfo → List CpInfo
  | 0, r => r
  | n + 1, r => .unusable :: gap n r
def poolList (es : List (Nat × CpInfo)) (last : Nat) : List CpInfo := es.foldr (fun e r => gap e.1 (e.2 :: r)) (gap last [])
def pool (es : List (Nat × CpInfo)) (last : Nat) : Array CpInfo := ⟨poolList es last⟩
def fileOf (pool : Array CpInfo) (this : Nat) (attrs : Array Attribute := #[]) (ms : Array MethodInfo := #[]) (fl : Nat := 33) (sup : Nat := 0) (ifs : Array Nat := #[]) (fds : Array FieldInfo := #[]) : ClassFile where
  minorVersion := 0
  majorVersion := 65
  constantPool := pool
  accessFlags := fl
  thisClass := this
  superClass := sup
  interfaces := ifs
  fields := fds
  methods := ms
  attributes := attrs
def plain (name : String) (sup : Option ClassId) : Class where
  name := name
  kind := .ordinary
  loader := none
  accessFlags := 33
  super := sup
  interfaces := #[]
  cf := none
  fields := #[]
  methods := #[]
  instanceTypes := #[]
  staticTypes := #[]
  resolved := #[]
  callSites := []
  init := .initialized
  statics := none
  mirror := none

def pool0 : Array CpInfo := pool [(5, u "<init>"), (0, u "()V"), (1, .class_ 10), (1, u "java/lang/Object")] 113

def k0m0 : Method := { name := "<init>", desc := "()V", sig := { parameters := [], returnType := none }, accessFlags := 1, code := none }
/-- java/lang/Object -/
def k0 : Class := { plain "java/lang/Object" none with
  accessFlags := 33
  interfaces := #[]
  cf := some (fileOf pool0 8 #[] #[{ accessFlags := 1, nameIndex := 5, descriptorIndex := 6, attributes := #[] }] 33 0 #[] #[])
  fields := #[]
  methods := #[k0m0]
  instanceTypes := #[]
  staticTypes := #[]
  resolved := Array.replicate 124 none
  statics := none }

def pool1 : Array CpInfo := pool [(2, .class_ 4), (1, u "java/lang/Object"), (0, u "<init>"), (0, u "()V"), (0, .integer 324508624), (0, .integer 324508625), (0, .integer 324508626), (0, .integer 324508627), (0, .integer 324508628), (0, .integer 324508629), (0, .integer 324508630), (0, .integer 324508631), (0, .long 6840227782638526189), (1, .methodref 18 19), (0, .class_ 20), (0, .nameAndType 21 22), (0, u "com/example/rakau/rakau/OutputLists"), (0, u "copy"), (0, u "([III[JI)I"), (0, .methodref 24 25), (0, .class_ 26), (0, .nameAndType 27 28), (0, u "com/example/rakau/rakau/OutputListsCopyPinLaw"), (0, u "cell"), (0, u "([JIII[I)Z"), (2, u "law"), (0, u "(IIIIII)Z")] 7

def k1m0 : Method := { name := "<init>", desc := "()V", sig := { parameters := [], returnType := none }, accessFlags := 1, code := none }
def k1c1 : Code := { maxStack := 5, maxLocals := 14, code := code, exceptionTable := #[], attributes := #[] }
def k1m1 : Method := { name := "law", desc := "(IIIIII)Z", sig := { parameters := [.int, .int, .int, .int, .int, .int], returnType := some .boolean }, accessFlags := 9, code := some k1c1 }
def k1c2 : Code := { maxStack := 4, maxLocals := 8, code := method_3_code, exceptionTable := #[], attributes := #[] }
def k1m2 : Method := { name := "cell", desc := "([JIII[I)Z", sig := { parameters := [(.array .long), .int, .int, .int, (.array .int)], returnType := some .boolean }, accessFlags := 10, code := some k1c2 }
/-- com/example/rakau/rakau/OutputListsCopyPinLaw -/
def k1 : Class := { plain "com/example/rakau/rakau/OutputListsCopyPinLaw" (some 0) with
  accessFlags := 49
  interfaces := #[]
  cf := some (fileOf pool1 24 #[] #[{ accessFlags := 1, nameIndex := 5, descriptorIndex := 6, attributes := #[] }, { accessFlags := 9, nameIndex := 31, descriptorIndex := 32, attributes := #[] }, { accessFlags := 10, nameIndex := 27, descriptorIndex := 28, attributes := #[] }] 49 2 #[] #[])
  fields := #[]
  methods := #[k1m0, k1m1, k1m2]
  instanceTypes := #[]
  staticTypes := #[]
  resolved := Array.replicate 40 none
  statics := none }

def pool2 : Array CpInfo := pool [(1, .class_ 2), (0, u "com/example/rakau/rakau/OutputLists"), (3, .class_ 8), (1, u "java/lang/Object"), (23, u "lengthBits"), (0, u "I"), (2, u "lengths"), (0, u "[I"), (12, u "namedByPlace"), (0, u "Z"), (17, u "lists"), (71, .long 4294967295), (1, u "EMPTY"), (2, u "SHORT_LIST"), (1, u "COPIED_AT_MOST"), (0, u "LONG_LIST_HEADER"), (1, u "LIST_BITS"), (1, u "MAX_IN_TURN"), (8, u "copy"), (0, u "([III[JI)I")] 27

def k2c0 : Code := { maxStack := 8, maxLocals := 8, code := prog_24_method_10_code, exceptionTable := #[], attributes := #[] }
def k2m0 : Method := { name := "copy", desc := "([III[JI)I", sig := { parameters := [(.array .int), .int, .int, (.array .long), .int], returnType := some .int }, accessFlags := 8, code := some k2c0 }
/-- com/example/rakau/rakau/OutputLists -/
def k2 : Class := { plain "com/example/rakau/rakau/OutputLists" (some 0) with
  accessFlags := 48
  interfaces := #[]
  cf := some (fileOf pool2 1 #[] #[{ accessFlags := 8, nameIndex := 162, descriptorIndex := 163, attributes := #[] }] 48 6 #[] #[{ accessFlags := 24, nameIndex := 143, descriptorIndex := 33, attributes := #[] }, { accessFlags := 26, nameIndex := 146, descriptorIndex := 33, attributes := #[] }, { accessFlags := 24, nameIndex := 148, descriptorIndex := 33, attributes := #[] }, { accessFlags := 26, nameIndex := 149, descriptorIndex := 33, attributes := #[] }, { accessFlags := 26, nameIndex := 151, descriptorIndex := 33, attributes := #[] }, { accessFlags := 26, nameIndex := 153, descriptorIndex := 33, attributes := #[] }, { accessFlags := 18, nameIndex := 69, descriptorIndex := 37, attributes := #[] }, { accessFlags := 18, nameIndex := 32, descriptorIndex := 33, attributes := #[] }, { accessFlags := 18, nameIndex := 36, descriptorIndex := 37, attributes := #[] }, { accessFlags := 18, nameIndex := 50, descriptorIndex := 51, attributes := #[] }])
  fields := #[{ name := "EMPTY", type := .int, accessFlags := 24, slot := 0, constantValue := 0 }, { name := "SHORT_LIST", type := .int, accessFlags := 26, slot := 1, constantValue := 0 }, { name := "COPIED_AT_MOST", type := .int, accessFlags := 24, slot := 2, constantValue := 0 }, { name := "LONG_LIST_HEADER", type := .int, accessFlags := 26, slot := 3, constantValue := 0 }, { name := "LIST_BITS", type := .int, accessFlags := 26, slot := 4, constantValue := 0 }, { name := "MAX_IN_TURN", type := .int, accessFlags := 26, slot := 5, constantValue := 0 }, { name := "lists", type := (.array .int), accessFlags := 18, slot := 0, constantValue := 0 }, { name := "lengthBits", type := .int, accessFlags := 18, slot := 1, constantValue := 0 }, { name := "lengths", type := (.array .int), accessFlags := 18, slot := 2, constantValue := 0 }, { name := "namedByPlace", type := .boolean, accessFlags := 18, slot := 3, constantValue := 0 }]
  methods := #[k2m0]
  instanceTypes := #[(.array .int), .int, (.array .int), .boolean]
  staticTypes := #[.int, .int, .int, .int, .int, .int]
  resolved := Array.replicate 191 none
  statics := none }

def pool3 : Array CpInfo := pool [(1, u "java/lang/Cloneable"), (0, .class_ 1), (0, u "java/lang/Object"), (0, .class_ 3)] 3

/-- java/lang/Cloneable -/
def k3 : Class := { plain "java/lang/Cloneable" (some 0) with
  accessFlags := 1537
  interfaces := #[]
  cf := some (fileOf pool3 2 #[] #[] 1537 4 #[] #[])
  fields := #[]
  methods := #[]
  instanceTypes := #[]
  staticTypes := #[]
  resolved := Array.replicate 8 none
  statics := none }

def pool4 : Array CpInfo := pool [(1, u "java/io/Serializable"), (0, .class_ 1), (0, u "java/lang/Object"), (0, .class_ 3)] 3

/-- java/io/Serializable -/
def k4 : Class := { plain "java/io/Serializable" (some 0) with
  accessFlags := 1537
  interfaces := #[]
  cf := some (fileOf pool4 2 #[] #[] 1537 4 #[] #[])
  fields := #[]
  methods := #[]
  instanceTypes := #[]
  staticTypes := #[]
  resolved := Array.replicate 8 none
  statics := none }

/-- the primitive byte -/
def k5 : Class := { plain "byte" none with kind := .primitive 'B', accessFlags := 0x411 }
/-- [B -/
def k6 : Class := { plain "[B" (some 0) with kind := .array 5 .byte, interfaces := #[3, 4], accessFlags := 1041 }

/-- the primitive int -/
def k7 : Class := { plain "int" none with kind := .primitive 'I', accessFlags := 0x411 }
/-- [I -/
def k8 : Class := { plain "[I" (some 0) with kind := .array 7 .int, interfaces := #[3, 4], accessFlags := 1041 }

/-- the primitive long -/
def k9 : Class := { plain "long" none with kind := .primitive 'J', accessFlags := 0x411 }
/-- [J -/
def k10 : Class := { plain "[J" (some 0) with kind := .array 9 .long, interfaces := #[3, 4], accessFlags := 1041 }

def heap : Heap := #[]
def classes : Array Class := #[k0, k1, k2, k3, k4, k5, k6, k7, k8, k9, k10]
def interned : List (Array UInt16 × Addr) := []
def slotsUsed : Nat := 0
def theMethod : MethodId := ⟨1, 1⟩
def args0 : Array Value := #[.int 5, .int 5, .int 5, .int 5, .int 5, .int 5]
def aboutOver (below : List Frame) : State where
  vm := { classes := classes, interned := interned.toArray }
  heap := heap
  slotsUsed := slotsUsed
  threads := #[{ frames := .invoking theMethod args0 :: below }]
def below0 : List Frame := [.native { method := ⟨0, 0⟩, args := #[] }]
def about1 : State := aboutOver below0
def p0 : Program := .bare "" "" ""
def e0 : Env := launch0.env 0 0 0
theorem w_frames : about1.frames = Frame.invoking theMethod args0 :: below0 := rfl
set_option maxRecDepth 65536 in
theorem w_args : argsFit about1.vm theMethod args0 = true := by decide +kernel
set_option maxRecDepth 65536 in
theorem w_heap : heapFits about1 = true := by decide +kernel
set_option maxRecDepth 65536 in
theorem w_runnable : about1.curStatus? = some .runnable := by decide +kernel
set_option maxRecDepth 65536 in
theorem w_alone : about1.alone = true := by decide +kernel
set_option maxRecDepth 65536 in
theorem w_named : about1.methodNamed? x = some theMethod := by decide +kernel
set_option maxRecDepth 65536 in
theorem w_hears : about1.hears theMethod below0 = true := by decide +kernel
set_option maxRecDepth 65536 in
theorem w_ripe : about1.ripe theMethod args0 below0 = true := by decide +kernel
theorem w_running : about1.status = .running := rfl
set_option maxRecDepth 65536 in
theorem w_room : about1.hasRoom e0.platform room_1 = true :=
  launch0.hasRoom_least _ room_1 (by decide +kernel) (by decide +kernel) (by decide +kernel) (by decide +kernel) (by decide +kernel) (by decide +kernel)
theorem allAtoms_all (ts : List Jvm.Cond) (a : Array Jvm.Value) (st : Jvm.State) : (allAtoms ts).before a st = ts.all (fun c => c.before a st) := by
  induction ts with
  | nil => rfl
  | cons c t ih =>
    show (Jvm.Cond.and c (allAtoms t)).before a st = _
    rw [Jvm.Cond.before_and, ih, List.all_cons]
def words1 : List Jvm.Cond := Jvm.Cond.code x code maxLocals ret :: tables_1
/-- a 'code' word, met by the world's own term for the bytes: nothing is compared byte by byte -/
theorem code_word {y : MethodName} {bytes : ByteArray} {mx : Nat} {rt : Option FieldType} {a : Array Value} {s : State} {m : MethodId} {meth : Method} {c : Code} (h1 : s.methodNamed? y = some m) (h2 : s.vm.method? m = some meth) (h3 : meth.code = some c) (h4 : c.code = bytes)
    (h5 : (c.maxLocals == mx && c.exceptionTable.isEmpty && decide (c.maxStack ≤ mostOperands) && decide (meth.sig.returnType = rt) && !meth.locks && decide (parseMethodDescriptor y.desc = some meth.sig)) = true) : (Jvm.Cond.code y bytes mx rt).before a s = true := by
  simp only [Bool.and_eq_true, beq_iff_eq, Bool.not_eq_true', decide_eq_true_eq] at h5
  obtain ⟨⟨⟨⟨⟨g1, g2⟩, g3⟩, g4⟩, g5⟩, g6⟩ := h5
  simp [Cond.before, Cond.holds, Cond.value, h1, h2, h3, h4, g1, g2, g3, g4, g5, g6]
def isCode : Jvm.Cond → Bool
  | .code _ _ _ _ => true
  | _ => false
theorem all_split {L : List Jvm.Cond} {P : Jvm.Cond → Bool} (h1 : L.all (fun c => isCode c || P c) = true) (h2 : ∀ c ∈ L.filter isCode, P c = true) : L.all P = true := by
  refine List.all_eq_true.mpr fun c hc => ?_
  have h := List.all_eq_true.mp h1 c hc
  rcases Bool.eq_false_or_eq_true (isCode c) with hi | hi
  · exact h2 c (List.mem_filter.mpr ⟨hc, hi⟩)
  · simpa [hi] using h
set_option maxRecDepth 65536 in
theorem w_c0 : (Jvm.Cond.code x code maxLocals ret).before args0 about1 = true := code_word (m := ⟨1, 1⟩) (meth := k1m1) (c := k1c1) (by decide +kernel) rfl rfl rfl (by decide +kernel)
set_option maxRecDepth 65536 in
theorem w_c1 : (Jvm.Cond.code ({ cls := "com/example/rakau/rakau/OutputLists", name := "copy", desc := "([III[JI)I" } : Jvm.MethodName) prog_24_method_10_code (8 : Nat) (Option.some Jvm.ClassFile.FieldType.int)).before args0 about1 = true := code_word (m := ⟨2, 0⟩) (meth := k2m0) (c := k2c0) (by decide +kernel) rfl rfl rfl (by decide +kernel)
set_option maxRecDepth 65536 in
theorem w_c2 : (Jvm.Cond.code ({ cls := "com/example/rakau/rakau/OutputListsCopyPinLaw", name := "cell", desc := "([JIII[I)Z" } : Jvm.MethodName) method_3_code (8 : Nat) (Option.some Jvm.ClassFile.FieldType.boolean)).before args0 about1 = true := code_word (m := ⟨1, 2⟩) (meth := k1m2) (c := k1c2) (by decide +kernel) rfl rfl rfl (by decide +kernel)
def codes1 : List Jvm.Cond := [Jvm.Cond.code x code maxLocals ret, Jvm.Cond.code ({ cls := "com/example/rakau/rakau/OutputLists", name := "copy", desc := "([III[JI)I" } : Jvm.MethodName) prog_24_method_10_code (8 : Nat) (Option.some Jvm.ClassFile.FieldType.int), Jvm.Cond.code ({ cls := "com/example/rakau/rakau/OutputListsCopyPinLaw", name := "cell", desc := "([JIII[I)Z" } : Jvm.MethodName) method_3_code (8 : Nat) (Option.some Jvm.ClassFile.FieldType.boolean)]
set_option maxRecDepth 65536 in
theorem codes_eq : words1.filter isCode = codes1 := rfl
theorem w_codes : ∀ c ∈ words1.filter isCode, c.before args0 about1 = true := by
  rw [codes_eq]
  intro c hc
  simp only [codes1, List.mem_cons, List.not_mem_nil, or_false] at hc
  rcases hc with rfl | rfl | rfl
  · exact w_c0
  · exact w_c1
  · exact w_c2
set_option maxRecDepth 65536 in
theorem w_t1 : words1.all (fun c => isCode c || c.before args0 about1) = true := by decide +kernel
theorem w_tables : (allAtoms (Jvm.Cond.code x code maxLocals ret :: tables_1)).before args0 about1 = true := by
  rw [allAtoms_all]
  show words1.all (fun c => c.before args0 about1) = true
  refine all_split ?_ w_codes
  rw [w_t1]
set_option maxRecDepth 65536 in
theorem w_case : (Jvm.Cond.and given_1 narrow_1).before args0 about1 = true := by decide +kernel
theorem w_applies : (headSpec (Jvm.Cond.code x code maxLocals ret :: tables_1) room_1).applies x e0.platform about1 = true :=
  (Spec.applies_iff w_frames).mpr ⟨w_running, w_runnable, w_alone, w_named, w_hears, w_ripe, w_room, w_tables⟩
theorem atStart : AtStart classFile x code maxLocals ret World_1 tables_1 room_1 Calls_1 rest_1 Pre_1 launch0 p0 e0 about1 theMethod args0 below0 :=
  ⟨lists_1, trivial, launch0.admits_env _ _ _, launch0.least_env, fairChoices_fair.cas, fairChoices_fair.clock, w_frames, w_args, w_heap, w_applies, trivial, trivial, w_case⟩
end start1
theorem witness_1 : WitnessClaimed_1 := ⟨start1.p0, start1.e0, start1.about1, start1.theMethod, start1.args0, start1.below0, start1.atStart⟩
end Jvm.Pilot.@@N@@
