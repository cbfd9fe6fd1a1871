import JvmDerived
import JvmDerived.Pilot.@@N@@Statement
import JvmDerived.Pilot.@@N@@Code
set_option linter.unusedVariables false
set_option linter.unusedSimpArgs false
namespace Jvm.Pilot.@@N@@
open Jvm Jvm.ClassFile Sem Op Lib Jvm.Free Jvm.Stand Jvm.LawKit Jvm.RoadKit Bundle Jvm.Pilot.@@N@@.Jvm.D
/-! 1. what is known of the heap: a list of objects made since the start -/
abbrev oOb : Type := (String × List (String × String × String × Value)) ⊕ (FieldType × List Value)
abbrev oVw : Type := List (Addr × oOb)
def oSat (Z : State) (h : Heap) (a : Addr) : oOb → Prop
  | .inl q => Exa Z h a q.1 ∧ (q.2.map fun f => Jvm.RoadKit.slotOf Z f.1 f.2.1 f.2.2.1).Nodup ∧ ∀ f ∈ q.2, Fld Z h a f.1 f.2.1 f.2.2.1 f.2.2.2
  | .inr q => ∃ c : Cell, Arr Z h a c q.1 ∧ c.slots.toList = q.2 ∧ q.2.length < 2 ^ 31
def oHv (Z : State) (h : Heap) (V : oVw) : Prop := Ext Z.heap h ∧ (V.map Prod.fst).Nodup ∧ ∀ x ∈ V, Z.heap.size ≤ x.1 ∧ oSat Z h x.1 x.2
theorem oSat.ext {Z : State} {h h' : Heap} {a : Addr} {o : oOb} (E : Ext h h') (S : oSat Z h a o) : oSat Z h' a o := by
  cases o with
  | inl q => exact ⟨S.1.ext E, S.2.1, fun f hf => (S.2.2 f hf).ext E⟩
  | inr q => obtain ⟨c, A, r⟩ := S; exact ⟨c, A.ext E, r⟩
theorem oSat.other {Z : State} {h h' : Heap} {a b : Addr} {o : oOb} {sl : Nat} {v : Value} (W : Wr h h' b sl v) (ne : a ≠ b) (S : oSat Z h a o) : oSat Z h' a o := by
  cases o with
  | inl q => exact ⟨S.1.wr W, S.2.1, fun f hf => (S.2.2 f hf).other W (Or.inl ne)⟩
  | inr q => obtain ⟨c, A, r⟩ := S; exact ⟨c, A.other W ne, r⟩
theorem oSat.lt {Z : State} {h : Heap} {a : Addr} {o : oOb} (S : oSat Z h a o) : a < h.size := by
  cases o with
  | inl q => exact S.1.lt
  | inr q => obtain ⟨c, A, r⟩ := S; exact A.lt
theorem oSetSame {α : Type} : ∀ {l : List α} {i : Nat} {x : α}, l[i]? = some x → l.set i x = l
  | [], _, _, h => by simp at h
  | y :: r, 0, x, h => by simp at h; simp [h]
  | y :: r, i + 1, x, h => by simp at h; simp [oSetSame h]
theorem oSetGet {α : Type} {l : List α} {i : Nat} {x y : α} (h : l[i]? = some x) : (l.set i y)[i]? = some y := by
  obtain ⟨hi, -⟩ := List.getElem?_eq_some_iff.mp h
  simp [hi]
theorem oSetNe {α : Type} {l : List α} {i k : Nat} {x y : α} (ne : i ≠ k) (h : l[k]? = some x) : (l.set i y)[k]? = some x := by
  rw [List.getElem?_set_ne ne]; exact h
theorem oAppGet {α : Type} {l r : List α} {i : Nat} {x : α} (h : l[i]? = some x) : (l ++ r)[i]? = some x := by
  obtain ⟨hi, -⟩ := List.getElem?_eq_some_iff.mp h
  rw [List.getElem?_append_left hi]; exact h
theorem oAppLast {α : Type} {l : List α} {x : α} : (l ++ [x])[l.length]? = some x := by simp
theorem oAppSet {α : Type} {l r : List α} {i : Nat} {x y : α} (h : l[i]? = some x) : (l ++ r).set i y = l.set i y ++ r := by
  obtain ⟨hi, -⟩ := List.getElem?_eq_some_iff.mp h
  simp [List.set_append, hi]
theorem oAppSetLast {α : Type} {l : List α} {x y : α} : (l ++ [x]).set l.length y = l ++ [y] := by simp [List.set_append]
theorem oNd {α β : Type} {f : α → β} {l : List α} (nd : (l.map f).Nodup) {i k : Nat} {x y : α} (hi : l[i]? = some x) (hk : l[k]? = some y) (ne : i ≠ k) : f x ≠ f y := by
  intro e
  have h1 : (l.map f)[i]? = some (f x) := by simp [hi]
  have h2 : (l.map f)[k]? = some (f x) := by simp [hk, e]
  obtain ⟨hi', g1⟩ := List.getElem?_eq_some_iff.mp h1
  obtain ⟨hk', g2⟩ := List.getElem?_eq_some_iff.mp h2
  exact ne ((List.getElem_inj nd).mp (g1.trans g2.symm))
theorem oMapSet {α β : Type} {f : α → β} {l : List α} {i : Nat} {x y : α} (hi : l[i]? = some x) (e : f y = f x) : (l.set i y).map f = l.map f := by
  rw [List.map_set]; exact oSetSame (by simp [hi, e])
theorem oMemSet {α : Type} {l : List α} {i : Nat} {y z : α} (h : z ∈ l.set i y) : z = y ∨ ∃ k, k ≠ i ∧ l[k]? = some z := by
  obtain ⟨k, hk⟩ := List.mem_iff_getElem?.mp h
  by_cases e : i = k
  · subst e
    obtain ⟨hi, g⟩ := List.getElem?_eq_some_iff.mp hk
    left; simp at g; exact g.symm
  · right; exact ⟨k, fun q => e q.symm, by rwa [List.getElem?_set_ne e] at hk⟩
theorem oHv.new {Z : State} {h h' : Heap} {V : oVw} {o : oOb} (H : oHv Z h V) (E : Ext h h') (S : oSat Z h' h.size o) : oHv Z h' (V ++ [(h.size, o)]) := by
  obtain ⟨H1, H2, H3⟩ := H
  refine ⟨⟨Nat.le_trans H1.1 E.1, fun a c q => E.2 _ _ (H1.2 _ _ q)⟩, ?_, fun x hx => ?_⟩
  · rw [List.map_append, List.nodup_append]
    refine ⟨H2, by simp, fun a ha b hb => ?_⟩
    simp at hb
    subst hb
    obtain ⟨x, hx, rfl⟩ := List.mem_map.mp ha
    exact Nat.ne_of_lt (H3 x hx).2.lt
  · rcases List.mem_append.mp hx with hx | hx
    · exact ⟨(H3 x hx).1, (H3 x hx).2.ext E⟩
    · simp at hx; subst hx; exact ⟨H1.1, S⟩
theorem oHv.wr {Z : State} {h h' : Heap} {V : oVw} {a : Addr} {o o' : oOb} {i sl : Nat} {v : Value} (H : oHv Z h V) (W : Wr h h' a sl v) (hi : V[i]? = some (a, o)) (S : oSat Z h' a o') : oHv Z h' (V.set i (a, o')) := by
  obtain ⟨H1, H2, H3⟩ := H
  have hm := H3 _ (List.mem_of_getElem? hi)
  refine ⟨(Old.wr (n0 := Z.heap.size) ⟨rfl, H1⟩ W hm.1).2, ?_, fun x hx => ?_⟩
  · rw [oMapSet (y := (a, o')) hi rfl]; exact H2
  · rcases oMemSet hx with rfl | ⟨k, hk, hx⟩
    · exact ⟨hm.1, S⟩
    · have q := H3 _ (List.mem_of_getElem? hx)
      exact ⟨q.1, q.2.other W (oNd H2 hx hi hk)⟩
theorem oSat.wrF {Z : State} {h h' : Heap} {a : Addr} {C O n d : String} {fs : List (String × String × String × Value)} {j : Nat} {v old : Value} (S : oSat Z h a (.inl (C, fs))) (hj : fs[j]? = some (O, n, d, old)) (W : Wr h h' a (Jvm.RoadKit.slotOf Z O n d) v) :
    oSat Z h' a (.inl (C, fs.set j (O, n, d, v))) := by
  obtain ⟨S1, S2, S3⟩ := S
  refine ⟨S1.wr W, ?_, fun f hf => ?_⟩
  · show ((fs.set j (O, n, d, v)).map _).Nodup
    rw [oMapSet (y := (O, n, d, v)) hj rfl]; exact S2
  · rcases oMemSet hf with rfl | ⟨k, hk, hf⟩
    · exact (S3 _ (List.mem_of_getElem? hj)).same W
    · have S2' : (fs.map fun f => Jvm.RoadKit.slotOf Z f.1 f.2.1 f.2.2.1).Nodup := S2
      have q := oNd S2' hf hj hk
      dsimp only at q
      exact (S3 _ (List.mem_of_getElem? hf)).other W (Or.inr q)
theorem oSat.wrA {Z : State} {h h' : Heap} {a : Addr} {ty : FieldType} {vs : List Value} {j : Nat} {v : Value} (S : oSat Z h a (.inr (ty, vs))) (W : Wr h h' a j v) : oSat Z h' a (.inr (ty, vs.set j v)) := by
  obtain ⟨c, A, r1, r2⟩ := S
  refine ⟨_, A.same W, ?_, by rw [List.length_set]; exact r2⟩
  show (c.setSlot j v).slots.toList = _
  simp only [Cell.setSlot, Array.toList_setIfInBounds, r1]
theorem oHv.sat {Z : State} {h : Heap} {V : oVw} {a : Addr} {o : oOb} {i : Nat} (H : oHv Z h V) (hi : V[i]? = some (a, o)) : oSat Z h a o := (H.2.2 _ (List.mem_of_getElem? hi)).2
theorem oHv.ge {Z : State} {h : Heap} {V : oVw} {a : Addr} {o : oOb} {i : Nat} (H : oHv Z h V) (hi : V[i]? = some (a, o)) : Z.heap.size ≤ a := (H.2.2 _ (List.mem_of_getElem? hi)).1
theorem oHv.nil (Z : State) : oHv Z Z.heap [] := ⟨⟨Nat.le_refl _, fun _ _ q => q⟩, List.nodup_nil, fun _ q => nomatch q⟩
/-- the fields of a class, as they are at first -/
def oLay (Z : State) (a0 : Array Value) (C : String) (fs : List (String × String × String × Value)) : Prop := (fs.map fun f => Jvm.RoadKit.slotOf Z f.1 f.2.1 f.2.2.1).Nodup ∧ ∀ f ∈ fs, Laid Z a0 C f.1 f.2.1 f.2.2.1 ∧ ∃ ty, parseFieldDescriptor f.2.2.1 = some ty ∧ f.2.2.2 = defaultValue ty
def oAll {α : Type} (P : α → Prop) : List α → Prop
  | [] => True
  | x :: r => P x ∧ oAll P r
theorem oAll.mem {α : Type} {P : α → Prop} : ∀ {l : List α}, oAll P l → ∀ x ∈ l, P x
  | [], _, _, q => nomatch q
  | y :: r, H, x, q => (List.mem_cons.mp q).elim (fun u => u ▸ H.1) (oAll.mem H.2 x)
theorem oLay.of {Z : State} {a0 : Array Value} {C : String} {fs : List (String × String × String × Value)} (hn : (fs.map fun f => f.2.1).Nodup) (hL : oAll (fun f => Laid Z a0 C f.1 f.2.1 f.2.2.1 ∧ ∃ ty, parseFieldDescriptor f.2.2.1 = some ty ∧ f.2.2.2 = defaultValue ty) fs) : oLay Z a0 C fs := by
  have hL := hL.mem
  refine ⟨?_, hL⟩
  have hn' := List.pairwise_map.mp hn
  refine List.pairwise_map.mpr (List.Pairwise.imp_of_mem (fun {x z} hx hz ne => ?_) hn')
  obtain ⟨L1, t1, p1, -⟩ := hL _ hx
  obtain ⟨L2, t2, p2, -⟩ := hL _ hz
  exact slot_ne L1 L2 ne p1 p2
/-! 2. where the run stands, and where it goes -/
section Walk
variable {p : Program} {l : Launch} {e : Env} {R : Room} {s : State} {m : MethodId} {args : Array Value} {below : List Frame} {meth : Method} {c : Code} {Z : State} {bytes : ByteArray} {own nm : String} {maxL : Nat} {ret : Option FieldType} {T : State} {V V' : oVw} {cells slots c2 s2 : Nat} {Ret : Option Value → oVw → Prop} {a0 : Array Value} {pc q : Nat} {Ls : Array Slot} {st rest : List Value}
def oE (p : Program) (l : Launch) (e : Env) (R : Room) (s : State) (m : MethodId) (args : Array Value) (below : List Frame) (meth : Method) (c : Code) (Z : State) (bytes : ByteArray) (own nm : String) (maxL : Nat) (ret : Option FieldType) : Prop :=
  p.tables.exec = Jvm.exec ∧ Z.Warmed39 s.vm ∧ s.vm.findClass own = some m.cls ∧ c.code = bytes ∧ c.maxLocals = maxL ∧ meth.sig.returnType = ret ∧ meth.name = nm ∧ meth.locks = false
def oX (p : Program) (l : Launch) (e : Env) (R : Room) (s : State) (m : MethodId) (args : Array Value) (below : List Frame) (meth : Method) (c : Code) (Z T : State) (V : oVw) (cells slots : Nat) : Prop :=
  ∃ locs c' s', c' ≤ cells ∧ s' ≤ slots ∧ Stand p l e R s m args below meth c T locs c' s' ∧ Fr Z.heap.size locs ∧ oHv Z T.heap V
def oG (p : Program) (e : Env) (below : List Frame) (s Z : State) (R : Room) (Ret : Option Value → oVw → Prop) (T : State) (g : JFrame) : Prop :=
  ∃ t o, Steps p.tables e below (T.setTop g) t ∧ t.status = .running ∧ Ended t below o ∧ ∃ v L, o = .returned v ∧ (Fr Z.heap.size L ∧ ∃ V', Ret v V' ∧ oHv Z t.heap V') ∧ FrameEnd s o t L R.cells R.slots
/-- the contract of a method at a view V of the heap -/
def oCon (l : Launch) (Z : State) (y : MethodName) (bytes : ByteArray) (maxL : Nat) (ret : Option FieldType) (rm : Room) (as' : Array Value) (V : oVw) (Ret : Option Value → oVw → Prop) : Prop :=
  ∀ (ws : List Jvm.Cond) (h0 : Heap), oHv Z h0 V → MetFree l y (head1 (Jvm.Cond.code y bytes maxL ret :: ws) rm) (fun a U => a = as' ∧ Z.Warmed39 U.vm ∧ U.heap = h0) (fun _ _ _ _ _ => True) (fun _ U o U' => ∃ v L, o = .returned v ∧ (Fr Z.heap.size L ∧ ∃ V', Ret v V' ∧ oHv Z U'.heap V') ∧ FrameEnd U o U' L rm.cells rm.slots)
theorem oG.step {T' : State} {g g' : JFrame} (k : ∀ t, Steps p.tables e below (T'.setTop g') t → Steps p.tables e below (T.setTop g) t) (G : oG p e below s Z R Ret T' g') : oG p e below s Z R Ret T g := by
  obtain ⟨t, o, h1, r⟩ := G; exact ⟨t, o, k t h1, r⟩
theorem oG.steps {T' : State} {g g' : JFrame} (k : Steps p.tables e below (T.setTop g) (T'.setTop g')) (G : oG p e below s Z R Ret T' g') : oG p e below s Z R Ret T g := by
  obtain ⟨t, o, h1, r⟩ := G; exact ⟨t, o, k.trans h1, r⟩
theorem oX.le (X : oX p l e R s m args below meth c Z T V cells slots) (h1 : cells ≤ c2) (h2 : slots ≤ s2) : oX p l e R s m args below meth c Z T V c2 s2 := by
  obtain ⟨locs, c', s', q1, q2, r⟩ := X; exact ⟨locs, c', s', Nat.le_trans q1 h1, Nat.le_trans q2 h2, r⟩
theorem oX.hv (X : oX p l e R s m args below meth c Z T V cells slots) : oHv Z T.heap V := by
  obtain ⟨_, _, _, _, _, _, _, H⟩ := X; exact H
/-- entering a method -/
theorem oEnter {y : MethodName} {as' : Array Value} {rm : Room} (hpl : plainFor y = true) (hent : ∀ m, entryFrame m as' maxL = mkF m 0 Ls [])
    (body : ∀ p e s m below meth c T, oE p l e rm s m as' below meth c Z bytes y.cls y.name maxL ret → oX p l e rm s m as' below meth c Z T V 0 0 → oG p e below s Z rm Ret T (mkF m 0 Ls [])) :
    oCon l Z y bytes maxL ret rm as' V Ret := by
  intro ws h0 H
  refine MetFree.of_bodySF hpl hisR ?_
  intro p e s m args below meth c s₁ Bd hml0 hP hK
  obtain ⟨rfl, hZ, hh⟩ := hP
  have e0 : s₁.heap = h0 := by rw [← hh, Bd.state]; rfl
  have G := body p e s m below meth c s₁ ⟨Bd.exec, hZ, findClass_of_methodNamed Bd.named, Bd.bytes, hml0, Bd.returns, (name_of_methodNamed Bd.named Bd.method).1, BodyLoose.notSynchronized Bd⟩ ⟨[], 0, 0, Nat.le_refl _, Nat.le_refl _, Stand.of_body Bd, Fr.nil _, e0 ▸ H⟩
  obtain ⟨t, o, h1, r⟩ := G
  exact ⟨t, o, castTop (hent m) h1, r⟩
/-! 3. leaving -/
theorem oLeave (E : oE p l e R s m args below meth c Z bytes own nm maxL ret) (X : oX p l e R s m args below meth c Z T V cells slots) (hc : cells ≤ R.cells) (hs : slots ≤ R.slots) {v : Option Value} (hv : meth.sig.returnType = none → v = none) (hR : Ret v V) {g : JFrame}
    (k : ∀ {locs c' s'}, Stand p l e R s m args below meth c T locs c' s' → ∀ fs, (∀ (f : JFrame) (acts : List Action), f.method = m → f.locked = none → f.entered = [] → (doReturn e (T.setTop f) acts v).1 = T.setFrames fs) → Steps p.tables e below (T.setTop g) (T.setFrames fs)) :
    oG p e below s Z R Ret T g := by
  obtain ⟨locs, c', s', q1, q2, Y, N, H⟩ := X
  have hlocks := E.2.2.2.2.2.2.2
  obtain ⟨fs, hr, hrun, hended, hW, hsame⟩ := Y.leave (v := v) hv hlocks
  exact ⟨_, _, k Y fs hr, hrun, hended, _, _, rfl, ⟨N, _, hR, H⟩, ⟨_, rfl⟩, hW, hsame.mono (Nat.le_trans q1 hc) (Nat.le_trans q2 hs)⟩
theorem gRetV (E : oE p l e R s m args below meth c Z bytes own nm maxL none) (X : oX p l e R s m args below meth c Z T V cells slots) (hd : decode bytes pc = .ok (.return_, 1)) (hc : cells ≤ R.cells) (hs : slots ≤ R.slots) (hR : Ret none V) : oG p e below s Z R Ret T (mkF m pc Ls []) :=
  oLeave E X hc hs (fun _ => rfl) hR fun Y fs hr => Y.returnOut E.1 E.2.2.2.2.2.1 (hb E.2.2.2.1 hd) hr
theorem gRetI (E : oE p l e R s m args below meth c Z bytes own nm maxL (some .int)) (X : oX p l e R s m args below meth c Z T V cells slots) {z : Int32} (hd : decode bytes pc = .ok (.ireturn, 1)) (hc : cells ≤ R.cells) (hs : slots ≤ R.slots) (hR : Ret (some (.int z)) V) : oG p e below s Z R Ret T (mkF m pc Ls (.int z :: rest)) :=
  oLeave E X hc hs (fun h => by rw [E.2.2.2.2.2.1] at h; cases h) hR fun Y fs hr => retOut Y E.1 E.2.2.2.2.2.1 rfl (Or.inl ⟨rfl, Or.inl rfl, _, rfl⟩) (hb E.2.2.2.1 hd) hr
theorem gRetN {t : FieldType} (E : oE p l e R s m args below meth c Z bytes own nm maxL (some t)) (X : oX p l e R s m args below meth c Z T V cells slots) (ht : t = .boolean ∨ t = .byte ∨ t = .char ∨ t = .short) {z : Int32} (hd : decode bytes pc = .ok (.ireturn, 1)) (hc : cells ≤ R.cells) (hs : slots ≤ R.slots) (hR : Ret (some (.int (nar t z))) V) : oG p e below s Z R Ret T (mkF m pc Ls (.int z :: rest)) :=
  oLeave E X hc hs (fun h => by rw [E.2.2.2.2.2.1] at h; cases h) hR fun Y fs hr => retN Y E.1 E.2.2.2.2.2.1 ht (hb E.2.2.2.1 hd) hr
theorem gRetJ (E : oE p l e R s m args below meth c Z bytes own nm maxL (some .long)) (X : oX p l e R s m args below meth c Z T V cells slots) {z : Int64} (hd : decode bytes pc = .ok (.lreturn, 1)) (hc : cells ≤ R.cells) (hs : slots ≤ R.slots) (hR : Ret (some (.long z)) V) : oG p e below s Z R Ret T (mkF m pc Ls (.long z :: rest)) :=
  oLeave E X hc hs (fun h => by rw [E.2.2.2.2.2.1] at h; cases h) hR fun Y fs hr => retOut Y E.1 E.2.2.2.2.2.1 rfl (Or.inr (Or.inl ⟨rfl, rfl, _, rfl⟩)) (hb E.2.2.2.1 hd) hr
theorem gRetA {t : FieldType} (E : oE p l e R s m args below meth c Z bytes own nm maxL (some t)) (X : oX p l e R s m args below meth c Z T V cells slots) (ht : t.isReference = true) {v : Value} (hd : decode bytes pc = .ok (.areturn, 1)) (hc : cells ≤ R.cells) (hs : slots ≤ R.slots) (hv : v.isRef = true) (hn : narrow t v = v) (hR : Ret (some v) V) : oG p e below s Z R Ret T (mkF m pc Ls (v :: rest)) :=
  oLeave E X hc hs (fun h => by rw [E.2.2.2.2.2.1] at h; cases h) hR fun Y fs hr => retOut Y E.1 E.2.2.2.2.2.1 hn (Or.inr (Or.inr (Or.inr (Or.inr ⟨rfl, ht, hv⟩)))) (hb E.2.2.2.1 hd) hr
/-! 4. single steps -/
theorem gAloadN (E : oE p l e R s m args below meth c Z bytes own nm maxL ret) (X : oX p l e R s m args below meth c Z T V cells slots) {k : Fin 4} {v : Value} (hd : decode bytes pc = .ok (.aload_n k, 1)) (hl : Ls[k.val]? = some (.val v)) (hv : v.isRef = true) (hp : pc + 1 = q) (G : oG p e below s Z R Ret T (mkF m q Ls (v :: st))) : oG p e below s Z R Ret T (mkF m pc Ls st) := by
  subst hp ; obtain ⟨_, _, _, _, _, Y, _⟩ := X; exact G.step fun t k => XS.aloadN Y.here E.1 rfl (hb E.2.2.2.1 hd) hl hv k
theorem gAload (E : oE p l e R s m args below meth c Z bytes own nm maxL ret) (X : oX p l e R s m args below meth c Z T V cells slots) {k : Nat} {v : Value} (hd : decode bytes pc = .ok (.aload k, 2)) (hl : Ls[k]? = some (.val v)) (hv : v.isRef = true) (hp : pc + 2 = q) (G : oG p e below s Z R Ret T (mkF m q Ls (v :: st))) : oG p e below s Z R Ret T (mkF m pc Ls st) := by
  subst hp ; obtain ⟨_, _, _, _, _, Y, _⟩ := X; exact G.step fun t k => XS.aload Y.here E.1 rfl (hb E.2.2.2.1 hd) hl hv k
theorem gIloadN (E : oE p l e R s m args below meth c Z bytes own nm maxL ret) (X : oX p l e R s m args below meth c Z T V cells slots) {k : Fin 4} {v : Int32} (hd : decode bytes pc = .ok (.iload_n k, 1)) (hl : Ls[k.val]? = some (.val (.int v))) (hp : pc + 1 = q) (G : oG p e below s Z R Ret T (mkF m q Ls (.int v :: st))) : oG p e below s Z R Ret T (mkF m pc Ls st) := by
  subst hp ; obtain ⟨_, _, _, _, _, Y, _⟩ := X; exact G.step fun t k => XS.iloadN Y.here E.1 rfl (hb E.2.2.2.1 hd) hl k
theorem gIload (E : oE p l e R s m args below meth c Z bytes own nm maxL ret) (X : oX p l e R s m args below meth c Z T V cells slots) {k : Nat} {v : Int32} (hd : decode bytes pc = .ok (.iload k, 2)) (hl : Ls[k]? = some (.val (.int v))) (hp : pc + 2 = q) (G : oG p e below s Z R Ret T (mkF m q Ls (.int v :: st))) : oG p e below s Z R Ret T (mkF m pc Ls st) := by
  subst hp ; obtain ⟨_, _, _, _, _, Y, _⟩ := X; exact G.step fun t k => XS.iload Y.here E.1 rfl (hb E.2.2.2.1 hd) hl k
theorem gLloadN (E : oE p l e R s m args below meth c Z bytes own nm maxL ret) (X : oX p l e R s m args below meth c Z T V cells slots) {k : Fin 4} {v : Int64} (hd : decode bytes pc = .ok (.lload_n k, 1)) (hl : Ls[k.val]? = some (.val (.long v))) (hp : pc + 1 = q) (G : oG p e below s Z R Ret T (mkF m q Ls (.long v :: st))) : oG p e below s Z R Ret T (mkF m pc Ls st) := by
  subst hp ; obtain ⟨_, _, _, _, _, Y, _⟩ := X; exact G.step fun t k => XT.lloadN Y.here E.1 rfl (hb E.2.2.2.1 hd) hl k
theorem gLload (E : oE p l e R s m args below meth c Z bytes own nm maxL ret) (X : oX p l e R s m args below meth c Z T V cells slots) {k : Nat} {v : Int64} (hd : decode bytes pc = .ok (.lload k, 2)) (hl : Ls[k]? = some (.val (.long v))) (hp : pc + 2 = q) (G : oG p e below s Z R Ret T (mkF m q Ls (.long v :: st))) : oG p e below s Z R Ret T (mkF m pc Ls st) := by
  subst hp ; obtain ⟨_, _, _, _, _, Y, _⟩ := X; exact G.step fun t k => XT.lload Y.here E.1 rfl (hb E.2.2.2.1 hd) hl k
theorem gIconst (E : oE p l e R s m args below meth c Z bytes own nm maxL ret) (X : oX p l e R s m args below meth c Z T V cells slots) {i : Int} {v : Int32} (hd : decode bytes pc = .ok (.iconst i, 1)) (hv : Int32.ofInt i = v) (hp : pc + 1 = q) (G : oG p e below s Z R Ret T (mkF m q Ls (.int v :: st))) : oG p e below s Z R Ret T (mkF m pc Ls st) := by
  subst hp ; obtain ⟨_, _, _, _, _, Y, _⟩ := X; exact G.step fun t k => XT.iconstV Y.here E.1 rfl v (hb E.2.2.2.1 hd) hv k
theorem gBipush (E : oE p l e R s m args below meth c Z bytes own nm maxL ret) (X : oX p l e R s m args below meth c Z T V cells slots) {i : Int} {v : Int32} (hd : decode bytes pc = .ok (.bipush i, 2)) (hv : (Int8.ofInt i).toInt32 = v) (hp : pc + 2 = q) (G : oG p e below s Z R Ret T (mkF m q Ls (.int v :: st))) : oG p e below s Z R Ret T (mkF m pc Ls st) := by
  subst hp ; obtain ⟨_, _, _, _, _, Y, _⟩ := X; exact G.step fun t k => XT.bipushV Y.here E.1 rfl v (hb E.2.2.2.1 hd) hv k
theorem gSipush (E : oE p l e R s m args below meth c Z bytes own nm maxL ret) (X : oX p l e R s m args below meth c Z T V cells slots) {i : Int} {v : Int32} (hd : decode bytes pc = .ok (.sipush i, 3)) (hv : (Int16.ofInt i).toInt32 = v) (hp : pc + 3 = q) (G : oG p e below s Z R Ret T (mkF m q Ls (.int v :: st))) : oG p e below s Z R Ret T (mkF m pc Ls st) := by
  subst hp ; obtain ⟨_, _, _, _, _, Y, _⟩ := X; exact G.step fun t k => XT.sipushV Y.here E.1 rfl v (hb E.2.2.2.1 hd) hv k
theorem gLconst (E : oE p l e R s m args below meth c Z bytes own nm maxL ret) (X : oX p l e R s m args below meth c Z T V cells slots) {i : Fin 2} {v : Int64} (hd : decode bytes pc = .ok (.lconst i, 1)) (hv : Int64.ofNat i = v) (hp : pc + 1 = q) (G : oG p e below s Z R Ret T (mkF m q Ls (.long v :: st))) : oG p e below s Z R Ret T (mkF m pc Ls st) := by
  subst hp ; obtain ⟨_, _, _, _, _, Y, _⟩ := X; exact G.step fun t k => XT.lconstV Y.here E.1 rfl v (hb E.2.2.2.1 hd) hv k
theorem gNull (E : oE p l e R s m args below meth c Z bytes own nm maxL ret) (X : oX p l e R s m args below meth c Z T V cells slots)  (hd : decode bytes pc = .ok (.aconst_null, 1))  (hp : pc + 1 = q) (G : oG p e below s Z R Ret T (mkF m q Ls (.null :: st))) : oG p e below s Z R Ret T (mkF m pc Ls st) := by
  subst hp ; obtain ⟨_, _, _, _, _, Y, _⟩ := X; exact G.step fun t k => XS.aconstNull Y.here E.1 rfl (hb E.2.2.2.1 hd) k
theorem gIadd (E : oE p l e R s m args below meth c Z bytes own nm maxL ret) (X : oX p l e R s m args below meth c Z T V cells slots) {x y z : Int32} (hd : decode bytes pc = .ok (.iadd, 1)) (hz : (x + y) = z) (hp : pc + 1 = q) (G : oG p e below s Z R Ret T (mkF m q Ls (.int z :: st))) : oG p e below s Z R Ret T (mkF m pc Ls (.int y :: .int x :: st)) := by
  subst hp hz; obtain ⟨_, _, _, _, _, Y, _⟩ := X; exact G.step fun t k => XS.iadd Y.here E.1 rfl (hb E.2.2.2.1 hd) rfl k
theorem gIsub (E : oE p l e R s m args below meth c Z bytes own nm maxL ret) (X : oX p l e R s m args below meth c Z T V cells slots) {x y z : Int32} (hd : decode bytes pc = .ok (.isub, 1)) (hz : (x - y) = z) (hp : pc + 1 = q) (G : oG p e below s Z R Ret T (mkF m q Ls (.int z :: st))) : oG p e below s Z R Ret T (mkF m pc Ls (.int y :: .int x :: st)) := by
  subst hp hz; obtain ⟨_, _, _, _, _, Y, _⟩ := X; exact G.step fun t k => XS.isub Y.here E.1 rfl (hb E.2.2.2.1 hd) rfl k
theorem gIand (E : oE p l e R s m args below meth c Z bytes own nm maxL ret) (X : oX p l e R s m args below meth c Z T V cells slots) {x y z : Int32} (hd : decode bytes pc = .ok (.iand, 1)) (hz : (x &&& y) = z) (hp : pc + 1 = q) (G : oG p e below s Z R Ret T (mkF m q Ls (.int z :: st))) : oG p e below s Z R Ret T (mkF m pc Ls (.int y :: .int x :: st)) := by
  subst hp hz; obtain ⟨_, _, _, _, _, Y, _⟩ := X; exact G.step fun t k => XS.iand Y.here E.1 rfl (hb E.2.2.2.1 hd) rfl k
theorem gImul (E : oE p l e R s m args below meth c Z bytes own nm maxL ret) (X : oX p l e R s m args below meth c Z T V cells slots) {x y z : Int32} (hd : decode bytes pc = .ok (.imul, 1)) (hz : (x * y) = z) (hp : pc + 1 = q) (G : oG p e below s Z R Ret T (mkF m q Ls (.int z :: st))) : oG p e below s Z R Ret T (mkF m pc Ls (.int y :: .int x :: st)) := by
  subst hp hz; obtain ⟨_, _, _, _, _, Y, _⟩ := X; exact G.step fun t k => XS.imul Y.here E.1 rfl (hb E.2.2.2.1 hd) rfl k
theorem gIxor (E : oE p l e R s m args below meth c Z bytes own nm maxL ret) (X : oX p l e R s m args below meth c Z T V cells slots) {x y z : Int32} (hd : decode bytes pc = .ok (.ixor, 1)) (hz : (x ^^^ y) = z) (hp : pc + 1 = q) (G : oG p e below s Z R Ret T (mkF m q Ls (.int z :: st))) : oG p e below s Z R Ret T (mkF m pc Ls (.int y :: .int x :: st)) := by
  subst hp hz; obtain ⟨_, _, _, _, _, Y, _⟩ := X; exact G.step fun t k => XT.ixor Y.here E.1 rfl (hb E.2.2.2.1 hd) rfl k
theorem gIor (E : oE p l e R s m args below meth c Z bytes own nm maxL ret) (X : oX p l e R s m args below meth c Z T V cells slots) {x y z : Int32} (hd : decode bytes pc = .ok (.ior, 1)) (hz : (x ||| y) = z) (hp : pc + 1 = q) (G : oG p e below s Z R Ret T (mkF m q Ls (.int z :: st))) : oG p e below s Z R Ret T (mkF m pc Ls (.int y :: .int x :: st)) := by
  subst hp hz; obtain ⟨_, _, _, _, _, Y, _⟩ := X; exact G.step fun t k => XT.ior Y.here E.1 rfl (hb E.2.2.2.1 hd) rfl k
theorem gIshl (E : oE p l e R s m args below meth c Z bytes own nm maxL ret) (X : oX p l e R s m args below meth c Z T V cells slots) {x y z : Int32} (hd : decode bytes pc = .ok (.ishl, 1)) (hz : (x <<< (y &&& 31)) = z) (hp : pc + 1 = q) (G : oG p e below s Z R Ret T (mkF m q Ls (.int z :: st))) : oG p e below s Z R Ret T (mkF m pc Ls (.int y :: .int x :: st)) := by
  subst hp hz; obtain ⟨_, _, _, _, _, Y, _⟩ := X; exact G.step fun t k => XT.ishl Y.here E.1 rfl (hb E.2.2.2.1 hd) rfl k
theorem gIshr (E : oE p l e R s m args below meth c Z bytes own nm maxL ret) (X : oX p l e R s m args below meth c Z T V cells slots) {x y z : Int32} (hd : decode bytes pc = .ok (.ishr, 1)) (hz : (x >>> (y &&& 31)) = z) (hp : pc + 1 = q) (G : oG p e below s Z R Ret T (mkF m q Ls (.int z :: st))) : oG p e below s Z R Ret T (mkF m pc Ls (.int y :: .int x :: st)) := by
  subst hp hz; obtain ⟨_, _, _, _, _, Y, _⟩ := X; exact G.step fun t k => XT.ishr Y.here E.1 rfl (hb E.2.2.2.1 hd) rfl k
theorem gIushr (E : oE p l e R s m args below meth c Z bytes own nm maxL ret) (X : oX p l e R s m args below meth c Z T V cells slots) {x y z : Int32} (hd : decode bytes pc = .ok (.iushr, 1)) (hz : (XT.ushr x y) = z) (hp : pc + 1 = q) (G : oG p e below s Z R Ret T (mkF m q Ls (.int z :: st))) : oG p e below s Z R Ret T (mkF m pc Ls (.int y :: .int x :: st)) := by
  subst hp hz; obtain ⟨_, _, _, _, _, Y, _⟩ := X; exact G.step fun t k => XT.iushr Y.here E.1 rfl (hb E.2.2.2.1 hd) rfl k
theorem gIdiv (E : oE p l e R s m args below meth c Z bytes own nm maxL ret) (X : oX p l e R s m args below meth c Z T V cells slots) {x y z : Int32} (hd : decode bytes pc = .ok (.idiv, 1)) (hy : y ≠ 0) (hz : (x / y) = z) (hp : pc + 1 = q) (G : oG p e below s Z R Ret T (mkF m q Ls (.int z :: st))) : oG p e below s Z R Ret T (mkF m pc Ls (.int y :: .int x :: st)) := by
  subst hp hz; obtain ⟨_, _, _, _, _, Y, _⟩ := X; exact G.step fun t k => XS.idiv Y.here E.1 rfl (hb E.2.2.2.1 hd) rfl hy k
theorem gIrem (E : oE p l e R s m args below meth c Z bytes own nm maxL ret) (X : oX p l e R s m args below meth c Z T V cells slots) {x y z : Int32} (hd : decode bytes pc = .ok (.irem, 1)) (hy : y ≠ 0) (hz : (x - x / y * y) = z) (hp : pc + 1 = q) (G : oG p e below s Z R Ret T (mkF m q Ls (.int z :: st))) : oG p e below s Z R Ret T (mkF m pc Ls (.int y :: .int x :: st)) := by
  subst hp hz; obtain ⟨_, _, _, _, _, Y, _⟩ := X; exact G.step fun t k => XS.irem Y.here E.1 rfl (hb E.2.2.2.1 hd) rfl hy k
theorem gIneg (E : oE p l e R s m args below meth c Z bytes own nm maxL ret) (X : oX p l e R s m args below meth c Z T V cells slots) {x z : Int32} (hd : decode bytes pc = .ok (.ineg, 1)) (hz : (-x) = z) (hp : pc + 1 = q) (G : oG p e below s Z R Ret T (mkF m q Ls (.int z :: st))) : oG p e below s Z R Ret T (mkF m pc Ls (.int x :: st)) := by
  subst hp hz; obtain ⟨_, _, _, _, _, Y, _⟩ := X; exact G.step fun t k => XS.ineg Y.here E.1 rfl (hb E.2.2.2.1 hd) rfl k
theorem gLadd (E : oE p l e R s m args below meth c Z bytes own nm maxL ret) (X : oX p l e R s m args below meth c Z T V cells slots) {x y z : Int64} (hd : decode bytes pc = .ok (.ladd, 1)) (hz : (x + y) = z) (hp : pc + 1 = q) (G : oG p e below s Z R Ret T (mkF m q Ls (.long z :: st))) : oG p e below s Z R Ret T (mkF m pc Ls (.long y :: .long x :: st)) := by
  subst hp hz; obtain ⟨_, _, _, _, _, Y, _⟩ := X; exact G.step fun t k => XT.ladd Y.here E.1 rfl (hb E.2.2.2.1 hd) rfl k
theorem gLsub (E : oE p l e R s m args below meth c Z bytes own nm maxL ret) (X : oX p l e R s m args below meth c Z T V cells slots) {x y z : Int64} (hd : decode bytes pc = .ok (.lsub, 1)) (hz : (x - y) = z) (hp : pc + 1 = q) (G : oG p e below s Z R Ret T (mkF m q Ls (.long z :: st))) : oG p e below s Z R Ret T (mkF m pc Ls (.long y :: .long x :: st)) := by
  subst hp hz; obtain ⟨_, _, _, _, _, Y, _⟩ := X; exact G.step fun t k => XT.lsub Y.here E.1 rfl (hb E.2.2.2.1 hd) rfl k
theorem gLmul (E : oE p l e R s m args below meth c Z bytes own nm maxL ret) (X : oX p l e R s m args below meth c Z T V cells slots) {x y z : Int64} (hd : decode bytes pc = .ok (.lmul, 1)) (hz : (x * y) = z) (hp : pc + 1 = q) (G : oG p e below s Z R Ret T (mkF m q Ls (.long z :: st))) : oG p e below s Z R Ret T (mkF m pc Ls (.long y :: .long x :: st)) := by
  subst hp hz; obtain ⟨_, _, _, _, _, Y, _⟩ := X; exact G.step fun t k => XT.lmul Y.here E.1 rfl (hb E.2.2.2.1 hd) rfl k
theorem gLand (E : oE p l e R s m args below meth c Z bytes own nm maxL ret) (X : oX p l e R s m args below meth c Z T V cells slots) {x y z : Int64} (hd : decode bytes pc = .ok (.land, 1)) (hz : (x &&& y) = z) (hp : pc + 1 = q) (G : oG p e below s Z R Ret T (mkF m q Ls (.long z :: st))) : oG p e below s Z R Ret T (mkF m pc Ls (.long y :: .long x :: st)) := by
  subst hp hz; obtain ⟨_, _, _, _, _, Y, _⟩ := X; exact G.step fun t k => XT.land Y.here E.1 rfl (hb E.2.2.2.1 hd) rfl k
theorem gLor (E : oE p l e R s m args below meth c Z bytes own nm maxL ret) (X : oX p l e R s m args below meth c Z T V cells slots) {x y z : Int64} (hd : decode bytes pc = .ok (.lor, 1)) (hz : (x ||| y) = z) (hp : pc + 1 = q) (G : oG p e below s Z R Ret T (mkF m q Ls (.long z :: st))) : oG p e below s Z R Ret T (mkF m pc Ls (.long y :: .long x :: st)) := by
  subst hp hz; obtain ⟨_, _, _, _, _, Y, _⟩ := X; exact G.step fun t k => XT.lor Y.here E.1 rfl (hb E.2.2.2.1 hd) rfl k
theorem gLxor (E : oE p l e R s m args below meth c Z bytes own nm maxL ret) (X : oX p l e R s m args below meth c Z T V cells slots) {x y z : Int64} (hd : decode bytes pc = .ok (.lxor, 1)) (hz : (x ^^^ y) = z) (hp : pc + 1 = q) (G : oG p e below s Z R Ret T (mkF m q Ls (.long z :: st))) : oG p e below s Z R Ret T (mkF m pc Ls (.long y :: .long x :: st)) := by
  subst hp hz; obtain ⟨_, _, _, _, _, Y, _⟩ := X; exact G.step fun t k => XT.lxor Y.here E.1 rfl (hb E.2.2.2.1 hd) rfl k
theorem gLdiv (E : oE p l e R s m args below meth c Z bytes own nm maxL ret) (X : oX p l e R s m args below meth c Z T V cells slots) {x y z : Int64} (hd : decode bytes pc = .ok (.ldiv, 1)) (hy : y ≠ 0) (hz : (x / y) = z) (hp : pc + 1 = q) (G : oG p e below s Z R Ret T (mkF m q Ls (.long z :: st))) : oG p e below s Z R Ret T (mkF m pc Ls (.long y :: .long x :: st)) := by
  subst hp hz; obtain ⟨_, _, _, _, _, Y, _⟩ := X; exact G.step fun t k => XT.ldiv Y.here E.1 rfl (hb E.2.2.2.1 hd) rfl hy k
theorem gLrem (E : oE p l e R s m args below meth c Z bytes own nm maxL ret) (X : oX p l e R s m args below meth c Z T V cells slots) {x y z : Int64} (hd : decode bytes pc = .ok (.lrem, 1)) (hy : y ≠ 0) (hz : (x - x / y * y) = z) (hp : pc + 1 = q) (G : oG p e below s Z R Ret T (mkF m q Ls (.long z :: st))) : oG p e below s Z R Ret T (mkF m pc Ls (.long y :: .long x :: st)) := by
  subst hp hz; obtain ⟨_, _, _, _, _, Y, _⟩ := X; exact G.step fun t k => XT.lrem Y.here E.1 rfl (hb E.2.2.2.1 hd) rfl hy k
theorem gLneg (E : oE p l e R s m args below meth c Z bytes own nm maxL ret) (X : oX p l e R s m args below meth c Z T V cells slots) {x z : Int64} (hd : decode bytes pc = .ok (.lneg, 1)) (hz : (-x) = z) (hp : pc + 1 = q) (G : oG p e below s Z R Ret T (mkF m q Ls (.long z :: st))) : oG p e below s Z R Ret T (mkF m pc Ls (.long x :: st)) := by
  subst hp hz; obtain ⟨_, _, _, _, _, Y, _⟩ := X; exact G.step fun t k => XT.lneg Y.here E.1 rfl (hb E.2.2.2.1 hd) rfl k
theorem gLshl (E : oE p l e R s m args below meth c Z bytes own nm maxL ret) (X : oX p l e R s m args below meth c Z T V cells slots) {x z : Int64} {y : Int32} (hd : decode bytes pc = .ok (.lshl, 1)) (hz : (x <<< (y.toInt64 &&& 63)) = z) (hp : pc + 1 = q) (G : oG p e below s Z R Ret T (mkF m q Ls (.long z :: st))) : oG p e below s Z R Ret T (mkF m pc Ls (.int y :: .long x :: st)) := by
  subst hp hz; obtain ⟨_, _, _, _, _, Y, _⟩ := X; exact G.step fun t k => XT.lshl Y.here E.1 rfl (hb E.2.2.2.1 hd) rfl k
theorem gLshr (E : oE p l e R s m args below meth c Z bytes own nm maxL ret) (X : oX p l e R s m args below meth c Z T V cells slots) {x z : Int64} {y : Int32} (hd : decode bytes pc = .ok (.lshr, 1)) (hz : (x >>> (y.toInt64 &&& 63)) = z) (hp : pc + 1 = q) (G : oG p e below s Z R Ret T (mkF m q Ls (.long z :: st))) : oG p e below s Z R Ret T (mkF m pc Ls (.int y :: .long x :: st)) := by
  subst hp hz; obtain ⟨_, _, _, _, _, Y, _⟩ := X; exact G.step fun t k => XT.lshr Y.here E.1 rfl (hb E.2.2.2.1 hd) rfl k
theorem gLushr (E : oE p l e R s m args below meth c Z bytes own nm maxL ret) (X : oX p l e R s m args below meth c Z T V cells slots) {x z : Int64} {y : Int32} (hd : decode bytes pc = .ok (.lushr, 1)) (hz : (XT.ushrL x y) = z) (hp : pc + 1 = q) (G : oG p e below s Z R Ret T (mkF m q Ls (.long z :: st))) : oG p e below s Z R Ret T (mkF m pc Ls (.int y :: .long x :: st)) := by
  subst hp hz; obtain ⟨_, _, _, _, _, Y, _⟩ := X; exact G.step fun t k => XT.lushr Y.here E.1 rfl (hb E.2.2.2.1 hd) rfl k
theorem gLcmp (E : oE p l e R s m args below meth c Z bytes own nm maxL ret) (X : oX p l e R s m args below meth c Z T V cells slots) {x y : Int64} (hd : decode bytes pc = .ok (.lcmp, 1))  (hp : pc + 1 = q) (G : oG p e below s Z R Ret T (mkF m q Ls (.int (XT.cmpL x y) :: st))) : oG p e below s Z R Ret T (mkF m pc Ls (.long y :: .long x :: st)) := by
  subst hp ; obtain ⟨_, _, _, _, _, Y, _⟩ := X; exact G.step fun t k => XT.lcmp Y.here E.1 rfl (hb E.2.2.2.1 hd) rfl k
theorem gI2l (E : oE p l e R s m args below meth c Z bytes own nm maxL ret) (X : oX p l e R s m args below meth c Z T V cells slots) {x : Int32} {z : Int64} (hd : decode bytes pc = .ok (.i2l, 1)) (hz : x.toInt64 = z) (hp : pc + 1 = q) (G : oG p e below s Z R Ret T (mkF m q Ls (.long z :: st))) : oG p e below s Z R Ret T (mkF m pc Ls (.int x :: st)) := by
  subst hp hz; obtain ⟨_, _, _, _, _, Y, _⟩ := X; exact G.step fun t k => XT.i2l Y.here E.1 rfl (hb E.2.2.2.1 hd) rfl k
theorem gL2i (E : oE p l e R s m args below meth c Z bytes own nm maxL ret) (X : oX p l e R s m args below meth c Z T V cells slots) {x : Int64} {z : Int32} (hd : decode bytes pc = .ok (.l2i, 1)) (hz : x.toInt32 = z) (hp : pc + 1 = q) (G : oG p e below s Z R Ret T (mkF m q Ls (.int z :: st))) : oG p e below s Z R Ret T (mkF m pc Ls (.long x :: st)) := by
  subst hp hz; obtain ⟨_, _, _, _, _, Y, _⟩ := X; exact G.step fun t k => XT.l2i Y.here E.1 rfl (hb E.2.2.2.1 hd) rfl k
theorem gI2b (E : oE p l e R s m args below meth c Z bytes own nm maxL ret) (X : oX p l e R s m args below meth c Z T V cells slots) {x z : Int32} (hd : decode bytes pc = .ok (.i2b, 1)) (hz : x.toInt8.toInt32 = z) (hp : pc + 1 = q) (G : oG p e below s Z R Ret T (mkF m q Ls (.int z :: st))) : oG p e below s Z R Ret T (mkF m pc Ls (.int x :: st)) := by
  subst hp hz; obtain ⟨_, _, _, _, _, Y, _⟩ := X; exact G.step fun t k => XT.i2b Y.here E.1 rfl (hb E.2.2.2.1 hd) rfl k
theorem gI2c (E : oE p l e R s m args below meth c Z bytes own nm maxL ret) (X : oX p l e R s m args below meth c Z T V cells slots) {x z : Int32} (hd : decode bytes pc = .ok (.i2c, 1)) (hz : x.toUInt32.toUInt16.toUInt32.toInt32 = z) (hp : pc + 1 = q) (G : oG p e below s Z R Ret T (mkF m q Ls (.int z :: st))) : oG p e below s Z R Ret T (mkF m pc Ls (.int x :: st)) := by
  subst hp hz; obtain ⟨_, _, _, _, _, Y, _⟩ := X; exact G.step fun t k => XT.i2c Y.here E.1 rfl (hb E.2.2.2.1 hd) rfl k
theorem gI2s (E : oE p l e R s m args below meth c Z bytes own nm maxL ret) (X : oX p l e R s m args below meth c Z T V cells slots) {x z : Int32} (hd : decode bytes pc = .ok (.i2s, 1)) (hz : x.toInt16.toInt32 = z) (hp : pc + 1 = q) (G : oG p e below s Z R Ret T (mkF m q Ls (.int z :: st))) : oG p e below s Z R Ret T (mkF m pc Ls (.int x :: st)) := by
  subst hp hz; obtain ⟨_, _, _, _, _, Y, _⟩ := X; exact G.step fun t k => XT.i2s Y.here E.1 rfl (hb E.2.2.2.1 hd) rfl k
theorem gDup (E : oE p l e R s m args below meth c Z bytes own nm maxL ret) (X : oX p l e R s m args below meth c Z T V cells slots) {v : Value} (hd : decode bytes pc = .ok (.dup, 1)) (hc : v.category = 1) (hp : pc + 1 = q) (G : oG p e below s Z R Ret T (mkF m q Ls (v :: v :: st))) : oG p e below s Z R Ret T (mkF m pc Ls (v :: st)) := by
  subst hp ; obtain ⟨_, _, _, _, _, Y, _⟩ := X; exact G.step fun t k => XS.dup Y.here E.1 rfl (hb E.2.2.2.1 hd) rfl hc k
theorem gPop (E : oE p l e R s m args below meth c Z bytes own nm maxL ret) (X : oX p l e R s m args below meth c Z T V cells slots) {v : Value} (hd : decode bytes pc = .ok (.pop, 1)) (hc : v.category = 1) (hp : pc + 1 = q) (G : oG p e below s Z R Ret T (mkF m q Ls st)) : oG p e below s Z R Ret T (mkF m pc Ls (v :: st)) := by
  subst hp ; obtain ⟨_, _, _, _, _, Y, _⟩ := X; exact G.step fun t k => XT.pop Y.here E.1 rfl (hb E.2.2.2.1 hd) rfl hc k
theorem gDupX1 (E : oE p l e R s m args below meth c Z bytes own nm maxL ret) (X : oX p l e R s m args below meth c Z T V cells slots) {v w : Value} (hd : decode bytes pc = .ok (.dup_x1, 1)) (hc : v.category = 1) (hc' : w.category = 1) (hp : pc + 1 = q) (G : oG p e below s Z R Ret T (mkF m q Ls (v :: w :: v :: st))) : oG p e below s Z R Ret T (mkF m pc Ls (v :: w :: st)) := by
  subst hp ; obtain ⟨_, _, _, _, _, Y, _⟩ := X; exact G.step fun t k => XT.dupX1 Y.here E.1 rfl (hb E.2.2.2.1 hd) rfl hc hc' k
theorem gDup2 (E : oE p l e R s m args below meth c Z bytes own nm maxL ret) (X : oX p l e R s m args below meth c Z T V cells slots) {v w : Value} (hd : decode bytes pc = .ok (.dup2, 1)) (hc : v.category = 1) (hc' : w.category = 1) (hp : pc + 1 = q) (G : oG p e below s Z R Ret T (mkF m q Ls (v :: w :: v :: w :: st))) : oG p e below s Z R Ret T (mkF m pc Ls (v :: w :: st)) := by
  subst hp ; obtain ⟨_, _, _, _, _, Y, _⟩ := X; exact G.step fun t k => XT.dup2 Y.here E.1 rfl (hb E.2.2.2.1 hd) rfl hc hc' k
theorem gDup2L (E : oE p l e R s m args below meth c Z bytes own nm maxL ret) (X : oX p l e R s m args below meth c Z T V cells slots) {x : Int64} (hd : decode bytes pc = .ok (.dup2, 1))  (hp : pc + 1 = q) (G : oG p e below s Z R Ret T (mkF m q Ls (.long x :: .long x :: st))) : oG p e below s Z R Ret T (mkF m pc Ls (.long x :: st)) := by
  subst hp ; obtain ⟨_, _, _, _, _, Y, _⟩ := X; exact G.step fun t k => XT.dup2L Y.here E.1 rfl (hb E.2.2.2.1 hd) rfl k
theorem gIstoreN (E : oE p l e R s m args below meth c Z bytes own nm maxL ret) (X : oX p l e R s m args below meth c Z T V cells slots) {k : Fin 4} {x : Int32} {l' : Array Slot} (hd : decode bytes pc = .ok (.istore_n k, 1)) (hl : storeLocals Ls k.val (.int x) = some l') (hp : pc + 1 = q) (G : oG p e below s Z R Ret T (mkF m q l' st)) : oG p e below s Z R Ret T (mkF m pc Ls (.int x :: st)) := by
  subst hp ; obtain ⟨_, _, _, _, _, Y, _⟩ := X; exact G.step fun t k => XS.istoreN Y.here E.1 rfl (hb E.2.2.2.1 hd) rfl hl k
theorem gIstore (E : oE p l e R s m args below meth c Z bytes own nm maxL ret) (X : oX p l e R s m args below meth c Z T V cells slots) {k : Nat} {x : Int32} {l' : Array Slot} (hd : decode bytes pc = .ok (.istore k, 2)) (hl : storeLocals Ls k (.int x) = some l') (hp : pc + 2 = q) (G : oG p e below s Z R Ret T (mkF m q l' st)) : oG p e below s Z R Ret T (mkF m pc Ls (.int x :: st)) := by
  subst hp ; obtain ⟨_, _, _, _, _, Y, _⟩ := X; exact G.step fun t k => XS.istore Y.here E.1 rfl (hb E.2.2.2.1 hd) rfl hl k
theorem gLstoreN (E : oE p l e R s m args below meth c Z bytes own nm maxL ret) (X : oX p l e R s m args below meth c Z T V cells slots) {k : Fin 4} {x : Int64} {l' : Array Slot} (hd : decode bytes pc = .ok (.lstore_n k, 1)) (hl : storeLocals Ls k.val (.long x) = some l') (hp : pc + 1 = q) (G : oG p e below s Z R Ret T (mkF m q l' st)) : oG p e below s Z R Ret T (mkF m pc Ls (.long x :: st)) := by
  subst hp ; obtain ⟨_, _, _, _, _, Y, _⟩ := X; exact G.step fun t k => XT.lstoreN Y.here E.1 rfl (hb E.2.2.2.1 hd) rfl hl k
theorem gLstore (E : oE p l e R s m args below meth c Z bytes own nm maxL ret) (X : oX p l e R s m args below meth c Z T V cells slots) {k : Nat} {x : Int64} {l' : Array Slot} (hd : decode bytes pc = .ok (.lstore k, 2)) (hl : storeLocals Ls k (.long x) = some l') (hp : pc + 2 = q) (G : oG p e below s Z R Ret T (mkF m q l' st)) : oG p e below s Z R Ret T (mkF m pc Ls (.long x :: st)) := by
  subst hp ; obtain ⟨_, _, _, _, _, Y, _⟩ := X; exact G.step fun t k => XT.lstore Y.here E.1 rfl (hb E.2.2.2.1 hd) rfl hl k
theorem gAstoreN (E : oE p l e R s m args below meth c Z bytes own nm maxL ret) (X : oX p l e R s m args below meth c Z T V cells slots) {k : Fin 4} {v : Value} {l' : Array Slot} (hd : decode bytes pc = .ok (.astore_n k, 1)) (hv : v.isRef = true) (hl : storeLocals Ls k.val v = some l') (hp : pc + 1 = q) (G : oG p e below s Z R Ret T (mkF m q l' st)) : oG p e below s Z R Ret T (mkF m pc Ls (v :: st)) := by
  subst hp ; obtain ⟨_, _, _, _, _, Y, _⟩ := X; exact G.step fun t k => XS.astoreN Y.here E.1 rfl (hb E.2.2.2.1 hd) rfl hv hl k
theorem gAstore (E : oE p l e R s m args below meth c Z bytes own nm maxL ret) (X : oX p l e R s m args below meth c Z T V cells slots) {k : Nat} {v : Value} {l' : Array Slot} (hd : decode bytes pc = .ok (.astore k, 2)) (hv : v.isRef = true) (hl : storeLocals Ls k v = some l') (hp : pc + 2 = q) (G : oG p e below s Z R Ret T (mkF m q l' st)) : oG p e below s Z R Ret T (mkF m pc Ls (v :: st)) := by
  subst hp ; obtain ⟨_, _, _, _, _, Y, _⟩ := X; exact G.step fun t k => XS.astore Y.here E.1 rfl (hb E.2.2.2.1 hd) rfl hv hl k
theorem gIinc (E : oE p l e R s m args below meth c Z bytes own nm maxL ret) (X : oX p l e R s m args below meth c Z T V cells slots) {k : Nat} {cst : Int} {x : Int32} {l' : Array Slot} (v : Int32) (hd : decode bytes pc = .ok (.iinc k cst, 3)) (hv : Int32.ofInt cst = v) (hl : Ls[k]? = some (.val (.int x))) (hl' : storeLocals Ls k (.int (x + v)) = some l') (hp : pc + 3 = q) (G : oG p e below s Z R Ret T (mkF m q l' st)) : oG p e below s Z R Ret T (mkF m pc Ls st) := by
  subst hp ; obtain ⟨_, _, _, _, _, Y, _⟩ := X; exact G.step fun t k => XT.iincV Y.here E.1 rfl v (hb E.2.2.2.1 hd) hv hl hl' k
theorem gIincV (E : oE p l e R s m args below meth c Z bytes own nm maxL ret) (X : oX p l e R s m args below meth c Z T V cells slots) {k : Nat} {cst : Int} {x : Int32} {l' : Array Slot} (v z : Int32) (hd : decode bytes pc = .ok (.iinc k cst, 3)) (hv : Int32.ofInt cst = v) (hl : Ls[k]? = some (.val (.int x))) (hz : x + v = z) (hl' : storeLocals Ls k (.int z) = some l') (hp : pc + 3 = q) (G : oG p e below s Z R Ret T (mkF m q l' st)) : oG p e below s Z R Ret T (mkF m pc Ls st) := by
  subst hp hz; obtain ⟨_, _, _, _, _, Y, _⟩ := X; exact G.step fun t k => XT.iincV Y.here E.1 rfl v (hb E.2.2.2.1 hd) hv hl hl' k
theorem gGoto (E : oE p l e R s m args below meth c Z bytes own nm maxL ret) (X : oX p l e R s m args below meth c Z T V cells slots) {o : Int} (hd : decode bytes pc = .ok (.goto o, 3)) (ho : 0 ≤ (pc : Int) + o) (hp : ((pc : Int) + o).toNat = q) (G : oG p e below s Z R Ret T (mkF m q Ls st)) : oG p e below s Z R Ret T (mkF m pc Ls st) := by
  obtain ⟨_, _, _, _, _, Y, _⟩ := X; exact G.step fun t k => XS.goto Y.here E.1 rfl (pc0 := pc) rfl (hb E.2.2.2.1 hd) ho hp k
theorem gIc_eq (E : oE p l e R s m args below meth c Z bytes own nm maxL ret) (X : oX p l e R s m args below meth c Z T V cells slots) {x y : Int32} {o : Int} {q' : Nat} (hd : decode bytes pc = .ok (.if_icmp .eq o, 3)) (ho : 0 ≤ (pc : Int) + o) (hp : ((pc : Int) + o).toNat = q) (hp' : pc + 3 = q') (G1 : x = y → oG p e below s Z R Ret T (mkF m q Ls st)) (G0 : ¬ (x = y) → oG p e below s Z R Ret T (mkF m q' Ls st)) : oG p e below s Z R Ret T (mkF m pc Ls (.int y :: .int x :: st)) := by
  obtain ⟨_, _, _, _, _, Y, _⟩ := X
  by_cases hq : x = y
  · exact (G1 hq).step fun t k => XS.icmpYes Y.here E.1 rfl (pc0 := pc) rfl (hb E.2.2.2.1 hd) rfl (XT.ii_eq_t hq) ho hp k
  · subst hp'; exact (G0 hq).step fun t k => XS.icmpNo Y.here E.1 rfl (hb E.2.2.2.1 hd) rfl (XT.ii_eq_f hq) k
theorem gIf_eq (E : oE p l e R s m args below meth c Z bytes own nm maxL ret) (X : oX p l e R s m args below meth c Z T V cells slots) {x : Int32} {o : Int} {q' : Nat} (hd : decode bytes pc = .ok (.ifCond .eq o, 3)) (ho : 0 ≤ (pc : Int) + o) (hp : ((pc : Int) + o).toNat = q) (hp' : pc + 3 = q') (G1 : x = 0 → oG p e below s Z R Ret T (mkF m q Ls st)) (G0 : ¬ (x = 0) → oG p e below s Z R Ret T (mkF m q' Ls st)) : oG p e below s Z R Ret T (mkF m pc Ls (.int x :: st)) := by
  obtain ⟨_, _, _, _, _, Y, _⟩ := X
  by_cases hq : x = 0
  · exact (G1 hq).step fun t k => XS.ifYes Y.here E.1 rfl (pc0 := pc) rfl (hb E.2.2.2.1 hd) rfl (XT.i0_eq_t hq) ho hp k
  · subst hp'; exact (G0 hq).step fun t k => XS.ifNo Y.here E.1 rfl (hb E.2.2.2.1 hd) rfl (XT.i0_eq_f hq) k
theorem gLc_eq (E : oE p l e R s m args below meth c Z bytes own nm maxL ret) (X : oX p l e R s m args below meth c Z T V cells slots) {x y : Int64} {o : Int} {q' : Nat} (hd : decode bytes pc = .ok (.ifCond .eq o, 3)) (ho : 0 ≤ (pc : Int) + o) (hp : ((pc : Int) + o).toNat = q) (hp' : pc + 3 = q') (G1 : x = y → oG p e below s Z R Ret T (mkF m q Ls st)) (G0 : ¬ (x = y) → oG p e below s Z R Ret T (mkF m q' Ls st)) : oG p e below s Z R Ret T (mkF m pc Ls (.int (XT.cmpL x y) :: st)) := by
  obtain ⟨_, _, _, _, _, Y, _⟩ := X
  by_cases hq : x = y
  · exact (G1 hq).step fun t k => XS.ifYes Y.here E.1 rfl (pc0 := pc) rfl (hb E.2.2.2.1 hd) rfl (XT.ll_eq_t hq) ho hp k
  · subst hp'; exact (G0 hq).step fun t k => XS.ifNo Y.here E.1 rfl (hb E.2.2.2.1 hd) rfl (XT.ll_eq_f hq) k
theorem gIc_ne (E : oE p l e R s m args below meth c Z bytes own nm maxL ret) (X : oX p l e R s m args below meth c Z T V cells slots) {x y : Int32} {o : Int} {q' : Nat} (hd : decode bytes pc = .ok (.if_icmp .ne o, 3)) (ho : 0 ≤ (pc : Int) + o) (hp : ((pc : Int) + o).toNat = q) (hp' : pc + 3 = q') (G1 : ¬ (x = y) → oG p e below s Z R Ret T (mkF m q Ls st)) (G0 : x = y → oG p e below s Z R Ret T (mkF m q' Ls st)) : oG p e below s Z R Ret T (mkF m pc Ls (.int y :: .int x :: st)) := by
  obtain ⟨_, _, _, _, _, Y, _⟩ := X
  by_cases hq : x = y
  · subst hp'; exact (G0 hq).step fun t k => XS.icmpNo Y.here E.1 rfl (hb E.2.2.2.1 hd) rfl (XT.ii_ne_f hq) k
  · exact (G1 hq).step fun t k => XS.icmpYes Y.here E.1 rfl (pc0 := pc) rfl (hb E.2.2.2.1 hd) rfl (XT.ii_ne_t hq) ho hp k
theorem gIf_ne (E : oE p l e R s m args below meth c Z bytes own nm maxL ret) (X : oX p l e R s m args below meth c Z T V cells slots) {x : Int32} {o : Int} {q' : Nat} (hd : decode bytes pc = .ok (.ifCond .ne o, 3)) (ho : 0 ≤ (pc : Int) + o) (hp : ((pc : Int) + o).toNat = q) (hp' : pc + 3 = q') (G1 : ¬ (x = 0) → oG p e below s Z R Ret T (mkF m q Ls st)) (G0 : x = 0 → oG p e below s Z R Ret T (mkF m q' Ls st)) : oG p e below s Z R Ret T (mkF m pc Ls (.int x :: st)) := by
  obtain ⟨_, _, _, _, _, Y, _⟩ := X
  by_cases hq : x = 0
  · subst hp'; exact (G0 hq).step fun t k => XS.ifNo Y.here E.1 rfl (hb E.2.2.2.1 hd) rfl (XT.i0_ne_f hq) k
  · exact (G1 hq).step fun t k => XS.ifYes Y.here E.1 rfl (pc0 := pc) rfl (hb E.2.2.2.1 hd) rfl (XT.i0_ne_t hq) ho hp k
theorem gLc_ne (E : oE p l e R s m args below meth c Z bytes own nm maxL ret) (X : oX p l e R s m args below meth c Z T V cells slots) {x y : Int64} {o : Int} {q' : Nat} (hd : decode bytes pc = .ok (.ifCond .ne o, 3)) (ho : 0 ≤ (pc : Int) + o) (hp : ((pc : Int) + o).toNat = q) (hp' : pc + 3 = q') (G1 : ¬ (x = y) → oG p e below s Z R Ret T (mkF m q Ls st)) (G0 : x = y → oG p e below s Z R Ret T (mkF m q' Ls st)) : oG p e below s Z R Ret T (mkF m pc Ls (.int (XT.cmpL x y) :: st)) := by
  obtain ⟨_, _, _, _, _, Y, _⟩ := X
  by_cases hq : x = y
  · subst hp'; exact (G0 hq).step fun t k => XS.ifNo Y.here E.1 rfl (hb E.2.2.2.1 hd) rfl (XT.ll_ne_f hq) k
  · exact (G1 hq).step fun t k => XS.ifYes Y.here E.1 rfl (pc0 := pc) rfl (hb E.2.2.2.1 hd) rfl (XT.ll_ne_t hq) ho hp k
theorem gIc_lt (E : oE p l e R s m args below meth c Z bytes own nm maxL ret) (X : oX p l e R s m args below meth c Z T V cells slots) {x y : Int32} {o : Int} {q' : Nat} (hd : decode bytes pc = .ok (.if_icmp .lt o, 3)) (ho : 0 ≤ (pc : Int) + o) (hp : ((pc : Int) + o).toNat = q) (hp' : pc + 3 = q') (G1 : x < y → oG p e below s Z R Ret T (mkF m q Ls st)) (G0 : ¬ (x < y) → oG p e below s Z R Ret T (mkF m q' Ls st)) : oG p e below s Z R Ret T (mkF m pc Ls (.int y :: .int x :: st)) := by
  obtain ⟨_, _, _, _, _, Y, _⟩ := X
  by_cases hq : x < y
  · exact (G1 hq).step fun t k => XS.icmpYes Y.here E.1 rfl (pc0 := pc) rfl (hb E.2.2.2.1 hd) rfl (XT.ii_lt_t hq) ho hp k
  · subst hp'; exact (G0 hq).step fun t k => XS.icmpNo Y.here E.1 rfl (hb E.2.2.2.1 hd) rfl (XT.ii_lt_f hq) k
theorem gIf_lt (E : oE p l e R s m args below meth c Z bytes own nm maxL ret) (X : oX p l e R s m args below meth c Z T V cells slots) {x : Int32} {o : Int} {q' : Nat} (hd : decode bytes pc = .ok (.ifCond .lt o, 3)) (ho : 0 ≤ (pc : Int) + o) (hp : ((pc : Int) + o).toNat = q) (hp' : pc + 3 = q') (G1 : x < 0 → oG p e below s Z R Ret T (mkF m q Ls st)) (G0 : ¬ (x < 0) → oG p e below s Z R Ret T (mkF m q' Ls st)) : oG p e below s Z R Ret T (mkF m pc Ls (.int x :: st)) := by
  obtain ⟨_, _, _, _, _, Y, _⟩ := X
  by_cases hq : x < 0
  · exact (G1 hq).step fun t k => XS.ifYes Y.here E.1 rfl (pc0 := pc) rfl (hb E.2.2.2.1 hd) rfl (XT.i0_lt_t hq) ho hp k
  · subst hp'; exact (G0 hq).step fun t k => XS.ifNo Y.here E.1 rfl (hb E.2.2.2.1 hd) rfl (XT.i0_lt_f hq) k
theorem gLc_lt (E : oE p l e R s m args below meth c Z bytes own nm maxL ret) (X : oX p l e R s m args below meth c Z T V cells slots) {x y : Int64} {o : Int} {q' : Nat} (hd : decode bytes pc = .ok (.ifCond .lt o, 3)) (ho : 0 ≤ (pc : Int) + o) (hp : ((pc : Int) + o).toNat = q) (hp' : pc + 3 = q') (G1 : x < y → oG p e below s Z R Ret T (mkF m q Ls st)) (G0 : ¬ (x < y) → oG p e below s Z R Ret T (mkF m q' Ls st)) : oG p e below s Z R Ret T (mkF m pc Ls (.int (XT.cmpL x y) :: st)) := by
  obtain ⟨_, _, _, _, _, Y, _⟩ := X
  by_cases hq : x < y
  · exact (G1 hq).step fun t k => XS.ifYes Y.here E.1 rfl (pc0 := pc) rfl (hb E.2.2.2.1 hd) rfl (XT.ll_lt_t hq) ho hp k
  · subst hp'; exact (G0 hq).step fun t k => XS.ifNo Y.here E.1 rfl (hb E.2.2.2.1 hd) rfl (XT.ll_lt_f hq) k
theorem gIc_ge (E : oE p l e R s m args below meth c Z bytes own nm maxL ret) (X : oX p l e R s m args below meth c Z T V cells slots) {x y : Int32} {o : Int} {q' : Nat} (hd : decode bytes pc = .ok (.if_icmp .ge o, 3)) (ho : 0 ≤ (pc : Int) + o) (hp : ((pc : Int) + o).toNat = q) (hp' : pc + 3 = q') (G1 : ¬ (x < y) → oG p e below s Z R Ret T (mkF m q Ls st)) (G0 : x < y → oG p e below s Z R Ret T (mkF m q' Ls st)) : oG p e below s Z R Ret T (mkF m pc Ls (.int y :: .int x :: st)) := by
  obtain ⟨_, _, _, _, _, Y, _⟩ := X
  by_cases hq : x < y
  · subst hp'; exact (G0 hq).step fun t k => XS.icmpNo Y.here E.1 rfl (hb E.2.2.2.1 hd) rfl (XT.ii_ge_f hq) k
  · exact (G1 hq).step fun t k => XS.icmpYes Y.here E.1 rfl (pc0 := pc) rfl (hb E.2.2.2.1 hd) rfl (XT.ii_ge_t hq) ho hp k
theorem gIf_ge (E : oE p l e R s m args below meth c Z bytes own nm maxL ret) (X : oX p l e R s m args below meth c Z T V cells slots) {x : Int32} {o : Int} {q' : Nat} (hd : decode bytes pc = .ok (.ifCond .ge o, 3)) (ho : 0 ≤ (pc : Int) + o) (hp : ((pc : Int) + o).toNat = q) (hp' : pc + 3 = q') (G1 : ¬ (x < 0) → oG p e below s Z R Ret T (mkF m q Ls st)) (G0 : x < 0 → oG p e below s Z R Ret T (mkF m q' Ls st)) : oG p e below s Z R Ret T (mkF m pc Ls (.int x :: st)) := by
  obtain ⟨_, _, _, _, _, Y, _⟩ := X
  by_cases hq : x < 0
  · subst hp'; exact (G0 hq).step fun t k => XS.ifNo Y.here E.1 rfl (hb E.2.2.2.1 hd) rfl (XT.i0_ge_f hq) k
  · exact (G1 hq).step fun t k => XS.ifYes Y.here E.1 rfl (pc0 := pc) rfl (hb E.2.2.2.1 hd) rfl (XT.i0_ge_t hq) ho hp k
theorem gLc_ge (E : oE p l e R s m args below meth c Z bytes own nm maxL ret) (X : oX p l e R s m args below meth c Z T V cells slots) {x y : Int64} {o : Int} {q' : Nat} (hd : decode bytes pc = .ok (.ifCond .ge o, 3)) (ho : 0 ≤ (pc : Int) + o) (hp : ((pc : Int) + o).toNat = q) (hp' : pc + 3 = q') (G1 : ¬ (x < y) → oG p e below s Z R Ret T (mkF m q Ls st)) (G0 : x < y → oG p e below s Z R Ret T (mkF m q' Ls st)) : oG p e below s Z R Ret T (mkF m pc Ls (.int (XT.cmpL x y) :: st)) := by
  obtain ⟨_, _, _, _, _, Y, _⟩ := X
  by_cases hq : x < y
  · subst hp'; exact (G0 hq).step fun t k => XS.ifNo Y.here E.1 rfl (hb E.2.2.2.1 hd) rfl (XT.ll_ge_f hq) k
  · exact (G1 hq).step fun t k => XS.ifYes Y.here E.1 rfl (pc0 := pc) rfl (hb E.2.2.2.1 hd) rfl (XT.ll_ge_t hq) ho hp k
theorem gIc_gt (E : oE p l e R s m args below meth c Z bytes own nm maxL ret) (X : oX p l e R s m args below meth c Z T V cells slots) {x y : Int32} {o : Int} {q' : Nat} (hd : decode bytes pc = .ok (.if_icmp .gt o, 3)) (ho : 0 ≤ (pc : Int) + o) (hp : ((pc : Int) + o).toNat = q) (hp' : pc + 3 = q') (G1 : y < x → oG p e below s Z R Ret T (mkF m q Ls st)) (G0 : ¬ (y < x) → oG p e below s Z R Ret T (mkF m q' Ls st)) : oG p e below s Z R Ret T (mkF m pc Ls (.int y :: .int x :: st)) := by
  obtain ⟨_, _, _, _, _, Y, _⟩ := X
  by_cases hq : y < x
  · exact (G1 hq).step fun t k => XS.icmpYes Y.here E.1 rfl (pc0 := pc) rfl (hb E.2.2.2.1 hd) rfl (XT.ii_gt_t hq) ho hp k
  · subst hp'; exact (G0 hq).step fun t k => XS.icmpNo Y.here E.1 rfl (hb E.2.2.2.1 hd) rfl (XT.ii_gt_f hq) k
theorem gIf_gt (E : oE p l e R s m args below meth c Z bytes own nm maxL ret) (X : oX p l e R s m args below meth c Z T V cells slots) {x : Int32} {o : Int} {q' : Nat} (hd : decode bytes pc = .ok (.ifCond .gt o, 3)) (ho : 0 ≤ (pc : Int) + o) (hp : ((pc : Int) + o).toNat = q) (hp' : pc + 3 = q') (G1 : 0 < x → oG p e below s Z R Ret T (mkF m q Ls st)) (G0 : ¬ (0 < x) → oG p e below s Z R Ret T (mkF m q' Ls st)) : oG p e below s Z R Ret T (mkF m pc Ls (.int x :: st)) := by
  obtain ⟨_, _, _, _, _, Y, _⟩ := X
  by_cases hq : 0 < x
  · exact (G1 hq).step fun t k => XS.ifYes Y.here E.1 rfl (pc0 := pc) rfl (hb E.2.2.2.1 hd) rfl (XT.i0_gt_t hq) ho hp k
  · subst hp'; exact (G0 hq).step fun t k => XS.ifNo Y.here E.1 rfl (hb E.2.2.2.1 hd) rfl (XT.i0_gt_f hq) k
theorem gLc_gt (E : oE p l e R s m args below meth c Z bytes own nm maxL ret) (X : oX p l e R s m args below meth c Z T V cells slots) {x y : Int64} {o : Int} {q' : Nat} (hd : decode bytes pc = .ok (.ifCond .gt o, 3)) (ho : 0 ≤ (pc : Int) + o) (hp : ((pc : Int) + o).toNat = q) (hp' : pc + 3 = q') (G1 : y < x → oG p e below s Z R Ret T (mkF m q Ls st)) (G0 : ¬ (y < x) → oG p e below s Z R Ret T (mkF m q' Ls st)) : oG p e below s Z R Ret T (mkF m pc Ls (.int (XT.cmpL x y) :: st)) := by
  obtain ⟨_, _, _, _, _, Y, _⟩ := X
  by_cases hq : y < x
  · exact (G1 hq).step fun t k => XS.ifYes Y.here E.1 rfl (pc0 := pc) rfl (hb E.2.2.2.1 hd) rfl (XT.ll_gt_t hq) ho hp k
  · subst hp'; exact (G0 hq).step fun t k => XS.ifNo Y.here E.1 rfl (hb E.2.2.2.1 hd) rfl (XT.ll_gt_f hq) k
theorem gIc_le (E : oE p l e R s m args below meth c Z bytes own nm maxL ret) (X : oX p l e R s m args below meth c Z T V cells slots) {x y : Int32} {o : Int} {q' : Nat} (hd : decode bytes pc = .ok (.if_icmp .le o, 3)) (ho : 0 ≤ (pc : Int) + o) (hp : ((pc : Int) + o).toNat = q) (hp' : pc + 3 = q') (G1 : ¬ (y < x) → oG p e below s Z R Ret T (mkF m q Ls st)) (G0 : y < x → oG p e below s Z R Ret T (mkF m q' Ls st)) : oG p e below s Z R Ret T (mkF m pc Ls (.int y :: .int x :: st)) := by
  obtain ⟨_, _, _, _, _, Y, _⟩ := X
  by_cases hq : y < x
  · subst hp'; exact (G0 hq).step fun t k => XS.icmpNo Y.here E.1 rfl (hb E.2.2.2.1 hd) rfl (XT.ii_le_f hq) k
  · exact (G1 hq).step fun t k => XS.icmpYes Y.here E.1 rfl (pc0 := pc) rfl (hb E.2.2.2.1 hd) rfl (XT.ii_le_t hq) ho hp k
theorem gIf_le (E : oE p l e R s m args below meth c Z bytes own nm maxL ret) (X : oX p l e R s m args below meth c Z T V cells slots) {x : Int32} {o : Int} {q' : Nat} (hd : decode bytes pc = .ok (.ifCond .le o, 3)) (ho : 0 ≤ (pc : Int) + o) (hp : ((pc : Int) + o).toNat = q) (hp' : pc + 3 = q') (G1 : ¬ (0 < x) → oG p e below s Z R Ret T (mkF m q Ls st)) (G0 : 0 < x → oG p e below s Z R Ret T (mkF m q' Ls st)) : oG p e below s Z R Ret T (mkF m pc Ls (.int x :: st)) := by
  obtain ⟨_, _, _, _, _, Y, _⟩ := X
  by_cases hq : 0 < x
  · subst hp'; exact (G0 hq).step fun t k => XS.ifNo Y.here E.1 rfl (hb E.2.2.2.1 hd) rfl (XT.i0_le_f hq) k
  · exact (G1 hq).step fun t k => XS.ifYes Y.here E.1 rfl (pc0 := pc) rfl (hb E.2.2.2.1 hd) rfl (XT.i0_le_t hq) ho hp k
theorem gLc_le (E : oE p l e R s m args below meth c Z bytes own nm maxL ret) (X : oX p l e R s m args below meth c Z T V cells slots) {x y : Int64} {o : Int} {q' : Nat} (hd : decode bytes pc = .ok (.ifCond .le o, 3)) (ho : 0 ≤ (pc : Int) + o) (hp : ((pc : Int) + o).toNat = q) (hp' : pc + 3 = q') (G1 : ¬ (y < x) → oG p e below s Z R Ret T (mkF m q Ls st)) (G0 : y < x → oG p e below s Z R Ret T (mkF m q' Ls st)) : oG p e below s Z R Ret T (mkF m pc Ls (.int (XT.cmpL x y) :: st)) := by
  obtain ⟨_, _, _, _, _, Y, _⟩ := X
  by_cases hq : y < x
  · subst hp'; exact (G0 hq).step fun t k => XS.ifNo Y.here E.1 rfl (hb E.2.2.2.1 hd) rfl (XT.ll_le_f hq) k
  · exact (G1 hq).step fun t k => XS.ifYes Y.here E.1 rfl (pc0 := pc) rfl (hb E.2.2.2.1 hd) rfl (XT.ll_le_t hq) ho hp k
theorem gAc_eq (E : oE p l e R s m args below meth c Z bytes own nm maxL ret) (X : oX p l e R s m args below meth c Z T V cells slots) {v w : Value} (hv : v.isRef = true) (hw' : w.isRef = true) {o : Int} {q' : Nat} (hd : decode bytes pc = .ok (.if_acmp .eq o, 3)) (ho : 0 ≤ (pc : Int) + o) (hp : ((pc : Int) + o).toNat = q) (hp' : pc + 3 = q') (G1 : v = w → oG p e below s Z R Ret T (mkF m q Ls st)) (G0 : ¬ (v = w) → oG p e below s Z R Ret T (mkF m q' Ls st)) : oG p e below s Z R Ret T (mkF m pc Ls (w :: v :: st)) := by
  obtain ⟨_, _, _, _, _, Y, _⟩ := X
  by_cases hq : v = w
  · exact (G1 hq).step fun t k => XT.acmpYes Y.here E.1 rfl (pc0 := pc) rfl (hb E.2.2.2.1 hd) rfl hv hw' (XT.aa_eq_t hq) ho hp k
  · subst hp'; exact (G0 hq).step fun t k => XT.acmpNo Y.here E.1 rfl (hb E.2.2.2.1 hd) rfl hv hw' (XT.aa_eq_f hq) k
theorem gAc_ne (E : oE p l e R s m args below meth c Z bytes own nm maxL ret) (X : oX p l e R s m args below meth c Z T V cells slots) {v w : Value} (hv : v.isRef = true) (hw' : w.isRef = true) {o : Int} {q' : Nat} (hd : decode bytes pc = .ok (.if_acmp .ne o, 3)) (ho : 0 ≤ (pc : Int) + o) (hp : ((pc : Int) + o).toNat = q) (hp' : pc + 3 = q') (G1 : ¬ (v = w) → oG p e below s Z R Ret T (mkF m q Ls st)) (G0 : v = w → oG p e below s Z R Ret T (mkF m q' Ls st)) : oG p e below s Z R Ret T (mkF m pc Ls (w :: v :: st)) := by
  obtain ⟨_, _, _, _, _, Y, _⟩ := X
  by_cases hq : v = w
  · subst hp'; exact (G0 hq).step fun t k => XT.acmpNo Y.here E.1 rfl (hb E.2.2.2.1 hd) rfl hv hw' (XT.aa_ne_f hq) k
  · exact (G1 hq).step fun t k => XT.acmpYes Y.here E.1 rfl (pc0 := pc) rfl (hb E.2.2.2.1 hd) rfl hv hw' (XT.aa_ne_t hq) ho hp k
theorem gNull_y (E : oE p l e R s m args below meth c Z bytes own nm maxL ret) (X : oX p l e R s m args below meth c Z T V cells slots) {v : Value} (hv : v.isRef = true) {o : Int} {q' : Nat} (hd : decode bytes pc = .ok (.ifnull o, 3)) (ho : 0 ≤ (pc : Int) + o) (hp : ((pc : Int) + o).toNat = q) (hp' : pc + 3 = q') (G1 : v = .null → oG p e below s Z R Ret T (mkF m q Ls st)) (G0 : ¬ (v = .null) → oG p e below s Z R Ret T (mkF m q' Ls st)) : oG p e below s Z R Ret T (mkF m pc Ls (v :: st)) := by
  obtain ⟨_, _, _, _, _, Y, _⟩ := X
  by_cases hq : v = .null
  · exact (G1 hq).step fun t k => XT.nullYes Y.here E.1 rfl (pc0 := pc) rfl (hb E.2.2.2.1 hd) rfl hq ho hp k
  · subst hp'; exact (G0 hq).step fun t k => XT.nullNo Y.here E.1 rfl (hb E.2.2.2.1 hd) rfl hv hq k
theorem gNull_n (E : oE p l e R s m args below meth c Z bytes own nm maxL ret) (X : oX p l e R s m args below meth c Z T V cells slots) {v : Value} (hv : v.isRef = true) {o : Int} {q' : Nat} (hd : decode bytes pc = .ok (.ifnonnull o, 3)) (ho : 0 ≤ (pc : Int) + o) (hp : ((pc : Int) + o).toNat = q) (hp' : pc + 3 = q') (G1 : ¬ (v = .null) → oG p e below s Z R Ret T (mkF m q Ls st)) (G0 : v = .null → oG p e below s Z R Ret T (mkF m q' Ls st)) : oG p e below s Z R Ret T (mkF m pc Ls (v :: st)) := by
  obtain ⟨_, _, _, _, _, Y, _⟩ := X
  by_cases hq : v = .null
  · subst hp'; exact (G0 hq).step fun t k => XT.nonnullNo Y.here E.1 rfl (hb E.2.2.2.1 hd) rfl hq k
  · exact (G1 hq).step fun t k => XT.nonnullYes Y.here E.1 rfl (pc0 := pc) rfl (hb E.2.2.2.1 hd) rfl hv hq ho hp k
theorem gLdcI (E : oE p l e R s m args below meth c Z bytes own nm maxL ret) (X : oX p l e R s m args below meth c Z T V cells slots) {i : Nat} {v : Int32} (hd : decode bytes pc = .ok (.ldc i, 2)) (w : (Jvm.Cond.constant own i v).before a0 Z = true) (hp : pc + 2 = q) (G : oG p e below s Z R Ret T (mkF m q Ls (.int v :: st))) : oG p e below s Z R Ret T (mkF m pc Ls st) := by
  subst hp; obtain ⟨_, _, _, _, _, Y, _⟩ := X; exact G.step fun t k => Y.ldcI E.1 E.2.2.1 (mvT E.2.1 w) rfl (hb E.2.2.2.1 hd) k
theorem gLdcWI (E : oE p l e R s m args below meth c Z bytes own nm maxL ret) (X : oX p l e R s m args below meth c Z T V cells slots) {i : Nat} {v : Int32} (hd : decode bytes pc = .ok (.ldc_w i, 3)) (w : (Jvm.Cond.constant own i v).before a0 Z = true) (hp : pc + 3 = q) (G : oG p e below s Z R Ret T (mkF m q Ls (.int v :: st))) : oG p e below s Z R Ret T (mkF m pc Ls st) := by
  subst hp; obtain ⟨_, _, _, _, _, Y, _⟩ := X; exact G.step fun t k => Y.ldcWI E.1 E.2.2.1 (mvT E.2.1 w) rfl (hb E.2.2.2.1 hd) k
theorem gLdc2J (E : oE p l e R s m args below meth c Z bytes own nm maxL ret) (X : oX p l e R s m args below meth c Z T V cells slots) {i : Nat} {v : Int64} (hd : decode bytes pc = .ok (.ldc2_w i, 3)) (w : (Jvm.Cond.constantLong own i v).before a0 Z = true) (hp : pc + 3 = q) (G : oG p e below s Z R Ret T (mkF m q Ls (.long v :: st))) : oG p e below s Z R Ret T (mkF m pc Ls st) := by
  subst hp; obtain ⟨_, _, _, _, _, Y, _⟩ := X; exact G.step fun t k => Y.ldc2J E.1 E.2.2.1 (mvT E.2.1 w) rfl (hb E.2.2.2.1 hd) k
/-! 5. objects -/
theorem gGetF (E : oE p l e R s m args below meth c Z bytes own nm maxL ret) (X : oX p l e R s m args below meth c Z T V cells slots) {R0 O n d C : String} {index i j : Nat} {a : Addr} {fs : List (String × String × String × Value)} {v : Value} (hd : decode bytes pc = .ok (.getfield index, 3))
    (w : (Jvm.Cond.fieldLink own index R0 n d).before a0 Z = true) (via : Via Z R0 O n d) (hi : V[i]? = some (a, .inl (C, fs))) (hj : fs[j]? = some (O, n, d, v)) (hp : pc + 3 = q)
    (G : ∀ T', oX p l e R s m args below meth c Z T' V cells slots → oG p e below s Z R Ret T' (mkF m q Ls (v :: st))) : oG p e below s Z R Ret T (mkF m pc Ls (.ref a :: st)) := by
  subst hp; obtain ⟨locs, c', s', q1, q2, Y, N, H⟩ := X
  obtain ⟨T', Y', e', k⟩ := getF Y E.1 E.2.1 E.2.2.1 (host := "") (Or.inl w) via rfl ((H.sat hi).2.2 _ (List.mem_of_getElem? hj)) (g := mkF m pc Ls (.ref a :: st)) rfl rfl (hb E.2.2.2.1 hd)
  exact (G T' ⟨locs, c', s', q1, q2, Y', N, e' ▸ H⟩).step k
theorem gGetFN (E : oE p l e R s m args below meth c Z bytes own nm maxL ret) (X : oX p l e R s m args below meth c Z T V cells slots) {R0 O n d C host : String} {index i j : Nat} {a : Addr} {fs : List (String × String × String × Value)} {v : Value} (hd : decode bytes pc = .ok (.getfield index, 3))
    (w : (Jvm.Cond.fieldLinkNest own index R0 n d host).before a0 Z = true) (via : Via Z R0 O n d) (hi : V[i]? = some (a, .inl (C, fs))) (hj : fs[j]? = some (O, n, d, v)) (hp : pc + 3 = q)
    (G : ∀ T', oX p l e R s m args below meth c Z T' V cells slots → oG p e below s Z R Ret T' (mkF m q Ls (v :: st))) : oG p e below s Z R Ret T (mkF m pc Ls (.ref a :: st)) := by
  subst hp; obtain ⟨locs, c', s', q1, q2, Y, N, H⟩ := X
  obtain ⟨T', Y', e', k⟩ := getF Y E.1 E.2.1 E.2.2.1 (host := host) (Or.inr w) via rfl ((H.sat hi).2.2 _ (List.mem_of_getElem? hj)) (g := mkF m pc Ls (.ref a :: st)) rfl rfl (hb E.2.2.2.1 hd)
  exact (G T' ⟨locs, c', s', q1, q2, Y', N, e' ▸ H⟩).step k
/-- a field of an object that stood at the start -/
theorem gGetF0 (E : oE p l e R s m args below meth c Z bytes own nm maxL ret) (X : oX p l e R s m args below meth c Z T V cells slots) {R0 O n d : String} {index : Nat} {a : Addr} {v : Value} (hd : decode bytes pc = .ok (.getfield index, 3))
    (w : (Jvm.Cond.fieldLink own index R0 n d).before a0 Z = true) (via : Via Z R0 O n d) (F : Fld Z Z.heap a O n d v) (hp : pc + 3 = q)
    (G : ∀ T', oX p l e R s m args below meth c Z T' V cells slots → oG p e below s Z R Ret T' (mkF m q Ls (v :: st))) : oG p e below s Z R Ret T (mkF m pc Ls (.ref a :: st)) := by
  subst hp; obtain ⟨locs, c', s', q1, q2, Y, N, H⟩ := X
  obtain ⟨T', Y', e', k⟩ := getF Y E.1 E.2.1 E.2.2.1 (host := "") (Or.inl w) via rfl (F.ext H.1) (g := mkF m pc Ls (.ref a :: st)) rfl rfl (hb E.2.2.2.1 hd)
  exact (G T' ⟨locs, c', s', q1, q2, Y', N, e' ▸ H⟩).step k
theorem gGetS (E : oE p l e R s m args below meth c Z bytes own nm maxL ret) (X : oX p l e R s m args below meth c Z T V cells slots) {R0 O n d : String} {index : Nat} {v : Value} (hd : decode bytes pc = .ok (.getstatic index, 3))
    (w : (Jvm.Cond.fieldLink own index R0 n d).before a0 Z = true) (via : Via Z R0 O n d) (F : Sta Z Z.heap O n d v) (hp : pc + 3 = q)
    (G : ∀ T', oX p l e R s m args below meth c Z T' V cells slots → oG p e below s Z R Ret T' (mkF m q Ls (v :: st))) : oG p e below s Z R Ret T (mkF m pc Ls st) := by
  subst hp; obtain ⟨locs, c', s', q1, q2, Y, N, H⟩ := X
  obtain ⟨T', Y', e', k⟩ := getS Y E.1 E.2.1 E.2.2.1 (host := "") w via rfl (F.ext H.1) (g := mkF m pc Ls st) rfl (hb E.2.2.2.1 hd)
  exact (G T' ⟨locs, c', s', q1, q2, Y', N, e' ▸ H⟩).step k
theorem gPutF (E : oE p l e R s m args below meth c Z bytes own nm maxL ret) (X : oX p l e R s m args below meth c Z T V cells slots) {R0 O n d C : String} {index i j kk : Nat} {a : Addr} {fs : List (String × String × String × Value)} {v old : Value} {ty : FieldType} (hd : decode bytes pc = .ok (.putfield index, 3))
    (w : (Jvm.Cond.fieldLink own index R0 n d).before a0 Z = true) (via : Via Z R0 O n d) (hi : V[i]? = some (a, .inl (C, fs))) (hj : fs[j]? = some (O, n, d, old)) (L : (Jvm.Cond.lays C O n d).before a0 Z = true ∨ ((Jvm.Cond.laysFinal C O n d).before a0 Z = true ∧ own = O ∧ nm = "<init>")) (wi : (Jvm.Cond.instantiable C kk).before a0 Z = true)
    (hty : parseFieldDescriptor d = some ty) (hn : narrow ty v = v) (hf : fits ty v = true) (hV : V.set i (a, .inl (C, fs.set j (O, n, d, v))) = V') (hp : pc + 3 = q)
    (G : ∀ T', oX p l e R s m args below meth c Z T' V' cells slots → oG p e below s Z R Ret T' (mkF m q Ls st)) : oG p e below s Z R Ret T (mkF m pc Ls (v :: .ref a :: st)) := by
  subst hp hV; obtain ⟨locs, c', s', q1, q2, Y, N, H⟩ := X
  have S := H.sat hi
  obtain ⟨T', h', Y', e', W, k⟩ := putF Y E.1 E.2.1 E.2.2.1 (host := "") (Or.inl w) via rfl (S.2.2 _ (List.mem_of_getElem? hj)) S.1 (L.imp id fun z => ⟨z.1, z.2.1, E.2.2.2.2.2.2.1.trans z.2.2⟩) wi hty hn hf (g := mkF m pc Ls (v :: .ref a :: st)) rfl rfl (hb E.2.2.2.1 hd)
  subst e'
  exact (G T' ⟨_, c', s', q1, q2, Y', Fr.snoc Y' N (H.ge hi), H.wr W hi (S.wrF hj W)⟩).step k
theorem gPutFN (E : oE p l e R s m args below meth c Z bytes own nm maxL ret) (X : oX p l e R s m args below meth c Z T V cells slots) {R0 O n d C host : String} {index i j kk : Nat} {a : Addr} {fs : List (String × String × String × Value)} {v old : Value} {ty : FieldType} (hd : decode bytes pc = .ok (.putfield index, 3))
    (w : (Jvm.Cond.fieldLinkNest own index R0 n d host).before a0 Z = true) (via : Via Z R0 O n d) (hi : V[i]? = some (a, .inl (C, fs))) (hj : fs[j]? = some (O, n, d, old)) (L : (Jvm.Cond.lays C O n d).before a0 Z = true ∨ ((Jvm.Cond.laysFinal C O n d).before a0 Z = true ∧ own = O ∧ nm = "<init>")) (wi : (Jvm.Cond.instantiable C kk).before a0 Z = true)
    (hty : parseFieldDescriptor d = some ty) (hn : narrow ty v = v) (hf : fits ty v = true) (hV : V.set i (a, .inl (C, fs.set j (O, n, d, v))) = V') (hp : pc + 3 = q)
    (G : ∀ T', oX p l e R s m args below meth c Z T' V' cells slots → oG p e below s Z R Ret T' (mkF m q Ls st)) : oG p e below s Z R Ret T (mkF m pc Ls (v :: .ref a :: st)) := by
  subst hp hV; obtain ⟨locs, c', s', q1, q2, Y, N, H⟩ := X
  have S := H.sat hi
  obtain ⟨T', h', Y', e', W, k⟩ := putF Y E.1 E.2.1 E.2.2.1 (host := host) (Or.inr w) via rfl (S.2.2 _ (List.mem_of_getElem? hj)) S.1 (L.imp id fun z => ⟨z.1, z.2.1, E.2.2.2.2.2.2.1.trans z.2.2⟩) wi hty hn hf (g := mkF m pc Ls (v :: .ref a :: st)) rfl rfl (hb E.2.2.2.1 hd)
  subst e'
  exact (G T' ⟨_, c', s', q1, q2, Y', Fr.snoc Y' N (H.ge hi), H.wr W hi (S.wrF hj W)⟩).step k
theorem gNew (E : oE p l e R s m args below meth c Z bytes own nm maxL ret) (X : oX p l e R s m args below meth c Z T V cells slots) {C : String} {index n : Nat} {fs : List (String × String × String × Value)} (hd : decode bytes pc = .ok (.new index, 3))
    (w : (Jvm.Cond.classLink own index C).before a0 Z = true) (wi : (Jvm.Cond.instantiable C n).before a0 Z = true) (wz : (Jvm.Cond.initialized C).before a0 Z = true) (hL : oLay Z a0 C fs) (hc : cells + 1 ≤ c2) (hs : slots + n ≤ s2) (hc2 : c2 ≤ R.cells) (hs2 : s2 ≤ R.slots) (hp : pc + 3 = q)
    (G : ∀ T' a, oX p l e R s m args below meth c Z T' (V ++ [(a, .inl (C, fs))]) c2 s2 → oG p e below s Z R Ret T' (mkF m q Ls (.ref a :: st))) : oG p e below s Z R Ret T (mkF m pc Ls st) := by
  subst hp; obtain ⟨locs, c', s', q1, q2, Y, N, H⟩ := X
  obtain ⟨T', h', Y', e', Ex, A, D, -, k⟩ := newO Y E.1 E.2.1 E.2.2.1 w wi wz rfl (g := mkF m pc Ls st) rfl (hb E.2.2.2.1 hd) (by omega) (by omega)
  subst e'
  refine (G T' T.heap.size ⟨_, _, _, by omega, by omega, Y', N, H.new Ex ⟨A, hL.1, fun f hf => ?_⟩⟩).step k
  obtain ⟨L1, ty, t1, t2⟩ := hL.2 f hf
  rw [t2]; exact D L1 t1
theorem gInitO (E : oE p l e R s m args below meth c Z bytes own nm maxL ret) (X : oX p l e R s m args below meth c Z T V cells slots) {index : Nat} {a : Addr} {W : Nat} (hd : decode bytes pc = .ok (.invokespecial index, 3))
    (w1 : (Jvm.Cond.methodLink own index Lib.objectInit).before a0 Z = true) (w2 : (Jvm.Cond.instanceMethod Lib.objectInit).before a0 Z = true) (w3 : (Jvm.Cond.code Lib.objectInit ⟨#[0xb1]⟩ 1 none).before a0 Z = true) (hsz : Ls.size = maxL) (hf : 1 ≤ R.frames) (hW : (st.map fun v => v.category).sum ≤ W) (hl : W + 12 ≤ R.locals) (hp : pc + 3 = q)
    (G : ∀ T', oX p l e R s m args below meth c Z T' V cells slots → oG p e below s Z R Ret T' (mkF m q Ls st)) : oG p e below s Z R Ret T (mkF m pc Ls (.ref a :: st)) := by
  subst hp; obtain ⟨locs, c', s', q1, q2, Y, N, H⟩ := X
  obtain ⟨T', Y', e', k⟩ := initO Y E.1 E.2.1 E.2.2.1 w1 w2 w3 rfl (g := mkF m pc Ls (.ref a :: st)) rfl (by rw [E.2.2.2.2.1]; exact hsz) rfl (hb E.2.2.2.1 hd) hf (W := W) (by show 2 * 0 + _ ≤ _; omega) hl
  exact (G T' ⟨locs, c', s', q1, q2, Y', N, e' ▸ H⟩).step k
theorem gInstY (E : oE p l e R s m args below meth c Z bytes own nm maxL ret) (X : oX p l e R s m args below meth c Z T V cells slots) {K C : String} {index i : Nat} {a : Addr} {fs : List (String × String × String × Value)} (hd : decode bytes pc = .ok (.instanceof index, 3))
    (w : (Jvm.Cond.classLink own index K).before a0 Z = true) (hi : V[i]? = some (a, .inl (C, fs))) (wc : (Jvm.Cond.castable C K).before a0 Z = true) (hp : pc + 3 = q)
    (G : ∀ T', oX p l e R s m args below meth c Z T' V cells slots → oG p e below s Z R Ret T' (mkF m q Ls (.int 1 :: st))) : oG p e below s Z R Ret T (mkF m pc Ls (.ref a :: st)) := by
  subst hp; obtain ⟨locs, c', s', q1, q2, Y, N, H⟩ := X
  obtain ⟨T', Y', e', k⟩ := instY Y E.1 E.2.1 E.2.2.1 w rfl (Ins.of_exa (H.sat hi).1 wc) (g := mkF m pc Ls (.ref a :: st)) rfl rfl (hb E.2.2.2.1 hd)
  exact (G T' ⟨locs, c', s', q1, q2, Y', N, e' ▸ H⟩).step k
theorem gInstNo (E : oE p l e R s m args below meth c Z bytes own nm maxL ret) (X : oX p l e R s m args below meth c Z T V cells slots) {K C : String} {index : Nat} {a : Addr} (hd : decode bytes pc = .ok (.instanceof index, 3))
    (w : (Jvm.Cond.classLink own index K).before a0 Z = true) (hE : ∀ h, oHv Z h V → Exa Z h a C) (F : ∃ c t, Z.vm.findClass C = some c ∧ Z.vm.findClass K = some t ∧ Z.vm.assignable c t = false) (hp : pc + 3 = q)
    (G : ∀ T', oX p l e R s m args below meth c Z T' V cells slots → oG p e below s Z R Ret T' (mkF m q Ls (.int 0 :: st))) : oG p e below s Z R Ret T (mkF m pc Ls (.ref a :: st)) := by
  subst hp; obtain ⟨locs, c', s', q1, q2, Y, N, H⟩ := X
  obtain ⟨T', Y', e', k⟩ := instNo Y E.1 E.2.1 E.2.2.1 w rfl (hE _ H) F (g := mkF m pc Ls (.ref a :: st)) rfl rfl (hb E.2.2.2.1 hd)
  exact (G T' ⟨locs, c', s', q1, q2, Y', N, e' ▸ H⟩).step k
theorem gInstNull (E : oE p l e R s m args below meth c Z bytes own nm maxL ret) (X : oX p l e R s m args below meth c Z T V cells slots) {index : Nat} (hd : decode bytes pc = .ok (.instanceof index, 3)) (hp : pc + 3 = q) (G : oG p e below s Z R Ret T (mkF m q Ls (.int 0 :: st))) : oG p e below s Z R Ret T (mkF m pc Ls (.null :: st)) := by
  subst hp; obtain ⟨_, _, _, _, _, Y, _⟩ := X; exact G.step fun t k => Y.instanceofNull E.1 (g := mkF m pc Ls (.null :: st)) rfl rfl (hb E.2.2.2.1 hd) t k
theorem gCastY (E : oE p l e R s m args below meth c Z bytes own nm maxL ret) (X : oX p l e R s m args below meth c Z T V cells slots) {K C : String} {index i : Nat} {a : Addr} {fs : List (String × String × String × Value)} (hd : decode bytes pc = .ok (.checkcast index, 3))
    (w : (Jvm.Cond.classLink own index K).before a0 Z = true) (hi : V[i]? = some (a, .inl (C, fs))) (wc : (Jvm.Cond.castable C K).before a0 Z = true) (hp : pc + 3 = q)
    (G : ∀ T', oX p l e R s m args below meth c Z T' V cells slots → oG p e below s Z R Ret T' (mkF m q Ls (.ref a :: st))) : oG p e below s Z R Ret T (mkF m pc Ls (.ref a :: st)) := by
  subst hp; obtain ⟨locs, c', s', q1, q2, Y, N, H⟩ := X
  obtain ⟨T', Y', e', k⟩ := castY Y E.1 E.2.1 E.2.2.1 w rfl (Ins.of_exa (H.sat hi).1 wc) (g := mkF m pc Ls (.ref a :: st)) rfl rfl (hb E.2.2.2.1 hd)
  exact (G T' ⟨locs, c', s', q1, q2, Y', N, e' ▸ H⟩).step k
/-! 6. arrays -/
theorem oNat {j : Int32} (hj : ¬ j < 0) {n : Nat} (hn : n < 2 ^ 31) (h : n.toInt32 = j) : j.toNatClampNeg = n := by
  subst h; simp only [Int32.toNatClampNeg, len_toInt hn]; omega
theorem oIn {c : Cell} {vs : List Value} {j : Int32} {v : Value} (h : c.slots.toList = vs) (hj : ¬ j < 0) (hv : vs[j.toNatClampNeg]? = some v) : ¬ (j < 0 ∨ c.slots.size ≤ j.toNatClampNeg) ∧ c.slots[j.toNatClampNeg]? = some v := by
  subst h
  rw [Array.getElem?_toList] at hv
  exact ⟨fun z => z.elim hj fun y => (by rw [Array.getElem?_eq_none y] at hv; cases hv), hv⟩
theorem gNewA (E : oE p l e R s m args below meth c Z bytes own nm maxL ret) (X : oX p l e R s m args below meth c Z T V cells slots) {aty : ArrayType} {n : Int32} {cap : Nat} {vs : List Value} {ty : FieldType} (hty : newarray.typeOf aty = ty) (hd : decode bytes pc = .ok (.newarray aty, 2))
    (w : (Jvm.Cond.arrayClass (newarray.typeOf aty)).before a0 Z = true) (hn : ¬ n < 0) (hcap : n.toNatClampNeg ≤ cap) (hb8 : cap * 8 ≤ 536870912) (hvs : List.replicate n.toNatClampNeg (defaultValue ty) = vs) (hc : cells + 1 ≤ c2) (hs : slots + cap ≤ s2) (hc2 : c2 ≤ R.cells) (hs2 : s2 ≤ R.slots) (hp : pc + 2 = q)
    (G : ∀ T' a, oX p l e R s m args below meth c Z T' (V ++ [(a, .inr (ty, vs))]) c2 s2 → oG p e below s Z R Ret T' (mkF m q Ls (.ref a :: st))) : oG p e below s Z R Ret T (mkF m pc Ls (.int n :: st)) := by
  subst hp hvs hty; obtain ⟨locs, c', s', q1, q2, Y, N, H⟩ := X
  obtain ⟨T', h', cA, Y', e', Ex, A, k⟩ := newP Y E.1 E.2.1 w rfl (g := mkF m pc Ls (.int n :: st)) rfl (hb E.2.2.2.1 hd) rfl hn hcap hb8 (by omega) (by omega)
  subst e'
  refine (G T' T.heap.size ⟨_, _, _, by omega, by omega, Y', N, H.new Ex ⟨_, A, by simp [newA], ?_⟩⟩).step k
  rw [List.length_replicate]; exact (back32 hn).2
theorem gLen (E : oE p l e R s m args below meth c Z bytes own nm maxL ret) (X : oX p l e R s m args below meth c Z T V cells slots) {i : Nat} {a : Addr} {ty : FieldType} {vs : List Value} {z : Int32} (hd : decode bytes pc = .ok (.arraylength, 1))
    (hi : V[i]? = some (a, .inr (ty, vs))) (hz : vs.length.toInt32 = z) (hp : pc + 1 = q) (G : oG p e below s Z R Ret T (mkF m q Ls (.int z :: st))) : oG p e below s Z R Ret T (mkF m pc Ls (.ref a :: st)) := by
  subst hp hz; obtain ⟨locs, c', s', q1, q2, Y, N, H⟩ := X
  obtain ⟨cl, A, r1, r2⟩ := H.sat hi
  simp only at r1
  subst r1
  exact G.step fun t k => Y.arraylength E.1 A.1 (State.isArrayOf_alike E.2.1.alike A.2.1) (g := mkF m pc Ls (.ref a :: st)) rfl rfl (hb E.2.2.2.1 hd) t (by rw [Array.length_toList] at k; exact k)
/-- v's length, whether she stood at the start or was made since -/
def oLn (Z : State) (V : oVw) (a : Addr) (z : Int32) : Prop := (∃ cl ty, Arr Z Z.heap a cl ty ∧ cl.slots.size.toInt32 = z) ∨ ∃ (k : Nat) (ty : FieldType) (vs : List Value), V[k]? = some (a, .inr (ty, vs)) ∧ vs.length.toInt32 = z
theorem oLn.app {a : Addr} {z : Int32} {L : oVw} (h : oLn Z V a z) : oLn Z (V ++ L) a z := h.imp id fun ⟨k, ty, vs, h1, h2⟩ => ⟨k, ty, vs, oAppGet h1, h2⟩
theorem oLn.set {a b : Addr} {z : Int32} {i : Nat} {q q' : String × List (String × String × String × Value)} (h : oLn Z V a z) (hi : V[i]? = some (b, .inl q)) : oLn Z (V.set i (b, .inl q')) a z := h.imp id fun ⟨k, ty, vs, h1, h2⟩ => ⟨k, ty, vs, oSetNe (fun e => by subst e; rw [hi] at h1; cases h1) h1, h2⟩
theorem gLenG (E : oE p l e R s m args below meth c Z bytes own nm maxL ret) (X : oX p l e R s m args below meth c Z T V cells slots) {a : Addr} {z : Int32} (hd : decode bytes pc = .ok (.arraylength, 1))
    (hL : oLn Z V a z) (hp : pc + 1 = q) (G : oG p e below s Z R Ret T (mkF m q Ls (.int z :: st))) : oG p e below s Z R Ret T (mkF m pc Ls (.ref a :: st)) := by
  rcases hL with ⟨cl, ty, A, hz⟩ | ⟨k, ty, vs, h1, h2⟩
  · subst hp hz; obtain ⟨locs, c', s', q1, q2, Y, N, H⟩ := X
    exact G.step fun t k => Y.arraylength E.1 (A.ext H.1).1 (State.isArrayOf_alike E.2.1.alike A.2.1) (g := mkF m pc Ls (.ref a :: st)) rfl rfl (hb E.2.2.2.1 hd) t k
  · exact gLen E X hd h1 h2 hp G
theorem oRepLen {n : Int32} {d : Value} (hn : ¬ n < 0) : (List.replicate n.toNatClampNeg d).length.toInt32 = n := by rw [List.length_replicate]; exact (back32 hn).1
theorem gLen0 (E : oE p l e R s m args below meth c Z bytes own nm maxL ret) (X : oX p l e R s m args below meth c Z T V cells slots) {a : Addr} {ty : FieldType} {cl : Cell} {z : Int32} (hd : decode bytes pc = .ok (.arraylength, 1))
    (A : Arr Z Z.heap a cl ty) (hz : cl.slots.size.toInt32 = z) (hp : pc + 1 = q) (G : oG p e below s Z R Ret T (mkF m q Ls (.int z :: st))) : oG p e below s Z R Ret T (mkF m pc Ls (.ref a :: st)) := by
  subst hp hz; obtain ⟨locs, c', s', q1, q2, Y, N, H⟩ := X
  exact G.step fun t k => Y.arraylength E.1 (A.ext H.1).1 (State.isArrayOf_alike E.2.1.alike A.2.1) (g := mkF m pc Ls (.ref a :: st)) rfl rfl (hb E.2.2.2.1 hd) t k
theorem gBaload (E : oE p l e R s m args below meth c Z bytes own nm maxL ret) (X : oX p l e R s m args below meth c Z T V cells slots) {i : Nat} {a : Addr} {vs : List Value} {j : Int32} {v : Value} (hd : decode bytes pc = .ok (.baload, 1))
    (hi : V[i]? = some (a, .inr (.byte, vs))) (hj : ¬ j < 0) (hv : vs[j.toNatClampNeg]? = some v) (hp : pc + 1 = q) (G : oG p e below s Z R Ret T (mkF m q Ls (v :: st))) : oG p e below s Z R Ret T (mkF m pc Ls (.int j :: .ref a :: st)) := by
  subst hp; obtain ⟨locs, c', s', q1, q2, Y, N, H⟩ := X
  obtain ⟨cl, A, r1, r2⟩ := H.sat hi
  obtain ⟨z1, z2⟩ := oIn r1 hj hv
  exact G.step fun t k => Y.baloadBytes E.1 A.1 (State.isArrayOf_alike E.2.1.alike A.2.1) A.2.2 z1 z2 (g := mkF m pc Ls (.int j :: .ref a :: st)) rfl rfl (hb E.2.2.2.1 hd) t k
theorem gBaload0 (E : oE p l e R s m args below meth c Z bytes own nm maxL ret) (X : oX p l e R s m args below meth c Z T V cells slots) {a : Addr} {cl : Cell} {j : Int32} {v : Value} (hd : decode bytes pc = .ok (.baload, 1))
    (A : Arr Z Z.heap a cl .byte) (hj : ¬ (j < 0 ∨ cl.slots.size ≤ j.toNatClampNeg)) (hv : cl.slots[j.toNatClampNeg]? = some v) (hp : pc + 1 = q) (G : oG p e below s Z R Ret T (mkF m q Ls (v :: st))) : oG p e below s Z R Ret T (mkF m pc Ls (.int j :: .ref a :: st)) := by
  subst hp; obtain ⟨locs, c', s', q1, q2, Y, N, H⟩ := X
  exact G.step fun t k => Y.baloadBytes E.1 (A.ext H.1).1 (State.isArrayOf_alike E.2.1.alike A.2.1) A.2.2 hj hv (g := mkF m pc Ls (.int j :: .ref a :: st)) rfl rfl (hb E.2.2.2.1 hd) t k
theorem gIaload (E : oE p l e R s m args below meth c Z bytes own nm maxL ret) (X : oX p l e R s m args below meth c Z T V cells slots) {i : Nat} {a : Addr} {vs : List Value} {j : Int32} {v : Value} (hd : decode bytes pc = .ok (.iaload, 1))
    (hi : V[i]? = some (a, .inr (.int, vs))) (hj : ¬ j < 0) (hv : vs[j.toNatClampNeg]? = some v) (hp : pc + 1 = q) (G : oG p e below s Z R Ret T (mkF m q Ls (v :: st))) : oG p e below s Z R Ret T (mkF m pc Ls (.int j :: .ref a :: st)) := by
  subst hp; obtain ⟨locs, c', s', q1, q2, Y, N, H⟩ := X
  obtain ⟨cl, A, r1, r2⟩ := H.sat hi
  obtain ⟨z1, z2⟩ := oIn r1 hj hv
  exact G.step fun t k => Y.iaload E.1 A.1 (State.isArrayOf_alike E.2.1.alike A.2.1) A.2.2 z1 z2 (g := mkF m pc Ls (.int j :: .ref a :: st)) rfl rfl (hb E.2.2.2.1 hd) t k
theorem gIaload0 (E : oE p l e R s m args below meth c Z bytes own nm maxL ret) (X : oX p l e R s m args below meth c Z T V cells slots) {a : Addr} {cl : Cell} {j : Int32} {v : Value} (hd : decode bytes pc = .ok (.iaload, 1))
    (A : Arr Z Z.heap a cl .int) (hj : ¬ (j < 0 ∨ cl.slots.size ≤ j.toNatClampNeg)) (hv : cl.slots[j.toNatClampNeg]? = some v) (hp : pc + 1 = q) (G : oG p e below s Z R Ret T (mkF m q Ls (v :: st))) : oG p e below s Z R Ret T (mkF m pc Ls (.int j :: .ref a :: st)) := by
  subst hp; obtain ⟨locs, c', s', q1, q2, Y, N, H⟩ := X
  exact G.step fun t k => Y.iaload E.1 (A.ext H.1).1 (State.isArrayOf_alike E.2.1.alike A.2.1) A.2.2 hj hv (g := mkF m pc Ls (.int j :: .ref a :: st)) rfl rfl (hb E.2.2.2.1 hd) t k
theorem gLaload (E : oE p l e R s m args below meth c Z bytes own nm maxL ret) (X : oX p l e R s m args below meth c Z T V cells slots) {i : Nat} {a : Addr} {vs : List Value} {j : Int32} {v : Value} (hd : decode bytes pc = .ok (.laload, 1))
    (hi : V[i]? = some (a, .inr (.long, vs))) (hj : ¬ j < 0) (hv : vs[j.toNatClampNeg]? = some v) (hp : pc + 1 = q) (G : oG p e below s Z R Ret T (mkF m q Ls (v :: st))) : oG p e below s Z R Ret T (mkF m pc Ls (.int j :: .ref a :: st)) := by
  subst hp; obtain ⟨locs, c', s', q1, q2, Y, N, H⟩ := X
  obtain ⟨cl, A, r1, r2⟩ := H.sat hi
  obtain ⟨z1, z2⟩ := oIn r1 hj hv
  exact G.step fun t k => Y.laload E.1 A.1 (State.isArrayOf_alike E.2.1.alike A.2.1) A.2.2 z1 z2 (g := mkF m pc Ls (.int j :: .ref a :: st)) rfl rfl (hb E.2.2.2.1 hd) t k
theorem gLaload0 (E : oE p l e R s m args below meth c Z bytes own nm maxL ret) (X : oX p l e R s m args below meth c Z T V cells slots) {a : Addr} {cl : Cell} {j : Int32} {v : Value} (hd : decode bytes pc = .ok (.laload, 1))
    (A : Arr Z Z.heap a cl .long) (hj : ¬ (j < 0 ∨ cl.slots.size ≤ j.toNatClampNeg)) (hv : cl.slots[j.toNatClampNeg]? = some v) (hp : pc + 1 = q) (G : oG p e below s Z R Ret T (mkF m q Ls (v :: st))) : oG p e below s Z R Ret T (mkF m pc Ls (.int j :: .ref a :: st)) := by
  subst hp; obtain ⟨locs, c', s', q1, q2, Y, N, H⟩ := X
  exact G.step fun t k => Y.laload E.1 (A.ext H.1).1 (State.isArrayOf_alike E.2.1.alike A.2.1) A.2.2 hj hv (g := mkF m pc Ls (.int j :: .ref a :: st)) rfl rfl (hb E.2.2.2.1 hd) t k
theorem gCaload (E : oE p l e R s m args below meth c Z bytes own nm maxL ret) (X : oX p l e R s m args below meth c Z T V cells slots) {i : Nat} {a : Addr} {vs : List Value} {j : Int32} {v : Value} (hd : decode bytes pc = .ok (.caload, 1))
    (hi : V[i]? = some (a, .inr (.char, vs))) (hj : ¬ j < 0) (hv : vs[j.toNatClampNeg]? = some v) (hp : pc + 1 = q) (G : oG p e below s Z R Ret T (mkF m q Ls (v :: st))) : oG p e below s Z R Ret T (mkF m pc Ls (.int j :: .ref a :: st)) := by
  subst hp; obtain ⟨locs, c', s', q1, q2, Y, N, H⟩ := X
  obtain ⟨cl, A, r1, r2⟩ := H.sat hi
  obtain ⟨z1, z2⟩ := oIn r1 hj hv
  exact G.step fun t k => Y.caload E.1 A.1 (State.isArrayOf_alike E.2.1.alike A.2.1) A.2.2 z1 z2 (g := mkF m pc Ls (.int j :: .ref a :: st)) rfl rfl (hb E.2.2.2.1 hd) t k
theorem gCaload0 (E : oE p l e R s m args below meth c Z bytes own nm maxL ret) (X : oX p l e R s m args below meth c Z T V cells slots) {a : Addr} {cl : Cell} {j : Int32} {v : Value} (hd : decode bytes pc = .ok (.caload, 1))
    (A : Arr Z Z.heap a cl .char) (hj : ¬ (j < 0 ∨ cl.slots.size ≤ j.toNatClampNeg)) (hv : cl.slots[j.toNatClampNeg]? = some v) (hp : pc + 1 = q) (G : oG p e below s Z R Ret T (mkF m q Ls (v :: st))) : oG p e below s Z R Ret T (mkF m pc Ls (.int j :: .ref a :: st)) := by
  subst hp; obtain ⟨locs, c', s', q1, q2, Y, N, H⟩ := X
  exact G.step fun t k => Y.caload E.1 (A.ext H.1).1 (State.isArrayOf_alike E.2.1.alike A.2.1) A.2.2 hj hv (g := mkF m pc Ls (.int j :: .ref a :: st)) rfl rfl (hb E.2.2.2.1 hd) t k
theorem gAaload (E : oE p l e R s m args below meth c Z bytes own nm maxL ret) (X : oX p l e R s m args below meth c Z T V cells slots) {i : Nat} {a : Addr} {ty : FieldType} {vs : List Value} {j : Int32} {v : Value} (hd : decode bytes pc = .ok (.aaload, 1))
    (hi : V[i]? = some (a, .inr (ty, vs))) (ht : ty.isReference = true) (hj : ¬ j < 0) (hv : vs[j.toNatClampNeg]? = some v) (hp : pc + 1 = q) (G : oG p e below s Z R Ret T (mkF m q Ls (v :: st))) : oG p e below s Z R Ret T (mkF m pc Ls (.int j :: .ref a :: st)) := by
  subst hp; obtain ⟨locs, c', s', q1, q2, Y, N, H⟩ := X
  obtain ⟨cl, A, r1, r2⟩ := H.sat hi
  obtain ⟨z1, z2⟩ := oIn r1 hj hv
  exact G.step fun t k => Y.aaload E.1 A.1 (State.isArrayOf_alike E.2.1.alike A.2.1) ht A.2.2 z1 z2 (g := mkF m pc Ls (.int j :: .ref a :: st)) rfl rfl (hb E.2.2.2.1 hd) t k
theorem gAaload0 (E : oE p l e R s m args below meth c Z bytes own nm maxL ret) (X : oX p l e R s m args below meth c Z T V cells slots) {a : Addr} {ty : FieldType} {cl : Cell} {j : Int32} {v : Value} (hd : decode bytes pc = .ok (.aaload, 1))
    (A : Arr Z Z.heap a cl ty) (ht : ty.isReference = true) (hj : ¬ (j < 0 ∨ cl.slots.size ≤ j.toNatClampNeg)) (hv : cl.slots[j.toNatClampNeg]? = some v) (hp : pc + 1 = q) (G : oG p e below s Z R Ret T (mkF m q Ls (v :: st))) : oG p e below s Z R Ret T (mkF m pc Ls (.int j :: .ref a :: st)) := by
  subst hp; obtain ⟨locs, c', s', q1, q2, Y, N, H⟩ := X
  exact G.step fun t k => Y.aaload E.1 (A.ext H.1).1 (State.isArrayOf_alike E.2.1.alike A.2.1) ht A.2.2 hj hv (g := mkF m pc Ls (.int j :: .ref a :: st)) rfl rfl (hb E.2.2.2.1 hd) t k
theorem gBastore (E : oE p l e R s m args below meth c Z bytes own nm maxL ret) (X : oX p l e R s m args below meth c Z T V cells slots) {i jn : Nat} {a : Addr} {vs : List Value} {j : Int32} {x x' : Int32} (hd : decode bytes pc = .ok (.bastore, 1))
    (hi : V[i]? = some (a, .inr (.byte, vs))) (hj : ¬ j < 0) (hjn : j.toNatClampNeg = jn) (hlt : jn < vs.length) (hx' : nar .byte x = x') (hV : V.set i (a, .inr (.byte, vs.set jn (.int x'))) = V') (hp : pc + 1 = q)
    (G : ∀ T', oX p l e R s m args below meth c Z T' V' cells slots → oG p e below s Z R Ret T' (mkF m q Ls st)) : oG p e below s Z R Ret T (mkF m pc Ls (.int x :: .int j :: .ref a :: st)) := by
  subst hp hV hjn hx'; obtain ⟨locs, c', s', q1, q2, Y, N, H⟩ := X
  have S := H.sat hi
  obtain ⟨cl, A, r1, r2⟩ := id S
  have hin : ¬ (j < 0 ∨ cl.slots.size ≤ j.toNatClampNeg) := fun z => z.elim hj fun y => by
    have r1' : cl.slots.toList = vs := r1
    rw [← r1', Array.length_toList] at hlt; omega
  obtain ⟨T', h', Y', e', W, k⟩ := stB Y E.1 E.2.1 rfl A hin (g := mkF m pc Ls (.int x :: .int j :: .ref a :: st)) rfl rfl (hb E.2.2.2.1 hd)
  subst e'
  exact (G T' ⟨_, c', s', q1, q2, Y', Fr.snoc Y' N (H.ge hi), H.wr W hi (S.wrA W)⟩).step k
theorem gIastore (E : oE p l e R s m args below meth c Z bytes own nm maxL ret) (X : oX p l e R s m args below meth c Z T V cells slots) {i jn : Nat} {a : Addr} {vs : List Value} {j : Int32} {x x' : Int32} (hd : decode bytes pc = .ok (.iastore, 1))
    (hi : V[i]? = some (a, .inr (.int, vs))) (hj : ¬ j < 0) (hjn : j.toNatClampNeg = jn) (hlt : jn < vs.length) (hx' : x = x') (hV : V.set i (a, .inr (.int, vs.set jn (.int x'))) = V') (hp : pc + 1 = q)
    (G : ∀ T', oX p l e R s m args below meth c Z T' V' cells slots → oG p e below s Z R Ret T' (mkF m q Ls st)) : oG p e below s Z R Ret T (mkF m pc Ls (.int x :: .int j :: .ref a :: st)) := by
  subst hp hV hjn hx'; obtain ⟨locs, c', s', q1, q2, Y, N, H⟩ := X
  have S := H.sat hi
  obtain ⟨cl, A, r1, r2⟩ := id S
  have hin : ¬ (j < 0 ∨ cl.slots.size ≤ j.toNatClampNeg) := fun z => z.elim hj fun y => by
    have r1' : cl.slots.toList = vs := r1
    rw [← r1', Array.length_toList] at hlt; omega
  obtain ⟨T', h', Y', e', W, k⟩ := stI Y E.1 E.2.1 rfl A hin (g := mkF m pc Ls (.int x :: .int j :: .ref a :: st)) rfl rfl (hb E.2.2.2.1 hd)
  subst e'
  exact (G T' ⟨_, c', s', q1, q2, Y', Fr.snoc Y' N (H.ge hi), H.wr W hi (S.wrA W)⟩).step k
theorem gLastore (E : oE p l e R s m args below meth c Z bytes own nm maxL ret) (X : oX p l e R s m args below meth c Z T V cells slots) {i jn : Nat} {a : Addr} {vs : List Value} {j : Int32} {x x' : Int64} (hd : decode bytes pc = .ok (.lastore, 1))
    (hi : V[i]? = some (a, .inr (.long, vs))) (hj : ¬ j < 0) (hjn : j.toNatClampNeg = jn) (hlt : jn < vs.length) (hx' : x = x') (hV : V.set i (a, .inr (.long, vs.set jn (.long x'))) = V') (hp : pc + 1 = q)
    (G : ∀ T', oX p l e R s m args below meth c Z T' V' cells slots → oG p e below s Z R Ret T' (mkF m q Ls st)) : oG p e below s Z R Ret T (mkF m pc Ls (.long x :: .int j :: .ref a :: st)) := by
  subst hp hV hjn hx'; obtain ⟨locs, c', s', q1, q2, Y, N, H⟩ := X
  have S := H.sat hi
  obtain ⟨cl, A, r1, r2⟩ := id S
  have hin : ¬ (j < 0 ∨ cl.slots.size ≤ j.toNatClampNeg) := fun z => z.elim hj fun y => by
    have r1' : cl.slots.toList = vs := r1
    rw [← r1', Array.length_toList] at hlt; omega
  obtain ⟨T', h', Y', e', W, k⟩ := stJ Y E.1 E.2.1 rfl A hin (g := mkF m pc Ls (.long x :: .int j :: .ref a :: st)) rfl rfl (hb E.2.2.2.1 hd)
  subst e'
  exact (G T' ⟨_, c', s', q1, q2, Y', Fr.snoc Y' N (H.ge hi), H.wr W hi (S.wrA W)⟩).step k
theorem gCastore (E : oE p l e R s m args below meth c Z bytes own nm maxL ret) (X : oX p l e R s m args below meth c Z T V cells slots) {i jn : Nat} {a : Addr} {vs : List Value} {j : Int32} {x x' : Int32} (hd : decode bytes pc = .ok (.castore, 1))
    (hi : V[i]? = some (a, .inr (.char, vs))) (hj : ¬ j < 0) (hjn : j.toNatClampNeg = jn) (hlt : jn < vs.length) (hx' : nar .char x = x') (hV : V.set i (a, .inr (.char, vs.set jn (.int x'))) = V') (hp : pc + 1 = q)
    (G : ∀ T', oX p l e R s m args below meth c Z T' V' cells slots → oG p e below s Z R Ret T' (mkF m q Ls st)) : oG p e below s Z R Ret T (mkF m pc Ls (.int x :: .int j :: .ref a :: st)) := by
  subst hp hV hjn hx'; obtain ⟨locs, c', s', q1, q2, Y, N, H⟩ := X
  have S := H.sat hi
  obtain ⟨cl, A, r1, r2⟩ := id S
  have hin : ¬ (j < 0 ∨ cl.slots.size ≤ j.toNatClampNeg) := fun z => z.elim hj fun y => by
    have r1' : cl.slots.toList = vs := r1
    rw [← r1', Array.length_toList] at hlt; omega
  obtain ⟨T', h', Y', e', W, k⟩ := stC Y E.1 E.2.1 rfl A hin (g := mkF m pc Ls (.int x :: .int j :: .ref a :: st)) rfl rfl (hb E.2.2.2.1 hd)
  subst e'
  exact (G T' ⟨_, c', s', q1, q2, Y', Fr.snoc Y' N (H.ge hi), H.wr W hi (S.wrA W)⟩).step k
/-! 7. calls -/
theorem oBack {y : MethodName} {bs : ByteArray} {mx : Nat} {rt : Option FieldType} {rm : Room} {as' : Array Value} {Ret' : Option Value → oVw → Prop} {W len : Nat} (E : oE p l e R s m args below meth c Z bytes own nm maxL ret) (K : oCon l Z y bs mx rt rm as' V Ret') {h : Heap} (H : oHv Z h V)
    (wc : (Jvm.Cond.code y bs mx rt).before a0 Z = true) (wz : (Jvm.Cond.initialized y.cls).before a0 Z = true) (hf : rm.frames + 1 ≤ R.frames) (hl : W + (mx + 11) + rm.locals ≤ R.locals) :
    Back l R p e below s args y len W (fun A a => a = as' ∧ A.U.heap = h ∧ A.cells + rm.cells ≤ R.cells ∧ A.slots + rm.slots ≤ R.slots) (fun A _ v B => ∃ L, (Fr Z.heap.size L ∧ ∃ V', Ret' v V' ∧ oHv Z B.U.heap V') ∧ B.locs = A.locs ++ L ∧ B.cells = A.cells + rm.cells ∧ B.slots = A.slots + rm.slots) :=
  backOf (W := W) (Q := fun v h L => Fr Z.heap.size L ∧ ∃ V', Ret' v V' ∧ oHv Z h V') (K [] h H) E.2.1 wc wz hf hl
theorem gCallS (E : oE p l e R s m args below meth c Z bytes own nm maxL ret) (X : oX p l e R s m args below meth c Z T V cells slots) {y : MethodName} {index : Nat} {bs : ByteArray} {mx : Nat} {rt : Option FieldType} {rm : Room} {Ret' : Option Value → oVw → Prop} {W : Nat} {ps : List FieldType} {r : Option FieldType} (argsL rest : List Value) (hd : decode bytes pc = .ok (.invokestatic index, 3))
    (w1 : (Jvm.Cond.methodLink own index y).before a0 Z = true) (w2 : (Jvm.Cond.static y).before a0 Z = true) (w3 : (Jvm.Cond.initialized y.cls).before a0 Z = true) (w4 : (Jvm.Cond.code y bs mx rt).before a0 Z = true) (hy : y.cls ≠ "java/lang/invoke/MethodHandle" ∧ y.cls ≠ "java/lang/invoke/VarHandle")
    (K : oCon l Z y bs mx rt rm argsL.toArray V Ret') (hds : parseMethodDescriptor y.desc = some ⟨ps, r⟩) (hlen : argsL.length = ps.length) (hst : st = argsL.reverse ++ rest) (hsz : Ls.size = maxL) (hf : rm.frames + 1 ≤ R.frames) (hW : (rest.map fun v => v.category).sum ≤ W) (hl : W + (mx + 11) + rm.locals ≤ R.locals)
    (hc : cells + rm.cells ≤ c2) (hs : slots + rm.slots ≤ s2) (hc2 : c2 ≤ R.cells) (hs2 : s2 ≤ R.slots) (hp : pc + 3 = q)
    (G : ∀ T' v V', Ret' v V' → oX p l e R s m args below meth c Z T' V' c2 s2 → oG p e below s Z R Ret T' (mkF m q Ls (v.toList ++ rest))) : oG p e below s Z R Ret T (mkF m pc Ls st) := by
  subst hp; obtain ⟨locs, c', s', q1, q2, Y, N, H⟩ := X
  obtain ⟨v, vm₁, ⟨T', L', k', n'⟩, -, Y', ⟨Lc, ⟨hN, V', hR, hV⟩, l', y', z'⟩, k⟩ := Jvm.LawKit.callS Y E.1 (y := y) E.2.2.1 (mvT E.2.1 w1) (mvT E.2.1 w2) (mvT E.2.1 w3) (mvT E.2.1 w4) hy (oBack (W := W) E K H w4 w3 hf hl) (g := mkF m pc Ls st) rfl (by rw [E.2.2.2.2.1]; exact hsz) (argsL := argsL) (rest := rest) (lenOf hds hlen) hst (by show 2 * 0 + _ ≤ _; omega) (hb E.2.2.2.1 hd) (fun _ _ => ⟨rfl, rfl, by dsimp only [Pt.cells]; omega, by dsimp only [Pt.slots]; omega⟩)
  dsimp only [Pt.U, Pt.locs, Pt.cells, Pt.slots] at Y' l' y' z' k hV
  subst l' y' z'
  exact (G T' v V' hR ⟨_, _, _, by omega, by omega, Y', Fr.app N hN, hV⟩).step k
theorem gCallI (E : oE p l e R s m args below meth c Z bytes own nm maxL ret) (X : oX p l e R s m args below meth c Z T V cells slots) {y : MethodName} {index : Nat} {bs : ByteArray} {mx : Nat} {rm : Room} {Ret' : Option Value → oVw → Prop} {W : Nat} {ps : List FieldType} {r : Option FieldType} {a : Addr} (argsL rest : List Value) (hd : decode bytes pc = .ok (.invokespecial index, 3)) (hy1 : y.name = "<init>")
    (w1 : (Jvm.Cond.methodLink own index y).before a0 Z = true) (w2 : (Jvm.Cond.instanceMethod y).before a0 Z = true) (w3 : (Jvm.Cond.initialized y.cls).before a0 Z = true) (w4 : (Jvm.Cond.code y bs mx none).before a0 Z = true) (hy : y.cls ≠ "java/lang/invoke/MethodHandle" ∧ y.cls ≠ "java/lang/invoke/VarHandle")
    (K : oCon l Z y bs mx none rm (.ref a :: argsL).toArray V Ret') (hds : parseMethodDescriptor y.desc = some ⟨ps, r⟩) (hlen : argsL.length = ps.length) (hst : st = argsL.reverse ++ .ref a :: rest) (hsz : Ls.size = maxL) (hf : rm.frames + 1 ≤ R.frames) (hW : (rest.map fun v => v.category).sum ≤ W) (hl : W + (mx + 11) + rm.locals ≤ R.locals)
    (hc : cells + rm.cells ≤ c2) (hs : slots + rm.slots ≤ s2) (hc2 : c2 ≤ R.cells) (hs2 : s2 ≤ R.slots) (hp : pc + 3 = q)
    (G : ∀ T' v V', Ret' v V' → oX p l e R s m args below meth c Z T' V' c2 s2 → oG p e below s Z R Ret T' (mkF m q Ls (v.toList ++ rest))) : oG p e below s Z R Ret T (mkF m pc Ls st) := by
  subst hp; obtain ⟨locs, c', s', q1, q2, Y, N, H⟩ := X
  obtain ⟨v, vm₁, ⟨T', L', k', n'⟩, -, Y', ⟨Lc, ⟨hN, V', hR, hV⟩, l', y', z'⟩, k⟩ := Y.specialBack E.1 (y := y) hy1 E.2.2.1 (mvT E.2.1 w1) (mvT E.2.1 w2) (mvT E.2.1 w4) hy (oBack (W := W) E K H w4 w3 hf hl) (g := mkF m pc Ls st) rfl (by rw [E.2.2.2.2.1]; exact hsz) (Steps.refl _) (a := a) (argsL := argsL) (rest := rest) (lenOf hds hlen) hst (by show 2 * 0 + _ ≤ _; omega) (hb E.2.2.2.1 hd) (fun _ _ => ⟨rfl, rfl, by dsimp only [Pt.cells]; omega, by dsimp only [Pt.slots]; omega⟩)
  dsimp only [Pt.U, Pt.locs, Pt.cells, Pt.slots] at Y' l' y' z' k hV
  subst l' y' z'
  exact (G T' v V' hR ⟨_, _, _, by omega, by omega, Y', Fr.app N hN, hV⟩).steps k
theorem gCallV (E : oE p l e R s m args below meth c Z bytes own nm maxL ret) (X : oX p l e R s m args below meth c Z T V cells slots) {y z : MethodName} {C : String} {index i : Nat} {bs : ByteArray} {mx : Nat} {rt : Option FieldType} {rm : Room} {Ret' : Option Value → oVw → Prop} {W : Nat} {ps : List FieldType} {r : Option FieldType} {a : Addr} {fs : List (String × String × String × Value)} (argsL rest : List Value) (hd : decode bytes pc = .ok (.invokevirtual index, 3)) (hi : V[i]? = some (a, .inl (C, fs)))
    (w1 : (Jvm.Cond.methodLink own index y).before a0 Z = true) (w2 : (Jvm.Cond.declares y).before a0 Z = true) (w5 : (Jvm.Cond.selects C y z).before a0 Z = true) (w6 : (Jvm.Cond.selects y.cls y y).before a0 Z = true) (w7 : (Jvm.Cond.instanceMethod z).before a0 Z = true) (w3 : (Jvm.Cond.initialized z.cls).before a0 Z = true) (w4 : (Jvm.Cond.code z bs mx rt).before a0 Z = true) (hy : y.cls ≠ "java/lang/invoke/MethodHandle" ∧ y.cls ≠ "java/lang/invoke/VarHandle")
    (K : oCon l Z z bs mx rt rm (.ref a :: argsL).toArray V Ret') (hds : parseMethodDescriptor y.desc = some ⟨ps, r⟩) (hlen : argsL.length = ps.length) (hst : st = argsL.reverse ++ .ref a :: rest) (hsz : Ls.size = maxL) (hf : rm.frames + 1 ≤ R.frames) (hW : (rest.map fun v => v.category).sum ≤ W) (hl : W + (mx + 11) + rm.locals ≤ R.locals)
    (hc : cells + rm.cells ≤ c2) (hs : slots + rm.slots ≤ s2) (hc2 : c2 ≤ R.cells) (hs2 : s2 ≤ R.slots) (hp : pc + 3 = q)
    (G : ∀ T' v V', Ret' v V' → oX p l e R s m args below meth c Z T' V' c2 s2 → oG p e below s Z R Ret T' (mkF m q Ls (v.toList ++ rest))) : oG p e below s Z R Ret T (mkF m pc Ls st) := by
  subst hp; obtain ⟨locs, c', s', q1, q2, Y, N, H⟩ := X
  obtain ⟨cq, kq, qa, qb, qc⟩ := isOf E.2.1 (T := T) rfl (H.sat hi).1
  obtain ⟨v, vm₁, ⟨T', L', k', n'⟩, -, Y', ⟨Lc, ⟨hN, V', hR, hV⟩, l', y', z'⟩, k⟩ := Y.virtualBack E.1 (y := y) (z := z) E.2.2.1 (mvT E.2.1 w1) (mvT E.2.1 w2) (notFace_of_selects (args := #[]) (mvT E.2.1 w6)) (mvT E.2.1 w5) (mvT E.2.1 w7) hy (oBack (W := W) E K H w4 w3 hf hl) qa qc (g := mkF m pc Ls st) rfl (by rw [E.2.2.2.2.1]; exact hsz) (Steps.refl _) (argsL := argsL) (rest := rest) (lenOf hds hlen) hst (by show 2 * 0 + _ ≤ _; omega) (hb E.2.2.2.1 hd) (fun _ _ => ⟨rfl, rfl, by dsimp only [Pt.cells]; omega, by dsimp only [Pt.slots]; omega⟩)
  dsimp only [Pt.U, Pt.locs, Pt.cells, Pt.slots] at Y' l' y' z' k hV
  subst l' y' z'
  exact (G T' v V' hR ⟨_, _, _, by omega, by omega, Y', Fr.app N hN, hV⟩).steps k
theorem gCallV0 (E : oE p l e R s m args below meth c Z bytes own nm maxL ret) (X : oX p l e R s m args below meth c Z T V cells slots) {y z : MethodName} {C : String} {index : Nat} {bs : ByteArray} {mx : Nat} {rt : Option FieldType} {rm : Room} {Ret' : Option Value → oVw → Prop} {W : Nat} {ps : List FieldType} {r : Option FieldType} {a : Addr} (argsL rest : List Value) (hd : decode bytes pc = .ok (.invokevirtual index, 3)) (hE : Exa Z Z.heap a C)
    (w1 : (Jvm.Cond.methodLink own index y).before a0 Z = true) (w2 : (Jvm.Cond.declares y).before a0 Z = true) (w5 : (Jvm.Cond.selects C y z).before a0 Z = true) (w6 : (Jvm.Cond.selects y.cls y y).before a0 Z = true) (w7 : (Jvm.Cond.instanceMethod z).before a0 Z = true) (w3 : (Jvm.Cond.initialized z.cls).before a0 Z = true) (w4 : (Jvm.Cond.code z bs mx rt).before a0 Z = true) (hy : y.cls ≠ "java/lang/invoke/MethodHandle" ∧ y.cls ≠ "java/lang/invoke/VarHandle")
    (K : oCon l Z z bs mx rt rm (.ref a :: argsL).toArray V Ret') (hds : parseMethodDescriptor y.desc = some ⟨ps, r⟩) (hlen : argsL.length = ps.length) (hst : st = argsL.reverse ++ .ref a :: rest) (hsz : Ls.size = maxL) (hf : rm.frames + 1 ≤ R.frames) (hW : (rest.map fun v => v.category).sum ≤ W) (hl : W + (mx + 11) + rm.locals ≤ R.locals)
    (hc : cells + rm.cells ≤ c2) (hs : slots + rm.slots ≤ s2) (hc2 : c2 ≤ R.cells) (hs2 : s2 ≤ R.slots) (hp : pc + 3 = q)
    (G : ∀ T' v V', Ret' v V' → oX p l e R s m args below meth c Z T' V' c2 s2 → oG p e below s Z R Ret T' (mkF m q Ls (v.toList ++ rest))) : oG p e below s Z R Ret T (mkF m pc Ls st) := by
  subst hp; obtain ⟨locs, c', s', q1, q2, Y, N, H⟩ := X
  obtain ⟨cq, kq, qa, qb, qc⟩ := isOf E.2.1 (T := T) rfl (hE.ext H.1)
  obtain ⟨v, vm₁, ⟨T', L', k', n'⟩, -, Y', ⟨Lc, ⟨hN, V', hR, hV⟩, l', y', z'⟩, k⟩ := Y.virtualBack E.1 (y := y) (z := z) E.2.2.1 (mvT E.2.1 w1) (mvT E.2.1 w2) (notFace_of_selects (args := #[]) (mvT E.2.1 w6)) (mvT E.2.1 w5) (mvT E.2.1 w7) hy (oBack (W := W) E K H w4 w3 hf hl) qa qc (g := mkF m pc Ls st) rfl (by rw [E.2.2.2.2.1]; exact hsz) (Steps.refl _) (argsL := argsL) (rest := rest) (lenOf hds hlen) hst (by show 2 * 0 + _ ≤ _; omega) (hb E.2.2.2.1 hd) (fun _ _ => ⟨rfl, rfl, by dsimp only [Pt.cells]; omega, by dsimp only [Pt.slots]; omega⟩)
  dsimp only [Pt.U, Pt.locs, Pt.cells, Pt.slots] at Y' l' y' z' k hV
  subst l' y' z'
  exact (G T' v V' hR ⟨_, _, _, by omega, by omega, Y', Fr.app N hN, hV⟩).steps k
end Walk

theorem oRemEq (x y : Int32) : x - x / y * y = x % y := by
  apply Int32.toInt_inj.mp
  rw [Int32.toInt_sub, Int32.toInt_mul, Int32.toInt_div, Int32.toInt_mod, Int.bmod_mul_bmod, Int.sub_bmod_bmod]
  have : x.toInt - x.toInt.tdiv y.toInt * y.toInt = x.toInt.tmod y.toInt := by rw [Int.tmod_def, Int.mul_comm]
  rw [this, ← Int32.toInt_mod]
  have h := rng32 (x % y)
  exact Int.bmod_eq_of_le (by omega) (by omega)
theorem oRemEqL (x y : Int64) : x - x / y * y = x % y := by
  apply Int64.toInt_inj.mp
  rw [Int64.toInt_sub, Int64.toInt_mul, Int64.toInt_div, Int64.toInt_mod, Int.bmod_mul_bmod, Int.sub_bmod_bmod]
  have : x.toInt - x.toInt.tdiv y.toInt * y.toInt = x.toInt.tmod y.toInt := by rw [Int.tmod_def, Int.mul_comm]
  rw [this, ← Int64.toInt_mod]
  have h := rng64 (x % y)
  exact Int.bmod_eq_of_le (by omega) (by omega)
theorem oBm32 {n : Int} (h : -2147483648 ≤ n ∧ n < 2147483648) : n.bmod (2 ^ 32) = n := Int.bmod_eq_of_le (by have := h.1; omega) (by have := h.2; omega)
theorem oBm64 {n : Int} (h : -9223372036854775808 ≤ n ∧ n < 9223372036854775808) : n.bmod (2 ^ 64) = n := Int.bmod_eq_of_le (by have := h.1; omega) (by have := h.2; omega)
theorem oAdd32 {x y : Int32} (h : -2147483648 ≤ (x.toInt + y.toInt) ∧ (x.toInt + y.toInt) < 2147483648) : (x + y).toInt = x.toInt + y.toInt := by rw [Int32.toInt_add, oBm32 h]
theorem oSub32 {x y : Int32} (h : -2147483648 ≤ (x.toInt - y.toInt) ∧ (x.toInt - y.toInt) < 2147483648) : (x - y).toInt = x.toInt - y.toInt := by rw [Int32.toInt_sub, oBm32 h]
theorem oMul32 {x y : Int32} (h : -2147483648 ≤ (x.toInt * y.toInt) ∧ (x.toInt * y.toInt) < 2147483648) : (x * y).toInt = x.toInt * y.toInt := by rw [Int32.toInt_mul, oBm32 h]
theorem oAdd64 {x y : Int64} (h : -9223372036854775808 ≤ (x.toInt + y.toInt) ∧ (x.toInt + y.toInt) < 9223372036854775808) : (x + y).toInt = x.toInt + y.toInt := by rw [Int64.toInt_add, oBm64 h]
theorem oSub64 {x y : Int64} (h : -9223372036854775808 ≤ (x.toInt - y.toInt) ∧ (x.toInt - y.toInt) < 9223372036854775808) : (x - y).toInt = x.toInt - y.toInt := by rw [Int64.toInt_sub, oBm64 h]
theorem oMul64 {x y : Int64} (h : -9223372036854775808 ≤ (x.toInt * y.toInt) ∧ (x.toInt * y.toInt) < 9223372036854775808) : (x * y).toInt = x.toInt * y.toInt := by rw [Int64.toInt_mul, oBm64 h]
theorem oRem32 {x y : Int32} (hx : 0 ≤ x.toInt) : (x % y).toInt = x.toInt % y.toInt := by rw [Int32.toInt_mod, Int.tmod_eq_emod_of_nonneg hx]
theorem oIx (x k : Int32) (hx : 0 ≤ x.toInt) (hk : 0 ≤ k.toInt) (h : x.toInt + k.toInt < 2147483648) : ¬ (x + k) < 0 ∧ (x + k).toNatClampNeg = x.toNatClampNeg + k.toNatClampNeg := by
  have e : (x + k).toInt = x.toInt + k.toInt := XT.add32 ⟨by omega, by omega⟩
  refine ⟨by rw [XT.negI32]; omega, ?_⟩
  simp only [Int32.toNatClampNeg, e]; omega
theorem oSto {l l' : Array Slot} {i : Nat} {v : Value} {o : Slot} (hold : l[i]? = some o) (ho : One o) (hv : v.category = 1) (e : l.setIfInBounds i (.val v) = l') : storeLocals l i v = some l' := by rw [XS.store1 hold ho hv, e]
theorem oEqI {t : Term} {n : Int32} {args : Array Value} {s : State} (h : (Jvm.Cond.eq t (.int n)).value args s none s [] = some true) : t.eval args s none [] s = some (.int n) := by
  simp only [Cond.value, Term.eval] at h
  cases ht : t.eval args s none [] s with
  | none => simp [ht] at h
  | some x => cases x <;> simp [ht] at h ⊢ <;> exact h
theorem oEqR {t u : Term} {b : Addr} {args : Array Value} {s : State} (h : (Jvm.Cond.eq t u).value args s none s [] = some true) (hu : u.eval args s none [] s = some (.ref b)) : t.eval args s none [] s = some (.ref b) := by
  simp only [Cond.value, hu] at h
  cases ht : t.eval args s none [] s with
  | none => simp [ht] at h
  | some x => cases x <;> simp [ht] at h ⊢ <;> exact h
theorem oN0 {x : Int32} (hx : 0 ≤ x.toInt) : ¬ x < 0 := by rw [XT.negI32]; omega
theorem oB8 (x : Int32) : nar .byte x.toInt8.toInt32 = x.toInt8.toInt32 := by simp [nar]
theorem oLt {α : Type} {l : List α} {i : Nat} {x : α} (h : l[i]? = some x) : i < l.length := (List.getElem?_eq_some_iff.mp h).1
theorem oNarR {t : FieldType} {v : Value} (h : v.isRef = true) : narrow t v = v := by cases v <;> simp [Value.isRef] at h <;> cases t <;> rfl
theorem oFitR {t : FieldType} {v : Value} (ht : t.isReference = true) (h : v.isRef = true) : fits t v = true := by cases v <;> simp [Value.isRef] at h <;> cases t <;> first | rfl | cases ht
def own_mx (n m : Int32) : Int32 := if n < m then m else n
def own_max (x y : Int32) : Int32 := if x < y then y else x
theorem own_15 (u : Int32) : 0 ≤ (u &&& (15 : Int32)).toInt ∧ (u &&& (15 : Int32)).toInt ≤ 15 := by
  have h := c_mask u 15 4 (by decide) (by decide)
  omega
theorem own_4 {y : Int32} (h : 0 ≤ y.toInt ∧ y.toInt ≤ 15) : (y * (4 : Int32)).toInt = 4 * y.toInt := by
  have e : (4 : Int32).toInt = 4 := rfl
  rw [oMul32] <;> rw [e] <;> omega
theorem own_neg {y : Int32} (h : 0 ≤ y.toInt ∧ y.toInt ≤ 15) : ¬ (y * (4 : Int32)) < 0 := by rw [XT.negI32, own_4 h]; omega
theorem own_cap {y : Int32} (h : 0 ≤ y.toInt ∧ y.toInt ≤ 15) : (y * (4 : Int32)).toNatClampNeg ≤ 60 := by simp only [Int32.toNatClampNeg, own_4 h]; omega
theorem own_0 {y : Int32} (h : 0 ≤ y.toInt ∧ y.toInt ≤ 15) : own_mx 0 (y * (4 : Int32)) = y * (4 : Int32) := by
  unfold own_mx; split
  · rfl
  · rename_i q
    rw [Int32.lt_iff_toInt_lt, own_4 h] at q
    have e : (0 : Int32).toInt = 0 := rfl
    apply Int32.toInt_inj.mp; rw [own_4 h, e]; omega
theorem own_2 {x y : Int32} (h : 0 ≤ x.toInt ∧ x.toInt ≤ 15) (g : 0 ≤ y.toInt ∧ y.toInt ≤ 15) : own_mx (x * (4 : Int32)) (y * (4 : Int32)) = own_max x y * (4 : Int32) := by
  unfold own_mx own_max
  simp only [Int32.lt_iff_toInt_lt, own_4 h, own_4 g]
  by_cases q : x.toInt < y.toInt
  · rw [if_pos (by omega), if_pos q]
  · rw [if_neg (by omega), if_neg q]
theorem d1_0 : decode prog_7_method_1_code 0 = .ok (.aload_n 0, 1) := by decide +kernel
theorem d1_1 : decode prog_7_method_1_code 1 = .ok (.invokespecial 1, 3) := by decide +kernel
theorem d1_4 : decode prog_7_method_1_code 4 = .ok (.aload_n 0, 1) := by decide +kernel
theorem d1_5 : decode prog_7_method_1_code 5 = .ok (.getstatic 7, 3) := by decide +kernel
theorem d1_8 : decode prog_7_method_1_code 8 = .ok (.putfield 13, 3) := by decide +kernel
theorem d1_11 : decode prog_7_method_1_code 11 = .ok (.aload_n 0, 1) := by decide +kernel
theorem d1_12 : decode prog_7_method_1_code 12 = .ok (.getstatic 7, 3) := by decide +kernel
theorem d1_15 : decode prog_7_method_1_code 15 = .ok (.putfield 16, 3) := by decide +kernel
theorem d1_18 : decode prog_7_method_1_code 18 = .ok (.aload_n 0, 1) := by decide +kernel
theorem d1_19 : decode prog_7_method_1_code 19 = .ok (.iload_n 1, 1) := by decide +kernel
theorem d1_20 : decode prog_7_method_1_code 20 = .ok (.putfield 19, 3) := by decide +kernel
theorem d1_23 : decode prog_7_method_1_code 23 = .ok (.return_, 1) := by decide +kernel
theorem pn_com_example_rakau_rakau_Block : plainName "com/example/rakau/rakau/Block" = true := by first | (simp [plainName, overriddenIn]; done) | decide +kernel
set_option maxRecDepth 65536 in
set_option maxHeartbeats 40000000 in
theorem cI (l : Launch) (Z : State) (a0 : Array Value) (hw : ∀ d ∈ tables_1, d.before a0 Z = true) {V : oVw} (a : Addr) (y0 : Int32) (nf : Addr) {i : Nat} (hi : V[i]? = some (a, (.inl ("com/example/rakau/rakau/Block", [("com/example/rakau/rakau/Block", "first", "[J", .null), ("com/example/rakau/rakau/Block", "second", "[J", .null), ("com/example/rakau/rakau/Block", "state", "I", (.int (0 : Int32))), ("com/example/rakau/rakau/Block", "firstCount", "I", (.int (0 : Int32))), ("com/example/rakau/rakau/Block", "secondCount", "I", (.int (0 : Int32))), ("com/example/rakau/rakau/Block", "chars", "I", (.int (0 : Int32))), ("com/example/rakau/rakau/Block", "failures", "I", (.int (0 : Int32)))])))) (SF : Sta Z Z.heap "com/example/rakau/rakau/Block" "NOTHING_FOUND" "[J" (.ref nf)) :
    oCon l Z (⟨"com/example/rakau/rakau/Block", "<init>", "(I)V"⟩ : MethodName) prog_7_method_1_code 2 none ({ frames := 1, cells := 0, slots := 0, locals := 12 } : Room) #[(.ref a), (.int y0)] V (fun v V' => v = none ∧ V' = V.set i (a, (.inl ("com/example/rakau/rakau/Block", [("com/example/rakau/rakau/Block", "first", "[J", (.ref nf)), ("com/example/rakau/rakau/Block", "second", "[J", (.ref nf)), ("com/example/rakau/rakau/Block", "state", "I", (.int y0)), ("com/example/rakau/rakau/Block", "firstCount", "I", (.int (0 : Int32))), ("com/example/rakau/rakau/Block", "secondCount", "I", (.int (0 : Int32))), ("com/example/rakau/rakau/Block", "chars", "I", (.int (0 : Int32))), ("com/example/rakau/rakau/Block", "failures", "I", (.int (0 : Int32)))])))) := by
  refine oEnter (plainFor_of_name pn_com_example_rakau_rakau_Block) (Ls := #[.val (.ref a), .val (.int y0)]) (fun m => by first | (simp [entryFrame, mkF, argsToLocals, Value.category]; done) | rfl) ?_
  intro p e s m below meth c T E X
  refine gAloadN E X d1_0 rfl rfl (q := 1) rfl ?_
  refine gInitO E X (W := 0) d1_1 (hw _ (List.mem_of_getElem? (i := 6) rfl)) (hw _ (List.mem_of_getElem? (i := 7) rfl)) (hw _ (List.mem_of_getElem? (i := 8) rfl)) rfl (by decide) (Nat.le_of_eq rfl) (by decide) (q := 4) rfl ?_
  intro T1 X1
  refine gAloadN E X1 d1_4 rfl rfl (q := 5) rfl ?_
  refine gGetS E X1 d1_5 (hw _ (List.mem_of_getElem? (i := 9) rfl)) Via.refl SF (q := 8) rfl ?_
  intro T2 X2
  refine gPutF E X2 d1_8 (hw _ (List.mem_of_getElem? (i := 11) rfl)) Via.refl (i := i) hi (j := 0) rfl (Or.inl (hw _ (List.mem_of_getElem? (i := 12) rfl))) (hw _ (List.mem_of_getElem? (i := 1) rfl)) (ty := (.array .long)) (by decide) rfl rfl (V' := (V.set i (a, (.inl ("com/example/rakau/rakau/Block", [("com/example/rakau/rakau/Block", "first", "[J", (.ref nf)), ("com/example/rakau/rakau/Block", "second", "[J", .null), ("com/example/rakau/rakau/Block", "state", "I", (.int (0 : Int32))), ("com/example/rakau/rakau/Block", "firstCount", "I", (.int (0 : Int32))), ("com/example/rakau/rakau/Block", "secondCount", "I", (.int (0 : Int32))), ("com/example/rakau/rakau/Block", "chars", "I", (.int (0 : Int32))), ("com/example/rakau/rakau/Block", "failures", "I", (.int (0 : Int32)))]))))) rfl (q := 11) rfl ?_
  intro T3 X3
  obtain ⟨V3, eV3⟩ : ∃ z, z = (V.set i (a, (.inl ("com/example/rakau/rakau/Block", [("com/example/rakau/rakau/Block", "first", "[J", (.ref nf)), ("com/example/rakau/rakau/Block", "second", "[J", .null), ("com/example/rakau/rakau/Block", "state", "I", (.int (0 : Int32))), ("com/example/rakau/rakau/Block", "firstCount", "I", (.int (0 : Int32))), ("com/example/rakau/rakau/Block", "secondCount", "I", (.int (0 : Int32))), ("com/example/rakau/rakau/Block", "chars", "I", (.int (0 : Int32))), ("com/example/rakau/rakau/Block", "failures", "I", (.int (0 : Int32)))])))) := ⟨_, rfl⟩
  rw [← eV3] at X3
  have i3_0 := (eV3 ▸ oSetGet hi : V3[i]? = some (a, (.inl ("com/example/rakau/rakau/Block", [("com/example/rakau/rakau/Block", "first", "[J", (.ref nf)), ("com/example/rakau/rakau/Block", "second", "[J", .null), ("com/example/rakau/rakau/Block", "state", "I", (.int (0 : Int32))), ("com/example/rakau/rakau/Block", "firstCount", "I", (.int (0 : Int32))), ("com/example/rakau/rakau/Block", "secondCount", "I", (.int (0 : Int32))), ("com/example/rakau/rakau/Block", "chars", "I", (.int (0 : Int32))), ("com/example/rakau/rakau/Block", "failures", "I", (.int (0 : Int32)))]))))
  refine gAloadN E X3 d1_11 rfl rfl (q := 12) rfl ?_
  refine gGetS E X3 d1_12 (hw _ (List.mem_of_getElem? (i := 9) rfl)) Via.refl SF (q := 15) rfl ?_
  intro T4 X4
  refine gPutF E X4 d1_15 (hw _ (List.mem_of_getElem? (i := 13) rfl)) Via.refl (i := i) i3_0 (j := 1) rfl (Or.inl (hw _ (List.mem_of_getElem? (i := 14) rfl))) (hw _ (List.mem_of_getElem? (i := 1) rfl)) (ty := (.array .long)) (by decide) rfl rfl (V' := (V3.set i (a, (.inl ("com/example/rakau/rakau/Block", [("com/example/rakau/rakau/Block", "first", "[J", (.ref nf)), ("com/example/rakau/rakau/Block", "second", "[J", (.ref nf)), ("com/example/rakau/rakau/Block", "state", "I", (.int (0 : Int32))), ("com/example/rakau/rakau/Block", "firstCount", "I", (.int (0 : Int32))), ("com/example/rakau/rakau/Block", "secondCount", "I", (.int (0 : Int32))), ("com/example/rakau/rakau/Block", "chars", "I", (.int (0 : Int32))), ("com/example/rakau/rakau/Block", "failures", "I", (.int (0 : Int32)))]))))) rfl (q := 18) rfl ?_
  intro T5 X5
  obtain ⟨V5, eV5⟩ : ∃ z, z = (V3.set i (a, (.inl ("com/example/rakau/rakau/Block", [("com/example/rakau/rakau/Block", "first", "[J", (.ref nf)), ("com/example/rakau/rakau/Block", "second", "[J", (.ref nf)), ("com/example/rakau/rakau/Block", "state", "I", (.int (0 : Int32))), ("com/example/rakau/rakau/Block", "firstCount", "I", (.int (0 : Int32))), ("com/example/rakau/rakau/Block", "secondCount", "I", (.int (0 : Int32))), ("com/example/rakau/rakau/Block", "chars", "I", (.int (0 : Int32))), ("com/example/rakau/rakau/Block", "failures", "I", (.int (0 : Int32)))])))) := ⟨_, rfl⟩
  rw [← eV5] at X5
  have i5_0 := (eV5 ▸ oSetGet i3_0 : V5[i]? = some (a, (.inl ("com/example/rakau/rakau/Block", [("com/example/rakau/rakau/Block", "first", "[J", (.ref nf)), ("com/example/rakau/rakau/Block", "second", "[J", (.ref nf)), ("com/example/rakau/rakau/Block", "state", "I", (.int (0 : Int32))), ("com/example/rakau/rakau/Block", "firstCount", "I", (.int (0 : Int32))), ("com/example/rakau/rakau/Block", "secondCount", "I", (.int (0 : Int32))), ("com/example/rakau/rakau/Block", "chars", "I", (.int (0 : Int32))), ("com/example/rakau/rakau/Block", "failures", "I", (.int (0 : Int32)))]))))
  refine gAloadN E X5 d1_18 rfl rfl (q := 19) rfl ?_
  refine gIloadN E X5 d1_19 rfl (q := 20) rfl ?_
  refine gPutF E X5 d1_20 (hw _ (List.mem_of_getElem? (i := 15) rfl)) Via.refl (i := i) i5_0 (j := 2) rfl (Or.inl (hw _ (List.mem_of_getElem? (i := 16) rfl))) (hw _ (List.mem_of_getElem? (i := 1) rfl)) (ty := .int) (by decide) rfl rfl (V' := (V5.set i (a, (.inl ("com/example/rakau/rakau/Block", [("com/example/rakau/rakau/Block", "first", "[J", (.ref nf)), ("com/example/rakau/rakau/Block", "second", "[J", (.ref nf)), ("com/example/rakau/rakau/Block", "state", "I", (.int y0)), ("com/example/rakau/rakau/Block", "firstCount", "I", (.int (0 : Int32))), ("com/example/rakau/rakau/Block", "secondCount", "I", (.int (0 : Int32))), ("com/example/rakau/rakau/Block", "chars", "I", (.int (0 : Int32))), ("com/example/rakau/rakau/Block", "failures", "I", (.int (0 : Int32)))]))))) rfl (q := 23) rfl ?_
  intro T6 X6
  obtain ⟨V6, eV6⟩ : ∃ z, z = (V5.set i (a, (.inl ("com/example/rakau/rakau/Block", [("com/example/rakau/rakau/Block", "first", "[J", (.ref nf)), ("com/example/rakau/rakau/Block", "second", "[J", (.ref nf)), ("com/example/rakau/rakau/Block", "state", "I", (.int y0)), ("com/example/rakau/rakau/Block", "firstCount", "I", (.int (0 : Int32))), ("com/example/rakau/rakau/Block", "secondCount", "I", (.int (0 : Int32))), ("com/example/rakau/rakau/Block", "chars", "I", (.int (0 : Int32))), ("com/example/rakau/rakau/Block", "failures", "I", (.int (0 : Int32)))])))) := ⟨_, rfl⟩
  rw [← eV6] at X6
  have i6_0 := (eV6 ▸ oSetGet i5_0 : V6[i]? = some (a, (.inl ("com/example/rakau/rakau/Block", [("com/example/rakau/rakau/Block", "first", "[J", (.ref nf)), ("com/example/rakau/rakau/Block", "second", "[J", (.ref nf)), ("com/example/rakau/rakau/Block", "state", "I", (.int y0)), ("com/example/rakau/rakau/Block", "firstCount", "I", (.int (0 : Int32))), ("com/example/rakau/rakau/Block", "secondCount", "I", (.int (0 : Int32))), ("com/example/rakau/rakau/Block", "chars", "I", (.int (0 : Int32))), ("com/example/rakau/rakau/Block", "failures", "I", (.int (0 : Int32)))]))))
  exact gRetV E X6 d1_23 (by decide) (by decide) (⟨rfl, by simp only [eV6, eV5, eV3, List.set_set]⟩)
theorem d3_0 : decode prog_7_method_2_code 0 = .ok (.aload_n 0, 1) := by decide +kernel
theorem d3_1 : decode prog_7_method_2_code 1 = .ok (.getfield 13, 3) := by decide +kernel
theorem d3_4 : decode prog_7_method_2_code 4 = .ok (.arraylength, 1) := by decide +kernel
theorem d3_5 : decode prog_7_method_2_code 5 = .ok (.iload_n 1, 1) := by decide +kernel
theorem d3_6 : decode prog_7_method_2_code 6 = .ok (.iconst 4, 1) := by decide +kernel
theorem d3_7 : decode prog_7_method_2_code 7 = .ok (.imul, 1) := by decide +kernel
theorem d3_8 : decode prog_7_method_2_code 8 = .ok (.if_icmp .ge 12, 3) := by decide +kernel
theorem d3_11 : decode prog_7_method_2_code 11 = .ok (.aload_n 0, 1) := by decide +kernel
theorem d3_12 : decode prog_7_method_2_code 12 = .ok (.iload_n 1, 1) := by decide +kernel
theorem d3_13 : decode prog_7_method_2_code 13 = .ok (.iconst 4, 1) := by decide +kernel
theorem d3_14 : decode prog_7_method_2_code 14 = .ok (.imul, 1) := by decide +kernel
theorem d3_15 : decode prog_7_method_2_code 15 = .ok (.newarray .long, 2) := by decide +kernel
theorem d3_17 : decode prog_7_method_2_code 17 = .ok (.putfield 13, 3) := by decide +kernel
theorem d3_20 : decode prog_7_method_2_code 20 = .ok (.aload_n 0, 1) := by decide +kernel
theorem d3_21 : decode prog_7_method_2_code 21 = .ok (.getfield 16, 3) := by decide +kernel
theorem d3_24 : decode prog_7_method_2_code 24 = .ok (.arraylength, 1) := by decide +kernel
theorem d3_25 : decode prog_7_method_2_code 25 = .ok (.iload_n 2, 1) := by decide +kernel
theorem d3_26 : decode prog_7_method_2_code 26 = .ok (.iconst 4, 1) := by decide +kernel
theorem d3_27 : decode prog_7_method_2_code 27 = .ok (.imul, 1) := by decide +kernel
theorem d3_28 : decode prog_7_method_2_code 28 = .ok (.if_icmp .ge 12, 3) := by decide +kernel
theorem d3_31 : decode prog_7_method_2_code 31 = .ok (.aload_n 0, 1) := by decide +kernel
theorem d3_32 : decode prog_7_method_2_code 32 = .ok (.iload_n 2, 1) := by decide +kernel
theorem d3_33 : decode prog_7_method_2_code 33 = .ok (.iconst 4, 1) := by decide +kernel
theorem d3_34 : decode prog_7_method_2_code 34 = .ok (.imul, 1) := by decide +kernel
theorem d3_35 : decode prog_7_method_2_code 35 = .ok (.newarray .long, 2) := by decide +kernel
theorem d3_37 : decode prog_7_method_2_code 37 = .ok (.putfield 16, 3) := by decide +kernel
theorem d3_40 : decode prog_7_method_2_code 40 = .ok (.aload_n 0, 1) := by decide +kernel
theorem d3_41 : decode prog_7_method_2_code 41 = .ok (.getfield 13, 3) := by decide +kernel
theorem d3_44 : decode prog_7_method_2_code 44 = .ok (.areturn, 1) := by decide +kernel
set_option maxRecDepth 65536 in
set_option maxHeartbeats 40000000 in
theorem cR (l : Launch) (Z : State) (a0 : Array Value) (hw : ∀ d ∈ tables_1, d.before a0 Z = true) {V : oVw} (a : Addr) (y1 : Int32) (y2 : Int32) (f : Addr) (g : Addr) (y0 : Int32) (n1 : Int32) (n2 : Int32) {i : Nat} (hi : V[i]? = some (a, (.inl ("com/example/rakau/rakau/Block", [("com/example/rakau/rakau/Block", "first", "[J", (.ref f)), ("com/example/rakau/rakau/Block", "second", "[J", (.ref g)), ("com/example/rakau/rakau/Block", "state", "I", (.int y0)), ("com/example/rakau/rakau/Block", "firstCount", "I", (.int (0 : Int32))), ("com/example/rakau/rakau/Block", "secondCount", "I", (.int (0 : Int32))), ("com/example/rakau/rakau/Block", "chars", "I", (.int (0 : Int32))), ("com/example/rakau/rakau/Block", "failures", "I", (.int (0 : Int32)))])))) (z1 : 0 ≤ y1.toInt ∧ y1.toInt ≤ 15) (z2 : 0 ≤ y2.toInt ∧ y2.toInt ≤ 15) (L1 : oLn Z V f n1) (L2 : oLn Z V g n2) :
    oCon l Z (⟨"com/example/rakau/rakau/Block", "room", "(II)[J"⟩ : MethodName) prog_7_method_2_code 3 (some (.array .long)) ({ frames := 0, cells := 2, slots := 120, locals := 0 } : Room) #[(.ref a), (.int y1), (.int y2)] V (fun v V' => ∃ f' g', v = some (.ref f') ∧ V'[i]? = some (a, (.inl ("com/example/rakau/rakau/Block", [("com/example/rakau/rakau/Block", "first", "[J", (.ref f')), ("com/example/rakau/rakau/Block", "second", "[J", (.ref g')), ("com/example/rakau/rakau/Block", "state", "I", (.int y0)), ("com/example/rakau/rakau/Block", "firstCount", "I", (.int (0 : Int32))), ("com/example/rakau/rakau/Block", "secondCount", "I", (.int (0 : Int32))), ("com/example/rakau/rakau/Block", "chars", "I", (.int (0 : Int32))), ("com/example/rakau/rakau/Block", "failures", "I", (.int (0 : Int32)))]))) ∧ (¬ n1 < y1 * (4 : Int32) → f' = f) ∧ (¬ n2 < y2 * (4 : Int32) → g' = g) ∧ oLn Z V' f' (own_mx n1 (y1 * (4 : Int32))) ∧ oLn Z V' g' (own_mx n2 (y2 * (4 : Int32))) ∧ oLn Z V' f n1 ∧ oLn Z V' g n2) := by
  refine oEnter (plainFor_of_name pn_com_example_rakau_rakau_Block) (Ls := #[.val (.ref a), .val (.int y1), .val (.int y2)]) (fun m => by first | (simp [entryFrame, mkF, argsToLocals, Value.category]; done) | rfl) ?_
  intro p e s m below meth c T E X
  refine gAloadN E X d3_0 rfl rfl (q := 1) rfl ?_
  refine gGetF E X d3_1 (hw _ (List.mem_of_getElem? (i := 11) rfl)) Via.refl (i := i) hi (j := 0) rfl (q := 4) rfl ?_
  intro T1 X1
  refine gLenG E X1 (z := n1) d3_4 L1 (q := 5) rfl ?_
  refine gIloadN E X1 d3_5 rfl (q := 6) rfl ?_
  refine gIconst E X1 d3_6 (v := (4 : Int32)) (by decide) (q := 7) rfl ?_
  refine gImul E X1 d3_7 (z := (y1 * (4 : Int32))) rfl (q := 8) rfl ?_
  refine gIc_ge E X1 d3_8 (by decide) (q := 20) (by decide) (q' := 11) rfl (fun h8 => ?_) (fun h8 => ?_)
  · refine gAloadN E X1 d3_20 rfl rfl (q := 21) rfl ?_
    refine gGetF E X1 d3_21 (hw _ (List.mem_of_getElem? (i := 13) rfl)) Via.refl (i := i) hi (j := 1) rfl (q := 24) rfl ?_
    intro T2 X2
    refine gLenG E X2 (z := n2) d3_24 L2 (q := 25) rfl ?_
    refine gIloadN E X2 d3_25 rfl (q := 26) rfl ?_
    refine gIconst E X2 d3_26 (v := (4 : Int32)) (by decide) (q := 27) rfl ?_
    refine gImul E X2 d3_27 (z := (y2 * (4 : Int32))) rfl (q := 28) rfl ?_
    refine gIc_ge E X2 d3_28 (by decide) (q := 40) (by decide) (q' := 31) rfl (fun h28 => ?_) (fun h28 => ?_)
    · refine gAloadN E X2 d3_40 rfl rfl (q := 41) rfl ?_
      refine gGetF E X2 d3_41 (hw _ (List.mem_of_getElem? (i := 11) rfl)) Via.refl (i := i) hi (j := 0) rfl (q := 44) rfl ?_
      intro T3 X3
      exact gRetA E X3 rfl d3_44 (by decide) (by decide) rfl rfl (⟨f, g, rfl, hi, (fun _ => rfl), (fun _ => rfl), (by rw [own_mx, if_neg h8]; exact L1), (by rw [own_mx, if_neg h28]; exact L2), L1, L2⟩)
    · refine gAloadN E X2 d3_31 rfl rfl (q := 32) rfl ?_
      refine gIloadN E X2 d3_32 rfl (q := 33) rfl ?_
      refine gIconst E X2 d3_33 (v := (4 : Int32)) (by decide) (q := 34) rfl ?_
      refine gImul E X2 d3_34 (z := (y2 * (4 : Int32))) rfl (q := 35) rfl ?_
      refine gNewA E X2 (c2 := 1) (s2 := 60) (cap := 60) (vs := (List.replicate (y2 * (4 : Int32)).toNatClampNeg (.long (0 : Int64)))) (ty := .long) rfl d3_35 (hw _ (List.mem_of_getElem? (i := 24) rfl)) (own_neg z2) (own_cap z2) (by decide) rfl (by decide) (by decide) (by decide) (by decide) (q := 37) rfl ?_
      intro T4 a4 X4
      obtain ⟨V4, eV4⟩ : ∃ z, z = V ++ [(a4, (.inr (.long, (List.replicate (y2 * (4 : Int32)).toNatClampNeg (.long (0 : Int64))))))] := ⟨_, rfl⟩
      rw [← eV4] at X4
      have i4_0 := (eV4 ▸ oAppGet hi : V4[i]? = some (a, (.inl ("com/example/rakau/rakau/Block", [("com/example/rakau/rakau/Block", "first", "[J", (.ref f)), ("com/example/rakau/rakau/Block", "second", "[J", (.ref g)), ("com/example/rakau/rakau/Block", "state", "I", (.int y0)), ("com/example/rakau/rakau/Block", "firstCount", "I", (.int (0 : Int32))), ("com/example/rakau/rakau/Block", "secondCount", "I", (.int (0 : Int32))), ("com/example/rakau/rakau/Block", "chars", "I", (.int (0 : Int32))), ("com/example/rakau/rakau/Block", "failures", "I", (.int (0 : Int32)))]))))
      have ln4_0 : oLn Z V4 f n1 := eV4 ▸ oLn.app L1
      have ln4_1 : oLn Z V4 g n2 := eV4 ▸ oLn.app L2
      have i4_1 := (eV4 ▸ oAppLast : V4[V.length]? = some (a4, (.inr (.long, (List.replicate (y2 * (4 : Int32)).toNatClampNeg (.long (0 : Int64)))))))
      have lnN4 : oLn Z V4 a4 (y2 * (4 : Int32)) := Or.inr ⟨_, _, _, i4_1, oRepLen (own_neg z2)⟩
      refine gPutF E X4 d3_37 (hw _ (List.mem_of_getElem? (i := 13) rfl)) Via.refl (i := i) i4_0 (j := 1) rfl (Or.inl (hw _ (List.mem_of_getElem? (i := 14) rfl))) (hw _ (List.mem_of_getElem? (i := 1) rfl)) (ty := (.array .long)) (by decide) rfl rfl (V' := (V4.set i (a, (.inl ("com/example/rakau/rakau/Block", [("com/example/rakau/rakau/Block", "first", "[J", (.ref f)), ("com/example/rakau/rakau/Block", "second", "[J", (.ref a4)), ("com/example/rakau/rakau/Block", "state", "I", (.int y0)), ("com/example/rakau/rakau/Block", "firstCount", "I", (.int (0 : Int32))), ("com/example/rakau/rakau/Block", "secondCount", "I", (.int (0 : Int32))), ("com/example/rakau/rakau/Block", "chars", "I", (.int (0 : Int32))), ("com/example/rakau/rakau/Block", "failures", "I", (.int (0 : Int32)))]))))) rfl (q := 40) rfl ?_
      intro T5 X5
      obtain ⟨V5, eV5⟩ : ∃ z, z = (V4.set i (a, (.inl ("com/example/rakau/rakau/Block", [("com/example/rakau/rakau/Block", "first", "[J", (.ref f)), ("com/example/rakau/rakau/Block", "second", "[J", (.ref a4)), ("com/example/rakau/rakau/Block", "state", "I", (.int y0)), ("com/example/rakau/rakau/Block", "firstCount", "I", (.int (0 : Int32))), ("com/example/rakau/rakau/Block", "secondCount", "I", (.int (0 : Int32))), ("com/example/rakau/rakau/Block", "chars", "I", (.int (0 : Int32))), ("com/example/rakau/rakau/Block", "failures", "I", (.int (0 : Int32)))])))) := ⟨_, rfl⟩
      rw [← eV5] at X5
      have i5_0 := (eV5 ▸ oSetGet i4_0 : V5[i]? = some (a, (.inl ("com/example/rakau/rakau/Block", [("com/example/rakau/rakau/Block", "first", "[J", (.ref f)), ("com/example/rakau/rakau/Block", "second", "[J", (.ref a4)), ("com/example/rakau/rakau/Block", "state", "I", (.int y0)), ("com/example/rakau/rakau/Block", "firstCount", "I", (.int (0 : Int32))), ("com/example/rakau/rakau/Block", "secondCount", "I", (.int (0 : Int32))), ("com/example/rakau/rakau/Block", "chars", "I", (.int (0 : Int32))), ("com/example/rakau/rakau/Block", "failures", "I", (.int (0 : Int32)))]))))
      have i5_1 := (eV5 ▸ oSetNe (Nat.ne_of_lt (oLt hi)) i4_1 : V5[V.length]? = some (a4, (.inr (.long, (List.replicate (y2 * (4 : Int32)).toNatClampNeg (.long (0 : Int64)))))))
      have ln5_0 : oLn Z V5 f n1 := eV5 ▸ oLn.set ln4_0 i4_0
      have ln5_1 : oLn Z V5 g n2 := eV5 ▸ oLn.set ln4_1 i4_0
      have ln5_2 : oLn Z V5 a4 (y2 * (4 : Int32)) := eV5 ▸ oLn.set lnN4 i4_0
      refine gAloadN E X5 d3_40 rfl rfl (q := 41) rfl ?_
      refine gGetF E X5 d3_41 (hw _ (List.mem_of_getElem? (i := 11) rfl)) Via.refl (i := i) i5_0 (j := 0) rfl (q := 44) rfl ?_
      intro T6 X6
      exact gRetA E X6 rfl d3_44 (by decide) (by decide) rfl rfl (⟨f, a4, rfl, i5_0, (fun _ => rfl), (fun h => absurd h28 h), (by rw [own_mx, if_neg h8]; exact ln5_0), (by rw [own_mx, if_pos h28]; exact ln5_2), ln5_0, ln5_1⟩)
  · refine gAloadN E X1 d3_11 rfl rfl (q := 12) rfl ?_
    refine gIloadN E X1 d3_12 rfl (q := 13) rfl ?_
    refine gIconst E X1 d3_13 (v := (4 : Int32)) (by decide) (q := 14) rfl ?_
    refine gImul E X1 d3_14 (z := (y1 * (4 : Int32))) rfl (q := 15) rfl ?_
    refine gNewA E X1 (c2 := 1) (s2 := 60) (cap := 60) (vs := (List.replicate (y1 * (4 : Int32)).toNatClampNeg (.long (0 : Int64)))) (ty := .long) rfl d3_15 (hw _ (List.mem_of_getElem? (i := 24) rfl)) (own_neg z1) (own_cap z1) (by decide) rfl (by decide) (by decide) (by decide) (by decide) (q := 17) rfl ?_
    intro T7 a7 X7
    obtain ⟨V7, eV7⟩ : ∃ z, z = V ++ [(a7, (.inr (.long, (List.replicate (y1 * (4 : Int32)).toNatClampNeg (.long (0 : Int64))))))] := ⟨_, rfl⟩
    rw [← eV7] at X7
    have i7_0 := (eV7 ▸ oAppGet hi : V7[i]? = some (a, (.inl ("com/example/rakau/rakau/Block", [("com/example/rakau/rakau/Block", "first", "[J", (.ref f)), ("com/example/rakau/rakau/Block", "second", "[J", (.ref g)), ("com/example/rakau/rakau/Block", "state", "I", (.int y0)), ("com/example/rakau/rakau/Block", "firstCount", "I", (.int (0 : Int32))), ("com/example/rakau/rakau/Block", "secondCount", "I", (.int (0 : Int32))), ("com/example/rakau/rakau/Block", "chars", "I", (.int (0 : Int32))), ("com/example/rakau/rakau/Block", "failures", "I", (.int (0 : Int32)))]))))
    have ln7_0 : oLn Z V7 f n1 := eV7 ▸ oLn.app L1
    have ln7_1 : oLn Z V7 g n2 := eV7 ▸ oLn.app L2
    have i7_1 := (eV7 ▸ oAppLast : V7[V.length]? = some (a7, (.inr (.long, (List.replicate (y1 * (4 : Int32)).toNatClampNeg (.long (0 : Int64)))))))
    have lnN7 : oLn Z V7 a7 (y1 * (4 : Int32)) := Or.inr ⟨_, _, _, i7_1, oRepLen (own_neg z1)⟩
    refine gPutF E X7 d3_17 (hw _ (List.mem_of_getElem? (i := 11) rfl)) Via.refl (i := i) i7_0 (j := 0) rfl (Or.inl (hw _ (List.mem_of_getElem? (i := 12) rfl))) (hw _ (List.mem_of_getElem? (i := 1) rfl)) (ty := (.array .long)) (by decide) rfl rfl (V' := (V7.set i (a, (.inl ("com/example/rakau/rakau/Block", [("com/example/rakau/rakau/Block", "first", "[J", (.ref a7)), ("com/example/rakau/rakau/Block", "second", "[J", (.ref g)), ("com/example/rakau/rakau/Block", "state", "I", (.int y0)), ("com/example/rakau/rakau/Block", "firstCount", "I", (.int (0 : Int32))), ("com/example/rakau/rakau/Block", "secondCount", "I", (.int (0 : Int32))), ("com/example/rakau/rakau/Block", "chars", "I", (.int (0 : Int32))), ("com/example/rakau/rakau/Block", "failures", "I", (.int (0 : Int32)))]))))) rfl (q := 20) rfl ?_
    intro T8 X8
    obtain ⟨V8, eV8⟩ : ∃ z, z = (V7.set i (a, (.inl ("com/example/rakau/rakau/Block", [("com/example/rakau/rakau/Block", "first", "[J", (.ref a7)), ("com/example/rakau/rakau/Block", "second", "[J", (.ref g)), ("com/example/rakau/rakau/Block", "state", "I", (.int y0)), ("com/example/rakau/rakau/Block", "firstCount", "I", (.int (0 : Int32))), ("com/example/rakau/rakau/Block", "secondCount", "I", (.int (0 : Int32))), ("com/example/rakau/rakau/Block", "chars", "I", (.int (0 : Int32))), ("com/example/rakau/rakau/Block", "failures", "I", (.int (0 : Int32)))])))) := ⟨_, rfl⟩
    rw [← eV8] at X8
    have i8_0 := (eV8 ▸ oSetGet i7_0 : V8[i]? = some (a, (.inl ("com/example/rakau/rakau/Block", [("com/example/rakau/rakau/Block", "first", "[J", (.ref a7)), ("com/example/rakau/rakau/Block", "second", "[J", (.ref g)), ("com/example/rakau/rakau/Block", "state", "I", (.int y0)), ("com/example/rakau/rakau/Block", "firstCount", "I", (.int (0 : Int32))), ("com/example/rakau/rakau/Block", "secondCount", "I", (.int (0 : Int32))), ("com/example/rakau/rakau/Block", "chars", "I", (.int (0 : Int32))), ("com/example/rakau/rakau/Block", "failures", "I", (.int (0 : Int32)))]))))
    have i8_1 := (eV8 ▸ oSetNe (Nat.ne_of_lt (oLt hi)) i7_1 : V8[V.length]? = some (a7, (.inr (.long, (List.replicate (y1 * (4 : Int32)).toNatClampNeg (.long (0 : Int64)))))))
    have ln8_0 : oLn Z V8 f n1 := eV8 ▸ oLn.set ln7_0 i7_0
    have ln8_1 : oLn Z V8 g n2 := eV8 ▸ oLn.set ln7_1 i7_0
    have ln8_2 : oLn Z V8 a7 (y1 * (4 : Int32)) := eV8 ▸ oLn.set lnN7 i7_0
    refine gAloadN E X8 d3_20 rfl rfl (q := 21) rfl ?_
    refine gGetF E X8 d3_21 (hw _ (List.mem_of_getElem? (i := 13) rfl)) Via.refl (i := i) i8_0 (j := 1) rfl (q := 24) rfl ?_
    intro T9 X9
    refine gLenG E X9 (z := n2) d3_24 ln8_1 (q := 25) rfl ?_
    refine gIloadN E X9 d3_25 rfl (q := 26) rfl ?_
    refine gIconst E X9 d3_26 (v := (4 : Int32)) (by decide) (q := 27) rfl ?_
    refine gImul E X9 d3_27 (z := (y2 * (4 : Int32))) rfl (q := 28) rfl ?_
    refine gIc_ge E X9 d3_28 (by decide) (q := 40) (by decide) (q' := 31) rfl (fun h28 => ?_) (fun h28 => ?_)
    · refine gAloadN E X9 d3_40 rfl rfl (q := 41) rfl ?_
      refine gGetF E X9 d3_41 (hw _ (List.mem_of_getElem? (i := 11) rfl)) Via.refl (i := i) i8_0 (j := 0) rfl (q := 44) rfl ?_
      intro T10 X10
      exact gRetA E X10 rfl d3_44 (by decide) (by decide) rfl rfl (⟨a7, g, rfl, i8_0, (fun h => absurd h8 h), (fun _ => rfl), (by rw [own_mx, if_pos h8]; exact ln8_2), (by rw [own_mx, if_neg h28]; exact ln8_1), ln8_0, ln8_1⟩)
    · refine gAloadN E X9 d3_31 rfl rfl (q := 32) rfl ?_
      refine gIloadN E X9 d3_32 rfl (q := 33) rfl ?_
      refine gIconst E X9 d3_33 (v := (4 : Int32)) (by decide) (q := 34) rfl ?_
      refine gImul E X9 d3_34 (z := (y2 * (4 : Int32))) rfl (q := 35) rfl ?_
      refine gNewA E X9 (c2 := 2) (s2 := 120) (cap := 60) (vs := (List.replicate (y2 * (4 : Int32)).toNatClampNeg (.long (0 : Int64)))) (ty := .long) rfl d3_35 (hw _ (List.mem_of_getElem? (i := 24) rfl)) (own_neg z2) (own_cap z2) (by decide) rfl (by decide) (by decide) (by decide) (by decide) (q := 37) rfl ?_
      intro T11 a11 X11
      obtain ⟨V11, eV11⟩ : ∃ z, z = V8 ++ [(a11, (.inr (.long, (List.replicate (y2 * (4 : Int32)).toNatClampNeg (.long (0 : Int64))))))] := ⟨_, rfl⟩
      rw [← eV11] at X11
      have i11_0 := (eV11 ▸ oAppGet i8_0 : V11[i]? = some (a, (.inl ("com/example/rakau/rakau/Block", [("com/example/rakau/rakau/Block", "first", "[J", (.ref a7)), ("com/example/rakau/rakau/Block", "second", "[J", (.ref g)), ("com/example/rakau/rakau/Block", "state", "I", (.int y0)), ("com/example/rakau/rakau/Block", "firstCount", "I", (.int (0 : Int32))), ("com/example/rakau/rakau/Block", "secondCount", "I", (.int (0 : Int32))), ("com/example/rakau/rakau/Block", "chars", "I", (.int (0 : Int32))), ("com/example/rakau/rakau/Block", "failures", "I", (.int (0 : Int32)))]))))
      have i11_1 := (eV11 ▸ oAppGet i8_1 : V11[V.length]? = some (a7, (.inr (.long, (List.replicate (y1 * (4 : Int32)).toNatClampNeg (.long (0 : Int64)))))))
      have ln11_0 : oLn Z V11 f n1 := eV11 ▸ oLn.app ln8_0
      have ln11_1 : oLn Z V11 g n2 := eV11 ▸ oLn.app ln8_1
      have ln11_2 : oLn Z V11 a7 (y1 * (4 : Int32)) := eV11 ▸ oLn.app ln8_2
      have i11_2 := (eV11 ▸ oAppLast : V11[V8.length]? = some (a11, (.inr (.long, (List.replicate (y2 * (4 : Int32)).toNatClampNeg (.long (0 : Int64)))))))
      have lnN11 : oLn Z V11 a11 (y2 * (4 : Int32)) := Or.inr ⟨_, _, _, i11_2, oRepLen (own_neg z2)⟩
      refine gPutF E X11 d3_37 (hw _ (List.mem_of_getElem? (i := 13) rfl)) Via.refl (i := i) i11_0 (j := 1) rfl (Or.inl (hw _ (List.mem_of_getElem? (i := 14) rfl))) (hw _ (List.mem_of_getElem? (i := 1) rfl)) (ty := (.array .long)) (by decide) rfl rfl (V' := (V11.set i (a, (.inl ("com/example/rakau/rakau/Block", [("com/example/rakau/rakau/Block", "first", "[J", (.ref a7)), ("com/example/rakau/rakau/Block", "second", "[J", (.ref a11)), ("com/example/rakau/rakau/Block", "state", "I", (.int y0)), ("com/example/rakau/rakau/Block", "firstCount", "I", (.int (0 : Int32))), ("com/example/rakau/rakau/Block", "secondCount", "I", (.int (0 : Int32))), ("com/example/rakau/rakau/Block", "chars", "I", (.int (0 : Int32))), ("com/example/rakau/rakau/Block", "failures", "I", (.int (0 : Int32)))]))))) rfl (q := 40) rfl ?_
      intro T12 X12
      obtain ⟨V12, eV12⟩ : ∃ z, z = (V11.set i (a, (.inl ("com/example/rakau/rakau/Block", [("com/example/rakau/rakau/Block", "first", "[J", (.ref a7)), ("com/example/rakau/rakau/Block", "second", "[J", (.ref a11)), ("com/example/rakau/rakau/Block", "state", "I", (.int y0)), ("com/example/rakau/rakau/Block", "firstCount", "I", (.int (0 : Int32))), ("com/example/rakau/rakau/Block", "secondCount", "I", (.int (0 : Int32))), ("com/example/rakau/rakau/Block", "chars", "I", (.int (0 : Int32))), ("com/example/rakau/rakau/Block", "failures", "I", (.int (0 : Int32)))])))) := ⟨_, rfl⟩
      rw [← eV12] at X12
      have i12_0 := (eV12 ▸ oSetGet i11_0 : V12[i]? = some (a, (.inl ("com/example/rakau/rakau/Block", [("com/example/rakau/rakau/Block", "first", "[J", (.ref a7)), ("com/example/rakau/rakau/Block", "second", "[J", (.ref a11)), ("com/example/rakau/rakau/Block", "state", "I", (.int y0)), ("com/example/rakau/rakau/Block", "firstCount", "I", (.int (0 : Int32))), ("com/example/rakau/rakau/Block", "secondCount", "I", (.int (0 : Int32))), ("com/example/rakau/rakau/Block", "chars", "I", (.int (0 : Int32))), ("com/example/rakau/rakau/Block", "failures", "I", (.int (0 : Int32)))]))))
      have i12_1 := (eV12 ▸ oSetNe (Nat.ne_of_lt (oLt hi)) i11_1 : V12[V.length]? = some (a7, (.inr (.long, (List.replicate (y1 * (4 : Int32)).toNatClampNeg (.long (0 : Int64)))))))
      have i12_2 := (eV12 ▸ oSetNe (Nat.ne_of_lt (oLt i8_0)) i11_2 : V12[V8.length]? = some (a11, (.inr (.long, (List.replicate (y2 * (4 : Int32)).toNatClampNeg (.long (0 : Int64)))))))
      have ln12_0 : oLn Z V12 f n1 := eV12 ▸ oLn.set ln11_0 i11_0
      have ln12_1 : oLn Z V12 g n2 := eV12 ▸ oLn.set ln11_1 i11_0
      have ln12_2 : oLn Z V12 a7 (y1 * (4 : Int32)) := eV12 ▸ oLn.set ln11_2 i11_0
      have ln12_3 : oLn Z V12 a11 (y2 * (4 : Int32)) := eV12 ▸ oLn.set lnN11 i11_0
      refine gAloadN E X12 d3_40 rfl rfl (q := 41) rfl ?_
      refine gGetF E X12 d3_41 (hw _ (List.mem_of_getElem? (i := 11) rfl)) Via.refl (i := i) i12_0 (j := 0) rfl (q := 44) rfl ?_
      intro T13 X13
      exact gRetA E X13 rfl d3_44 (by decide) (by decide) rfl rfl (⟨a7, a11, rfl, i12_0, (fun h => absurd h8 h), (fun h => absurd h28 h), (by rw [own_mx, if_pos h8]; exact ln12_2), (by rw [own_mx, if_pos h28]; exact ln12_3), ln12_0, ln12_1⟩)
theorem d4_0 : decode method_2_code 0 = .ok (.aload_n 0, 1) := by decide +kernel
theorem d4_1 : decode method_2_code 1 = .ok (.arraylength, 1) := by decide +kernel
theorem d4_2 : decode method_2_code 2 = .ok (.iload_n 2, 1) := by decide +kernel
theorem d4_3 : decode method_2_code 3 = .ok (.if_icmp .lt 17, 3) := by decide +kernel
theorem d4_6 : decode method_2_code 6 = .ok (.aload_n 1, 1) := by decide +kernel
theorem d4_7 : decode method_2_code 7 = .ok (.aload_n 0, 1) := by decide +kernel
theorem d4_8 : decode method_2_code 8 = .ok (.if_acmp .ne 7, 3) := by decide +kernel
theorem d4_11 : decode method_2_code 11 = .ok (.iconst 1, 1) := by decide +kernel
theorem d4_12 : decode method_2_code 12 = .ok (.goto 4, 3) := by decide +kernel
theorem d4_16 : decode method_2_code 16 = .ok (.istore_n 3, 1) := by decide +kernel
theorem d4_17 : decode method_2_code 17 = .ok (.goto 15, 3) := by decide +kernel
theorem d4_20 : decode method_2_code 20 = .ok (.aload_n 1, 1) := by decide +kernel
theorem d4_21 : decode method_2_code 21 = .ok (.arraylength, 1) := by decide +kernel
theorem d4_22 : decode method_2_code 22 = .ok (.iload_n 2, 1) := by decide +kernel
theorem d4_23 : decode method_2_code 23 = .ok (.if_icmp .ne 7, 3) := by decide +kernel
theorem d4_26 : decode method_2_code 26 = .ok (.iconst 1, 1) := by decide +kernel
theorem d4_27 : decode method_2_code 27 = .ok (.goto 4, 3) := by decide +kernel
theorem d4_31 : decode method_2_code 31 = .ok (.istore_n 3, 1) := by decide +kernel
theorem d4_32 : decode method_2_code 32 = .ok (.iload_n 3, 1) := by decide +kernel
theorem d4_33 : decode method_2_code 33 = .ok (.ireturn, 1) := by decide +kernel
theorem pn_com_example_rakau_rakau_BlockRoomPinLaw : plainName "com/example/rakau/rakau/BlockRoomPinLaw" = true := by first | (simp [plainName, overriddenIn]; done) | decide +kernel
set_option maxRecDepth 65536 in
set_option maxHeartbeats 40000000 in
theorem cL (l : Launch) (Z : State) (a0 : Array Value) (hw : ∀ d ∈ tables_1, d.before a0 Z = true) {V : oVw} (a : Addr) (b : Addr) (y2 : Int32) (n : Int32)  (L1 : oLn Z V a n) (P : ¬ n < y2 → b = a) (L2 : n < y2 → oLn Z V b y2) :
    oCon l Z (⟨"com/example/rakau/rakau/BlockRoomPinLaw", "lane", "([J[JI)Z"⟩ : MethodName) method_2_code 4 (some .boolean) ({ frames := 0, cells := 0, slots := 0, locals := 0 } : Room) #[(.ref a), (.ref b), (.int y2)] V (fun v V' => v = some (.int 1) ∧ V' = V) := by
  refine oEnter (plainFor_of_name pn_com_example_rakau_rakau_BlockRoomPinLaw) (Ls := #[.val (.ref a), .val (.ref b), .val (.int y2), .unset]) (fun m => by first | (simp [entryFrame, mkF, argsToLocals, Value.category]; done) | rfl) ?_
  intro p e s m below meth c T E X
  refine gAloadN E X d4_0 rfl rfl (q := 1) rfl ?_
  refine gLenG E X (z := n) d4_1 L1 (q := 2) rfl ?_
  refine gIloadN E X d4_2 rfl (q := 3) rfl ?_
  refine gIc_lt E X d4_3 (by decide) (q := 20) (by decide) (q' := 6) rfl (fun h3 => ?_) (fun h3 => ?_)
  · refine gAloadN E X d4_20 rfl rfl (q := 21) rfl ?_
    refine gLenG E X (z := y2) d4_21 (L2 h3) (q := 22) rfl ?_
    refine gIloadN E X d4_22 rfl (q := 23) rfl ?_
    refine gIc_ne E X d4_23 (by decide) (q := 30) (by decide) (q' := 26) rfl (fun h23 => by exfalso; exact h23 rfl) (fun h23 => ?_)
    refine gIconst E X d4_26 (v := (1 : Int32)) (by decide) (q := 27) rfl ?_
    refine gGoto E X d4_27 (by decide) (q := 31) (by decide) ?_
    refine gIstoreN E X d4_31 (l' := #[.val (.ref a), .val (.ref b), .val (.int y2), .val (.int (1 : Int32))]) rfl (q := 32) rfl ?_
    refine gIloadN E X d4_32 rfl (q := 33) rfl ?_
    exact gRetN E X (by simp) d4_33 (by decide) (by decide) (⟨rfl, rfl⟩)
  · refine gAloadN E X d4_6 rfl rfl (q := 7) rfl ?_
    refine gAloadN E X d4_7 rfl rfl (q := 8) rfl ?_
    refine gAc_ne E X rfl rfl d4_8 (by decide) (q := 15) (by decide) (q' := 11) rfl (fun h8 => by exfalso; exact h8 (congrArg Value.ref (P h3))) (fun h8 => ?_)
    refine gIconst E X d4_11 (v := (1 : Int32)) (by decide) (q := 12) rfl ?_
    refine gGoto E X d4_12 (by decide) (q := 16) (by decide) ?_
    refine gIstoreN E X d4_16 (l' := #[.val (.ref a), .val (.ref b), .val (.int y2), .val (.int (1 : Int32))]) rfl (q := 17) rfl ?_
    refine gGoto E X d4_17 (by decide) (q := 32) (by decide) ?_
    refine gIloadN E X d4_32 rfl (q := 33) rfl ?_
    exact gRetN E X (by simp) d4_33 (by decide) (by decide) (⟨rfl, rfl⟩)
theorem d5_0 : decode jdk_29_method_65_code 0 = .ok (.iload_n 0, 1) := by decide +kernel
theorem d5_1 : decode jdk_29_method_65_code 1 = .ok (.iload_n 1, 1) := by decide +kernel
theorem d5_2 : decode jdk_29_method_65_code 2 = .ok (.if_icmp .lt 7, 3) := by decide +kernel
theorem d5_5 : decode jdk_29_method_65_code 5 = .ok (.iload_n 0, 1) := by decide +kernel
theorem d5_6 : decode jdk_29_method_65_code 6 = .ok (.goto 4, 3) := by decide +kernel
theorem d5_9 : decode jdk_29_method_65_code 9 = .ok (.iload_n 1, 1) := by decide +kernel
theorem d5_10 : decode jdk_29_method_65_code 10 = .ok (.ireturn, 1) := by decide +kernel
set_option maxRecDepth 65536 in
set_option maxHeartbeats 40000000 in
theorem cM (l : Launch) (Z : State) (a0 : Array Value) (hw : ∀ d ∈ tables_1, d.before a0 Z = true) {V : oVw} (y0 : Int32) (y1 : Int32)   :
    oCon l Z (⟨"java/lang/Math", "max", "(II)I"⟩ : MethodName) jdk_29_method_65_code 2 (some .int) ({ frames := 0, cells := 0, slots := 0, locals := 0 } : Room) #[(.int y0), (.int y1)] V (fun v V' => v = some (.int (own_max y0 y1)) ∧ V' = V) := by
  refine oEnter (by decide +kernel) (Ls := #[.val (.int y0), .val (.int y1)]) (fun m => by first | (simp [entryFrame, mkF, argsToLocals, Value.category]; done) | rfl) ?_
  intro p e s m below meth c T E X
  refine gIloadN E X d5_0 rfl (q := 1) rfl ?_
  refine gIloadN E X d5_1 rfl (q := 2) rfl ?_
  have k2 : ∀ (j2 : Int32) (hj2 : j2 = (if y0 < y1 then y1 else y0)), oG p e below s Z ({ frames := 0, cells := 0, slots := 0, locals := 0 } : Room) (fun v V' => v = some (.int (own_max y0 y1)) ∧ V' = V) T (mkF m 10 #[.val (.int y0), .val (.int y1)] [(.int j2)]) := by
    intro j2 hj2
    exact gRetI E X d5_10 (by decide) (by decide) (⟨by rw [hj2]; rfl, rfl⟩)
  refine gIc_lt E X d5_2 (by decide) (q := 9) (by decide) (q' := 5) rfl (fun h2 => ?_) (fun h2 => ?_)
  · refine gIloadN E X d5_9 rfl (q := 10) rfl ?_
    exact k2 _ (by simp only [if_pos h2])
  · refine gIloadN E X d5_5 rfl (q := 6) rfl ?_
    refine gGoto E X d5_6 (by decide) (q := 10) (by decide) ?_
    exact k2 _ (by simp only [if_neg h2])
theorem lay_Block (Z : State) (a0 : Array Value) (hw : ∀ d ∈ tables_1, d.before a0 Z = true) : oLay Z a0 "com/example/rakau/rakau/Block" [("com/example/rakau/rakau/Block", "first", "[J", .null), ("com/example/rakau/rakau/Block", "second", "[J", .null), ("com/example/rakau/rakau/Block", "state", "I", (.int (0 : Int32))), ("com/example/rakau/rakau/Block", "firstCount", "I", (.int (0 : Int32))), ("com/example/rakau/rakau/Block", "secondCount", "I", (.int (0 : Int32))), ("com/example/rakau/rakau/Block", "chars", "I", (.int (0 : Int32))), ("com/example/rakau/rakau/Block", "failures", "I", (.int (0 : Int32)))] := oLay.of (by decide) ⟨⟨Or.inl (hw _ (List.mem_of_getElem? (i := 12) rfl)), (.array .long), by decide, rfl⟩, ⟨Or.inl (hw _ (List.mem_of_getElem? (i := 14) rfl)), (.array .long), by decide, rfl⟩, ⟨Or.inl (hw _ (List.mem_of_getElem? (i := 16) rfl)), .int, by decide, rfl⟩, ⟨Or.inl (hw _ (List.mem_of_getElem? (i := 35) rfl)), .int, by decide, rfl⟩, ⟨Or.inl (hw _ (List.mem_of_getElem? (i := 37) rfl)), .int, by decide, rfl⟩, ⟨Or.inl (hw _ (List.mem_of_getElem? (i := 39) rfl)), .int, by decide, rfl⟩, ⟨Or.inl (hw _ (List.mem_of_getElem? (i := 41) rfl)), .int, by decide, rfl⟩, trivial⟩
theorem pd_0 : parseMethodDescriptor "(I)V" = some ⟨[.int], none⟩ := by decide +kernel
theorem pd_1 : parseMethodDescriptor "(II)[J" = some ⟨[.int, .int], some (.array .long)⟩ := by decide +kernel
theorem pd_2 : parseMethodDescriptor "([J[JI)Z" = some ⟨[(.array .long), (.array .long), .int], some .boolean⟩ := by decide +kernel
theorem pd_3 : parseMethodDescriptor "(II)I" = some ⟨[.int, .int], some .int⟩ := by decide +kernel
set_option maxRecDepth 65536 in
set_option maxHeartbeats 40000000 in
theorem rm0 (l : Launch) (Z : State) (a0 : Array Value) (hw : ∀ d ∈ tables_1, d.before a0 Z = true) (u0 : Int32) (u1 : Int32) (u2 : Int32) (u3 : Int32) (u4 : Int32) (nf : Addr) (cl : Cell) (SF : Sta Z Z.heap "com/example/rakau/rakau/Block" "NOTHING_FOUND" "[J" (.ref nf)) (A : Arr Z Z.heap nf cl .long) (AL : cl.slots.size.toInt32 = (0 : Int32)) :
    oCon l Z x code maxLocals ret room_1 #[(.int u0), (.int u1), (.int u2), (.int u3), (.int u4)] [] (fun v _ => v = some (.int 1)) := by
  refine oEnter (plainFor_of_name pn_com_example_rakau_rakau_BlockRoomPinLaw) (Ls := #[.val (.int u0), .val (.int u1), .val (.int u2), .val (.int u3), .val (.int u4), .unset, .unset, .unset, .unset, .unset, .unset, .unset, .unset, .unset, .unset, .unset, .unset, .unset]) (fun m => by first | (simp [entryFrame, mkF, argsToLocals, Value.category, maxLocals]; done) | rfl) ?_
  intro p e s m below meth c T E X
  refine gIconst E X at_0 (v := (4 : Int32)) (by decide) (q := 1) rfl ?_
  refine gIstore E X at_1 (l' := #[.val (.int u0), .val (.int u1), .val (.int u2), .val (.int u3), .val (.int u4), .val (.int (4 : Int32)), .unset, .unset, .unset, .unset, .unset, .unset, .unset, .unset, .unset, .unset, .unset, .unset]) rfl (q := 3) rfl ?_
  refine gIloadN E X at_3 rfl (q := 4) rfl ?_
  refine gBipush E X at_4 (v := (15 : Int32)) (by decide) (q := 6) rfl ?_
  refine gIand E X at_6 (z := (u1 &&& (15 : Int32))) rfl (q := 7) rfl ?_
  refine gIstore E X at_7 (l' := #[.val (.int u0), .val (.int u1), .val (.int u2), .val (.int u3), .val (.int u4), .val (.int (4 : Int32)), .val (.int (u1 &&& (15 : Int32))), .unset, .unset, .unset, .unset, .unset, .unset, .unset, .unset, .unset, .unset, .unset]) rfl (q := 9) rfl ?_
  refine gIloadN E X at_9 rfl (q := 10) rfl ?_
  refine gBipush E X at_10 (v := (15 : Int32)) (by decide) (q := 12) rfl ?_
  refine gIand E X at_12 (z := (u2 &&& (15 : Int32))) rfl (q := 13) rfl ?_
  refine gIstore E X at_13 (l' := #[.val (.int u0), .val (.int u1), .val (.int u2), .val (.int u3), .val (.int u4), .val (.int (4 : Int32)), .val (.int (u1 &&& (15 : Int32))), .val (.int (u2 &&& (15 : Int32))), .unset, .unset, .unset, .unset, .unset, .unset, .unset, .unset, .unset, .unset]) rfl (q := 15) rfl ?_
  refine gIloadN E X at_15 rfl (q := 16) rfl ?_
  refine gBipush E X at_16 (v := (15 : Int32)) (by decide) (q := 18) rfl ?_
  refine gIand E X at_18 (z := (u3 &&& (15 : Int32))) rfl (q := 19) rfl ?_
  refine gIstore E X at_19 (l' := #[.val (.int u0), .val (.int u1), .val (.int u2), .val (.int u3), .val (.int u4), .val (.int (4 : Int32)), .val (.int (u1 &&& (15 : Int32))), .val (.int (u2 &&& (15 : Int32))), .val (.int (u3 &&& (15 : Int32))), .unset, .unset, .unset, .unset, .unset, .unset, .unset, .unset, .unset]) rfl (q := 21) rfl ?_
  refine gIload E X at_21 rfl (q := 23) rfl ?_
  refine gBipush E X at_23 (v := (15 : Int32)) (by decide) (q := 25) rfl ?_
  refine gIand E X at_25 (z := (u4 &&& (15 : Int32))) rfl (q := 26) rfl ?_
  refine gIstore E X at_26 (l' := #[.val (.int u0), .val (.int u1), .val (.int u2), .val (.int u3), .val (.int u4), .val (.int (4 : Int32)), .val (.int (u1 &&& (15 : Int32))), .val (.int (u2 &&& (15 : Int32))), .val (.int (u3 &&& (15 : Int32))), .val (.int (u4 &&& (15 : Int32))), .unset, .unset, .unset, .unset, .unset, .unset, .unset, .unset]) rfl (q := 28) rfl ?_
  refine (fun (k : ∀ (p1 : Int32), p1 = (u1 &&& (15 : Int32)) → oG p e below s Z room_1 (fun v _ => v = some (.int 1)) T (mkF m 28 #[.val (.int u0), .val (.int u1), .val (.int u2), .val (.int u3), .val (.int u4), .val (.int (4 : Int32)), .val (.int p1), .val (.int (u2 &&& (15 : Int32))), .val (.int (u3 &&& (15 : Int32))), .val (.int (u4 &&& (15 : Int32))), .unset, .unset, .unset, .unset, .unset, .unset, .unset, .unset] [])) => k _ rfl) ?_
  intro p1 hp1
  have z1 : 0 ≤ p1.toInt ∧ p1.toInt ≤ 15 := by rw [hp1]; exact own_15 u1
  refine (fun (k : ∀ (q1 : Int32), q1 = (u2 &&& (15 : Int32)) → oG p e below s Z room_1 (fun v _ => v = some (.int 1)) T (mkF m 28 #[.val (.int u0), .val (.int u1), .val (.int u2), .val (.int u3), .val (.int u4), .val (.int (4 : Int32)), .val (.int p1), .val (.int q1), .val (.int (u3 &&& (15 : Int32))), .val (.int (u4 &&& (15 : Int32))), .unset, .unset, .unset, .unset, .unset, .unset, .unset, .unset] [])) => k _ rfl) ?_
  intro q1 hq1
  have z2 : 0 ≤ q1.toInt ∧ q1.toInt ≤ 15 := by rw [hq1]; exact own_15 u2
  refine (fun (k : ∀ (p2 : Int32), p2 = (u3 &&& (15 : Int32)) → oG p e below s Z room_1 (fun v _ => v = some (.int 1)) T (mkF m 28 #[.val (.int u0), .val (.int u1), .val (.int u2), .val (.int u3), .val (.int u4), .val (.int (4 : Int32)), .val (.int p1), .val (.int q1), .val (.int p2), .val (.int (u4 &&& (15 : Int32))), .unset, .unset, .unset, .unset, .unset, .unset, .unset, .unset] [])) => k _ rfl) ?_
  intro p2 hp2
  have z3 : 0 ≤ p2.toInt ∧ p2.toInt ≤ 15 := by rw [hp2]; exact own_15 u3
  refine (fun (k : ∀ (q2 : Int32), q2 = (u4 &&& (15 : Int32)) → oG p e below s Z room_1 (fun v _ => v = some (.int 1)) T (mkF m 28 #[.val (.int u0), .val (.int u1), .val (.int u2), .val (.int u3), .val (.int u4), .val (.int (4 : Int32)), .val (.int p1), .val (.int q1), .val (.int p2), .val (.int q2), .unset, .unset, .unset, .unset, .unset, .unset, .unset, .unset] [])) => k _ rfl) ?_
  intro q2 hq2
  have z4 : 0 ≤ q2.toInt ∧ q2.toInt ≤ 15 := by rw [hq2]; exact own_15 u4
  refine gNew E X (c2 := 1) (s2 := 7) at_28 (hw _ (List.mem_of_getElem? (i := 0) rfl)) (hw _ (List.mem_of_getElem? (i := 1) rfl)) (hw _ (List.mem_of_getElem? (i := 2) rfl)) (lay_Block Z a0 hw) (by decide) (by decide) (by decide) (by decide) (q := 31) rfl ?_
  intro T1 a1 X1
  refine gDup E X1 at_31 rfl (q := 32) rfl ?_
  refine gIloadN E X1 at_32 rfl (q := 33) rfl ?_
  refine gCallI E X1 (W := 1) (c2 := 1) (s2 := 7) (a := a1) [(.int u0)] [(.ref a1)] at_33 rfl (hw _ (List.mem_of_getElem? (i := 3) rfl)) (hw _ (List.mem_of_getElem? (i := 4) rfl)) (hw _ (List.mem_of_getElem? (i := 2) rfl)) (hw _ (List.mem_of_getElem? (i := 5) rfl)) (by decide) (cI l Z a0 hw a1 u0 nf (i := 0) rfl SF) pd_0 rfl rfl rfl (by decide) (Nat.le_of_eq rfl) (by decide) (by decide) (by decide) (by decide) (by decide) (q := 36) rfl ?_
  intro T2 v2 V2 R2 X2
  obtain ⟨rfl, rfl⟩ := R2
  replace X2 : oX p l e room_1 s m #[(.int u0), (.int u1), (.int u2), (.int u3), (.int u4)] below meth c Z T2 [(a1, (.inl ("com/example/rakau/rakau/Block", [("com/example/rakau/rakau/Block", "first", "[J", (.ref nf)), ("com/example/rakau/rakau/Block", "second", "[J", (.ref nf)), ("com/example/rakau/rakau/Block", "state", "I", (.int u0)), ("com/example/rakau/rakau/Block", "firstCount", "I", (.int (0 : Int32))), ("com/example/rakau/rakau/Block", "secondCount", "I", (.int (0 : Int32))), ("com/example/rakau/rakau/Block", "chars", "I", (.int (0 : Int32))), ("com/example/rakau/rakau/Block", "failures", "I", (.int (0 : Int32)))])))] 1 7 := X2
  show oG p e below s Z room_1 (fun v _ => v = some (.int 1)) T2 (mkF m 36 #[.val (.int u0), .val (.int u1), .val (.int u2), .val (.int u3), .val (.int u4), .val (.int (4 : Int32)), .val (.int p1), .val (.int q1), .val (.int p2), .val (.int q2), .unset, .unset, .unset, .unset, .unset, .unset, .unset, .unset] [(.ref a1)])
  refine gAstore E X2 at_36 rfl (l' := #[.val (.int u0), .val (.int u1), .val (.int u2), .val (.int u3), .val (.int u4), .val (.int (4 : Int32)), .val (.int p1), .val (.int q1), .val (.int p2), .val (.int q2), .val (.ref a1), .unset, .unset, .unset, .unset, .unset, .unset, .unset]) rfl (q := 38) rfl ?_
  refine gAload E X2 at_38 rfl rfl (q := 40) rfl ?_
  refine gGetF E X2 at_40 (hw _ (List.mem_of_getElem? (i := 17) rfl)) Via.refl (i := 0) rfl (j := 0) rfl (q := 43) rfl ?_
  intro T3 X3
  refine gAstore E X3 at_43 rfl (l' := #[.val (.int u0), .val (.int u1), .val (.int u2), .val (.int u3), .val (.int u4), .val (.int (4 : Int32)), .val (.int p1), .val (.int q1), .val (.int p2), .val (.int q2), .val (.ref a1), .val (.ref nf), .unset, .unset, .unset, .unset, .unset, .unset]) rfl (q := 45) rfl ?_
  refine gAload E X3 at_45 rfl rfl (q := 47) rfl ?_
  refine gGetF E X3 at_47 (hw _ (List.mem_of_getElem? (i := 18) rfl)) Via.refl (i := 0) rfl (j := 1) rfl (q := 50) rfl ?_
  intro T4 X4
  refine gAstore E X4 at_50 rfl (l' := #[.val (.int u0), .val (.int u1), .val (.int u2), .val (.int u3), .val (.int u4), .val (.int (4 : Int32)), .val (.int p1), .val (.int q1), .val (.int p2), .val (.int q2), .val (.ref a1), .val (.ref nf), .val (.ref nf), .unset, .unset, .unset, .unset, .unset]) rfl (q := 52) rfl ?_
  refine gAload E X4 at_52 rfl rfl (q := 54) rfl ?_
  refine gLenG E X4 (z := (0 : Int32)) at_54 (Or.inl ⟨cl, .long, A, AL⟩) (q := 55) rfl ?_
  refine gIf_ne E X4 at_55 (by decide) (q := 68) (by decide) (q' := 58) rfl (fun h55 => by exfalso; exact absurd h55 (by decide)) (fun h55 => ?_)
  refine gAload E X4 at_58 rfl rfl (q := 60) rfl ?_
  refine gLenG E X4 (z := (0 : Int32)) at_60 (Or.inl ⟨cl, .long, A, AL⟩) (q := 61) rfl ?_
  refine gIf_ne E X4 at_61 (by decide) (q := 68) (by decide) (q' := 64) rfl (fun h61 => by exfalso; exact absurd h61 (by decide)) (fun h61 => ?_)
  refine gIconst E X4 at_64 (v := (1 : Int32)) (by decide) (q := 65) rfl ?_
  refine gGoto E X4 at_65 (by decide) (q := 69) (by decide) ?_
  refine gIstore E X4 at_69 (l' := #[.val (.int u0), .val (.int u1), .val (.int u2), .val (.int u3), .val (.int u4), .val (.int (4 : Int32)), .val (.int p1), .val (.int q1), .val (.int p2), .val (.int q2), .val (.ref a1), .val (.ref nf), .val (.ref nf), .val (.int (1 : Int32)), .unset, .unset, .unset, .unset]) rfl (q := 71) rfl ?_
  refine gAload E X4 at_71 rfl rfl (q := 73) rfl ?_
  refine gIload E X4 at_73 rfl (q := 75) rfl ?_
  refine gIload E X4 at_75 rfl (q := 77) rfl ?_
  refine gCallV E X4 (W := 0) (c2 := 3) (s2 := 127) (i := 0) (a := a1) [(.int p1), (.int q1)] [] at_77 rfl (hw _ (List.mem_of_getElem? (i := 19) rfl)) (hw _ (List.mem_of_getElem? (i := 20) rfl)) (hw _ (List.mem_of_getElem? (i := 22) rfl)) (hw _ (List.mem_of_getElem? (i := 22) rfl)) (hw _ (List.mem_of_getElem? (i := 21) rfl)) (hw _ (List.mem_of_getElem? (i := 2) rfl)) (hw _ (List.mem_of_getElem? (i := 23) rfl)) (by decide) (cR l Z a0 hw a1 p1 q1 nf nf u0 (0 : Int32) (0 : Int32) (i := 0) rfl z1 z2 (Or.inl ⟨cl, .long, A, AL⟩) (Or.inl ⟨cl, .long, A, AL⟩)) pd_1 rfl rfl rfl (by decide) (Nat.le_of_eq rfl) (by decide) (by decide) (by decide) (by decide) (by decide) (q := 80) rfl ?_
  intro T5 v5 V5 R5 X5
  obtain ⟨f5, g5, rfl, hb5, pf5, pg5, lf5, lg5, lo5, lp5⟩ := R5
  rw [own_0 z1] at lf5
  rw [own_0 z2] at lg5
  show oG p e below s Z room_1 (fun v _ => v = some (.int 1)) T5 (mkF m 80 #[.val (.int u0), .val (.int u1), .val (.int u2), .val (.int u3), .val (.int u4), .val (.int (4 : Int32)), .val (.int p1), .val (.int q1), .val (.int p2), .val (.int q2), .val (.ref a1), .val (.ref nf), .val (.ref nf), .val (.int (1 : Int32)), .unset, .unset, .unset, .unset] [(.ref f5)])
  refine gAstore E X5 at_80 rfl (l' := #[.val (.int u0), .val (.int u1), .val (.int u2), .val (.int u3), .val (.int u4), .val (.int (4 : Int32)), .val (.int p1), .val (.int q1), .val (.int p2), .val (.int q2), .val (.ref a1), .val (.ref nf), .val (.ref nf), .val (.int (1 : Int32)), .val (.ref f5), .unset, .unset, .unset]) rfl (q := 82) rfl ?_
  refine gAload E X5 at_82 rfl rfl (q := 84) rfl ?_
  refine gGetF E X5 at_84 (hw _ (List.mem_of_getElem? (i := 17) rfl)) Via.refl (i := 0) hb5 (j := 0) rfl (q := 87) rfl ?_
  intro T6 X6
  refine gAstore E X6 at_87 rfl (l' := #[.val (.int u0), .val (.int u1), .val (.int u2), .val (.int u3), .val (.int u4), .val (.int (4 : Int32)), .val (.int p1), .val (.int q1), .val (.int p2), .val (.int q2), .val (.ref a1), .val (.ref nf), .val (.ref nf), .val (.int (1 : Int32)), .val (.ref f5), .val (.ref f5), .unset, .unset]) rfl (q := 89) rfl ?_
  refine gAload E X6 at_89 rfl rfl (q := 91) rfl ?_
  refine gGetF E X6 at_91 (hw _ (List.mem_of_getElem? (i := 18) rfl)) Via.refl (i := 0) hb5 (j := 1) rfl (q := 94) rfl ?_
  intro T7 X7
  refine gAstore E X7 at_94 rfl (l' := #[.val (.int u0), .val (.int u1), .val (.int u2), .val (.int u3), .val (.int u4), .val (.int (4 : Int32)), .val (.int p1), .val (.int q1), .val (.int p2), .val (.int q2), .val (.ref a1), .val (.ref nf), .val (.ref nf), .val (.int (1 : Int32)), .val (.ref f5), .val (.ref f5), .val (.ref g5), .unset]) rfl (q := 96) rfl ?_
  refine gIload E X7 at_96 rfl (q := 98) rfl ?_
  refine gIf_eq E X7 at_98 (by decide) (q := 112) (by decide) (q' := 101) rfl (fun h98 => by exfalso; exact absurd h98 (by decide)) (fun h98 => ?_)
  refine gAload E X7 at_101 rfl rfl (q := 103) rfl ?_
  refine gAload E X7 at_103 rfl rfl (q := 105) rfl ?_
  refine gAc_ne E X7 rfl rfl at_105 (by decide) (q := 112) (by decide) (q' := 108) rfl (fun h105 => by exfalso; exact h105 rfl) (fun h105 => ?_)
  refine gIconst E X7 at_108 (v := (1 : Int32)) (by decide) (q := 109) rfl ?_
  refine gGoto E X7 at_109 (by decide) (q := 113) (by decide) ?_
  refine gIstore E X7 at_113 (l' := #[.val (.int u0), .val (.int u1), .val (.int u2), .val (.int u3), .val (.int u4), .val (.int (4 : Int32)), .val (.int p1), .val (.int q1), .val (.int p2), .val (.int q2), .val (.ref a1), .val (.ref nf), .val (.ref nf), .val (.int (1 : Int32)), .val (.ref f5), .val (.ref f5), .val (.ref g5), .unset]) rfl (q := 115) rfl ?_
  refine gIload E X7 at_115 rfl (q := 117) rfl ?_
  refine gIf_eq E X7 at_117 (by decide) (q := 150) (by decide) (q' := 120) rfl (fun h117 => by exfalso; exact absurd h117 (by decide)) (fun h117 => ?_)
  refine gAload E X7 at_120 rfl rfl (q := 122) rfl ?_
  refine gAload E X7 at_122 rfl rfl (q := 124) rfl ?_
  refine gIload E X7 at_124 rfl (q := 126) rfl ?_
  refine gIload E X7 at_126 rfl (q := 128) rfl ?_
  refine gImul E X7 at_128 (z := (p1 * (4 : Int32))) rfl (q := 129) rfl ?_
  refine gCallS E X7 (W := 0) (c2 := 3) (s2 := 127) [(.ref nf), (.ref f5), (.int (p1 * (4 : Int32)))] [] at_129 (hw _ (List.mem_of_getElem? (i := 25) rfl)) (hw _ (List.mem_of_getElem? (i := 26) rfl)) (hw _ (List.mem_of_getElem? (i := 27) rfl)) (hw _ (List.mem_of_getElem? (i := 28) rfl)) (by decide) (cL l Z a0 hw nf f5 (p1 * (4 : Int32)) (0 : Int32) (Or.inl ⟨cl, .long, A, AL⟩) pf5 (fun h => by have q := lf5; exact q)) pd_2 rfl rfl rfl (by decide) (Nat.le_of_eq rfl) (by decide) (by decide) (by decide) (by decide) (by decide) (q := 132) rfl ?_
  intro T8 v8 V8 R8 X8
  obtain ⟨rfl, eQ8⟩ := R8
  rw [eQ8] at X8
  show oG p e below s Z room_1 (fun v _ => v = some (.int 1)) T8 (mkF m 132 #[.val (.int u0), .val (.int u1), .val (.int u2), .val (.int u3), .val (.int u4), .val (.int (4 : Int32)), .val (.int p1), .val (.int q1), .val (.int p2), .val (.int q2), .val (.ref a1), .val (.ref nf), .val (.ref nf), .val (.int (1 : Int32)), .val (.ref f5), .val (.ref f5), .val (.ref g5), .unset] [(.int (1 : Int32))])
  refine gIf_eq E X8 at_132 (by decide) (q := 150) (by decide) (q' := 135) rfl (fun h132 => by exfalso; exact absurd h132 (by decide)) (fun h132 => ?_)
  refine gAload E X8 at_135 rfl rfl (q := 137) rfl ?_
  refine gLenG E X8 (z := (p1 * (4 : Int32))) at_137 lf5 (q := 138) rfl ?_
  refine gIload E X8 at_138 rfl (q := 140) rfl ?_
  refine gIload E X8 at_140 rfl (q := 142) rfl ?_
  refine gImul E X8 at_142 (z := (p1 * (4 : Int32))) rfl (q := 143) rfl ?_
  refine gIc_ne E X8 at_143 (by decide) (q := 150) (by decide) (q' := 146) rfl (fun h143 => by exfalso; exact h143 rfl) (fun h143 => ?_)
  refine gIconst E X8 at_146 (v := (1 : Int32)) (by decide) (q := 147) rfl ?_
  refine gGoto E X8 at_147 (by decide) (q := 151) (by decide) ?_
  refine gIstore E X8 at_151 (l' := #[.val (.int u0), .val (.int u1), .val (.int u2), .val (.int u3), .val (.int u4), .val (.int (4 : Int32)), .val (.int p1), .val (.int q1), .val (.int p2), .val (.int q2), .val (.ref a1), .val (.ref nf), .val (.ref nf), .val (.int (1 : Int32)), .val (.ref f5), .val (.ref f5), .val (.ref g5), .unset]) rfl (q := 153) rfl ?_
  refine gIload E X8 at_153 rfl (q := 155) rfl ?_
  refine gIf_eq E X8 at_155 (by decide) (q := 188) (by decide) (q' := 158) rfl (fun h155 => by exfalso; exact absurd h155 (by decide)) (fun h155 => ?_)
  refine gAload E X8 at_158 rfl rfl (q := 160) rfl ?_
  refine gAload E X8 at_160 rfl rfl (q := 162) rfl ?_
  refine gIload E X8 at_162 rfl (q := 164) rfl ?_
  refine gIload E X8 at_164 rfl (q := 166) rfl ?_
  refine gImul E X8 at_166 (z := (q1 * (4 : Int32))) rfl (q := 167) rfl ?_
  refine gCallS E X8 (W := 0) (c2 := 3) (s2 := 127) [(.ref nf), (.ref g5), (.int (q1 * (4 : Int32)))] [] at_167 (hw _ (List.mem_of_getElem? (i := 25) rfl)) (hw _ (List.mem_of_getElem? (i := 26) rfl)) (hw _ (List.mem_of_getElem? (i := 27) rfl)) (hw _ (List.mem_of_getElem? (i := 28) rfl)) (by decide) (cL l Z a0 hw nf g5 (q1 * (4 : Int32)) (0 : Int32) (Or.inl ⟨cl, .long, A, AL⟩) pg5 (fun h => by have q := lg5; exact q)) pd_2 rfl rfl rfl (by decide) (Nat.le_of_eq rfl) (by decide) (by decide) (by decide) (by decide) (by decide) (q := 170) rfl ?_
  intro T9 v9 V9 R9 X9
  obtain ⟨rfl, eQ9⟩ := R9
  rw [eQ9] at X9
  show oG p e below s Z room_1 (fun v _ => v = some (.int 1)) T9 (mkF m 170 #[.val (.int u0), .val (.int u1), .val (.int u2), .val (.int u3), .val (.int u4), .val (.int (4 : Int32)), .val (.int p1), .val (.int q1), .val (.int p2), .val (.int q2), .val (.ref a1), .val (.ref nf), .val (.ref nf), .val (.int (1 : Int32)), .val (.ref f5), .val (.ref f5), .val (.ref g5), .unset] [(.int (1 : Int32))])
  refine gIf_eq E X9 at_170 (by decide) (q := 188) (by decide) (q' := 173) rfl (fun h170 => by exfalso; exact absurd h170 (by decide)) (fun h170 => ?_)
  refine gAload E X9 at_173 rfl rfl (q := 175) rfl ?_
  refine gLenG E X9 (z := (q1 * (4 : Int32))) at_175 lg5 (q := 176) rfl ?_
  refine gIload E X9 at_176 rfl (q := 178) rfl ?_
  refine gIload E X9 at_178 rfl (q := 180) rfl ?_
  refine gImul E X9 at_180 (z := (q1 * (4 : Int32))) rfl (q := 181) rfl ?_
  refine gIc_ne E X9 at_181 (by decide) (q := 188) (by decide) (q' := 184) rfl (fun h181 => by exfalso; exact h181 rfl) (fun h181 => ?_)
  refine gIconst E X9 at_184 (v := (1 : Int32)) (by decide) (q := 185) rfl ?_
  refine gGoto E X9 at_185 (by decide) (q := 189) (by decide) ?_
  refine gIstore E X9 at_189 (l' := #[.val (.int u0), .val (.int u1), .val (.int u2), .val (.int u3), .val (.int u4), .val (.int (4 : Int32)), .val (.int p1), .val (.int q1), .val (.int p2), .val (.int q2), .val (.ref a1), .val (.ref nf), .val (.ref nf), .val (.int (1 : Int32)), .val (.ref f5), .val (.ref f5), .val (.ref g5), .unset]) rfl (q := 191) rfl ?_
  refine gAload E X9 at_191 rfl rfl (q := 193) rfl ?_
  refine gIload E X9 at_193 rfl (q := 195) rfl ?_
  refine gIload E X9 at_195 rfl (q := 197) rfl ?_
  refine gCallV E X9 (W := 0) (c2 := 5) (s2 := 247) (i := 0) (a := a1) [(.int p2), (.int q2)] [] at_197 hb5 (hw _ (List.mem_of_getElem? (i := 19) rfl)) (hw _ (List.mem_of_getElem? (i := 20) rfl)) (hw _ (List.mem_of_getElem? (i := 22) rfl)) (hw _ (List.mem_of_getElem? (i := 22) rfl)) (hw _ (List.mem_of_getElem? (i := 21) rfl)) (hw _ (List.mem_of_getElem? (i := 2) rfl)) (hw _ (List.mem_of_getElem? (i := 23) rfl)) (by decide) (cR l Z a0 hw a1 p2 q2 f5 g5 u0 (p1 * (4 : Int32)) (q1 * (4 : Int32)) (i := 0) hb5 z3 z4 lf5 lg5) pd_1 rfl rfl rfl (by decide) (Nat.le_of_eq rfl) (by decide) (by decide) (by decide) (by decide) (by decide) (q := 200) rfl ?_
  intro T10 v10 V10 R10 X10
  obtain ⟨f10, g10, rfl, hb10, pf10, pg10, lf10, lg10, lo10, lp10⟩ := R10
  rw [own_2 z1 z3] at lf10
  rw [own_2 z2 z4] at lg10
  show oG p e below s Z room_1 (fun v _ => v = some (.int 1)) T10 (mkF m 200 #[.val (.int u0), .val (.int u1), .val (.int u2), .val (.int u3), .val (.int u4), .val (.int (4 : Int32)), .val (.int p1), .val (.int q1), .val (.int p2), .val (.int q2), .val (.ref a1), .val (.ref nf), .val (.ref nf), .val (.int (1 : Int32)), .val (.ref f5), .val (.ref f5), .val (.ref g5), .unset] [(.ref f10)])
  refine gAstore E X10 at_200 rfl (l' := #[.val (.int u0), .val (.int u1), .val (.int u2), .val (.int u3), .val (.int u4), .val (.int (4 : Int32)), .val (.int p1), .val (.int q1), .val (.int p2), .val (.int q2), .val (.ref a1), .val (.ref nf), .val (.ref nf), .val (.int (1 : Int32)), .val (.ref f5), .val (.ref f5), .val (.ref g5), .val (.ref f10)]) rfl (q := 202) rfl ?_
  refine gIload E X10 at_202 rfl (q := 204) rfl ?_
  refine gIf_eq E X10 at_204 (by decide) (q := 221) (by decide) (q' := 207) rfl (fun h204 => by exfalso; exact absurd h204 (by decide)) (fun h204 => ?_)
  refine gAload E X10 at_207 rfl rfl (q := 209) rfl ?_
  refine gAload E X10 at_209 rfl rfl (q := 211) rfl ?_
  refine gGetF E X10 at_211 (hw _ (List.mem_of_getElem? (i := 17) rfl)) Via.refl (i := 0) hb10 (j := 0) rfl (q := 214) rfl ?_
  intro T11 X11
  refine gAc_ne E X11 rfl rfl at_214 (by decide) (q := 221) (by decide) (q' := 217) rfl (fun h214 => by exfalso; exact h214 rfl) (fun h214 => ?_)
  refine gIconst E X11 at_217 (v := (1 : Int32)) (by decide) (q := 218) rfl ?_
  refine gGoto E X11 at_218 (by decide) (q := 222) (by decide) ?_
  refine gIstore E X11 at_222 (l' := #[.val (.int u0), .val (.int u1), .val (.int u2), .val (.int u3), .val (.int u4), .val (.int (4 : Int32)), .val (.int p1), .val (.int q1), .val (.int p2), .val (.int q2), .val (.ref a1), .val (.ref nf), .val (.ref nf), .val (.int (1 : Int32)), .val (.ref f5), .val (.ref f5), .val (.ref g5), .val (.ref f10)]) rfl (q := 224) rfl ?_
  refine gIload E X11 at_224 rfl (q := 226) rfl ?_
  refine gIf_eq E X11 at_226 (by decide) (q := 251) (by decide) (q' := 229) rfl (fun h226 => by exfalso; exact absurd h226 (by decide)) (fun h226 => ?_)
  refine gAload E X11 at_229 rfl rfl (q := 231) rfl ?_
  refine gAload E X11 at_231 rfl rfl (q := 233) rfl ?_
  refine gGetF E X11 at_233 (hw _ (List.mem_of_getElem? (i := 17) rfl)) Via.refl (i := 0) hb10 (j := 0) rfl (q := 236) rfl ?_
  intro T12 X12
  refine gIload E X12 at_236 rfl (q := 238) rfl ?_
  refine gIload E X12 at_238 rfl (q := 240) rfl ?_
  refine gImul E X12 at_240 (z := (p2 * (4 : Int32))) rfl (q := 241) rfl ?_
  refine gCallS E X12 (W := 0) (c2 := 5) (s2 := 247) [(.ref f5), (.ref f10), (.int (p2 * (4 : Int32)))] [] at_241 (hw _ (List.mem_of_getElem? (i := 25) rfl)) (hw _ (List.mem_of_getElem? (i := 26) rfl)) (hw _ (List.mem_of_getElem? (i := 27) rfl)) (hw _ (List.mem_of_getElem? (i := 28) rfl)) (by decide) (cL l Z a0 hw f5 f10 (p2 * (4 : Int32)) (p1 * (4 : Int32)) lo10 pf10 (fun h => by have q := lf10; rw [← own_2 z1 z3, own_mx, if_pos h] at q; exact q)) pd_2 rfl rfl rfl (by decide) (Nat.le_of_eq rfl) (by decide) (by decide) (by decide) (by decide) (by decide) (q := 244) rfl ?_
  intro T13 v13 V13 R13 X13
  obtain ⟨rfl, eQ13⟩ := R13
  rw [eQ13] at X13
  show oG p e below s Z room_1 (fun v _ => v = some (.int 1)) T13 (mkF m 244 #[.val (.int u0), .val (.int u1), .val (.int u2), .val (.int u3), .val (.int u4), .val (.int (4 : Int32)), .val (.int p1), .val (.int q1), .val (.int p2), .val (.int q2), .val (.ref a1), .val (.ref nf), .val (.ref nf), .val (.int (1 : Int32)), .val (.ref f5), .val (.ref f5), .val (.ref g5), .val (.ref f10)] [(.int (1 : Int32))])
  refine gIf_eq E X13 at_244 (by decide) (q := 251) (by decide) (q' := 247) rfl (fun h244 => by exfalso; exact absurd h244 (by decide)) (fun h244 => ?_)
  refine gIconst E X13 at_247 (v := (1 : Int32)) (by decide) (q := 248) rfl ?_
  refine gGoto E X13 at_248 (by decide) (q := 252) (by decide) ?_
  refine gIstore E X13 at_252 (l' := #[.val (.int u0), .val (.int u1), .val (.int u2), .val (.int u3), .val (.int u4), .val (.int (4 : Int32)), .val (.int p1), .val (.int q1), .val (.int p2), .val (.int q2), .val (.ref a1), .val (.ref nf), .val (.ref nf), .val (.int (1 : Int32)), .val (.ref f5), .val (.ref f5), .val (.ref g5), .val (.ref f10)]) rfl (q := 254) rfl ?_
  refine gIload E X13 at_254 rfl (q := 256) rfl ?_
  refine gIf_eq E X13 at_256 (by decide) (q := 281) (by decide) (q' := 259) rfl (fun h256 => by exfalso; exact absurd h256 (by decide)) (fun h256 => ?_)
  refine gAload E X13 at_259 rfl rfl (q := 261) rfl ?_
  refine gAload E X13 at_261 rfl rfl (q := 263) rfl ?_
  refine gGetF E X13 at_263 (hw _ (List.mem_of_getElem? (i := 18) rfl)) Via.refl (i := 0) hb10 (j := 1) rfl (q := 266) rfl ?_
  intro T14 X14
  refine gIload E X14 at_266 rfl (q := 268) rfl ?_
  refine gIload E X14 at_268 rfl (q := 270) rfl ?_
  refine gImul E X14 at_270 (z := (q2 * (4 : Int32))) rfl (q := 271) rfl ?_
  refine gCallS E X14 (W := 0) (c2 := 5) (s2 := 247) [(.ref g5), (.ref g10), (.int (q2 * (4 : Int32)))] [] at_271 (hw _ (List.mem_of_getElem? (i := 25) rfl)) (hw _ (List.mem_of_getElem? (i := 26) rfl)) (hw _ (List.mem_of_getElem? (i := 27) rfl)) (hw _ (List.mem_of_getElem? (i := 28) rfl)) (by decide) (cL l Z a0 hw g5 g10 (q2 * (4 : Int32)) (q1 * (4 : Int32)) lp10 pg10 (fun h => by have q := lg10; rw [← own_2 z2 z4, own_mx, if_pos h] at q; exact q)) pd_2 rfl rfl rfl (by decide) (Nat.le_of_eq rfl) (by decide) (by decide) (by decide) (by decide) (by decide) (q := 274) rfl ?_
  intro T15 v15 V15 R15 X15
  obtain ⟨rfl, eQ15⟩ := R15
  rw [eQ15] at X15
  show oG p e below s Z room_1 (fun v _ => v = some (.int 1)) T15 (mkF m 274 #[.val (.int u0), .val (.int u1), .val (.int u2), .val (.int u3), .val (.int u4), .val (.int (4 : Int32)), .val (.int p1), .val (.int q1), .val (.int p2), .val (.int q2), .val (.ref a1), .val (.ref nf), .val (.ref nf), .val (.int (1 : Int32)), .val (.ref f5), .val (.ref f5), .val (.ref g5), .val (.ref f10)] [(.int (1 : Int32))])
  refine gIf_eq E X15 at_274 (by decide) (q := 281) (by decide) (q' := 277) rfl (fun h274 => by exfalso; exact absurd h274 (by decide)) (fun h274 => ?_)
  refine gIconst E X15 at_277 (v := (1 : Int32)) (by decide) (q := 278) rfl ?_
  refine gGoto E X15 at_278 (by decide) (q := 282) (by decide) ?_
  refine gIstore E X15 at_282 (l' := #[.val (.int u0), .val (.int u1), .val (.int u2), .val (.int u3), .val (.int u4), .val (.int (4 : Int32)), .val (.int p1), .val (.int q1), .val (.int p2), .val (.int q2), .val (.ref a1), .val (.ref nf), .val (.ref nf), .val (.int (1 : Int32)), .val (.ref f5), .val (.ref f5), .val (.ref g5), .val (.ref f10)]) rfl (q := 284) rfl ?_
  refine gIload E X15 at_284 rfl (q := 286) rfl ?_
  refine gIf_eq E X15 at_286 (by decide) (q := 331) (by decide) (q' := 289) rfl (fun h286 => by exfalso; exact absurd h286 (by decide)) (fun h286 => ?_)
  refine gAload E X15 at_289 rfl rfl (q := 291) rfl ?_
  refine gGetF E X15 at_291 (hw _ (List.mem_of_getElem? (i := 17) rfl)) Via.refl (i := 0) hb10 (j := 0) rfl (q := 294) rfl ?_
  intro T16 X16
  refine gLenG E X16 (z := (own_max p1 p2 * (4 : Int32))) at_294 lf10 (q := 295) rfl ?_
  refine gIload E X16 at_295 rfl (q := 297) rfl ?_
  refine gIload E X16 at_297 rfl (q := 299) rfl ?_
  refine gCallS E X16 (W := 1) (c2 := 5) (s2 := 247) [(.int p1), (.int p2)] [(.int (own_max p1 p2 * (4 : Int32)))] at_299 (hw _ (List.mem_of_getElem? (i := 29) rfl)) (hw _ (List.mem_of_getElem? (i := 30) rfl)) (hw _ (List.mem_of_getElem? (i := 31) rfl)) (hw _ (List.mem_of_getElem? (i := 32) rfl)) (by decide) (cM l Z a0 hw p1 p2) pd_3 rfl rfl rfl (by decide) (Nat.le_of_eq rfl) (by decide) (by decide) (by decide) (by decide) (by decide) (q := 302) rfl ?_
  intro T17 v17 V17 R17 X17
  obtain ⟨rfl, eQ17⟩ := R17
  rw [eQ17] at X17
  show oG p e below s Z room_1 (fun v _ => v = some (.int 1)) T17 (mkF m 302 #[.val (.int u0), .val (.int u1), .val (.int u2), .val (.int u3), .val (.int u4), .val (.int (4 : Int32)), .val (.int p1), .val (.int q1), .val (.int p2), .val (.int q2), .val (.ref a1), .val (.ref nf), .val (.ref nf), .val (.int (1 : Int32)), .val (.ref f5), .val (.ref f5), .val (.ref g5), .val (.ref f10)] [(.int (own_max p1 p2)), (.int (own_max p1 p2 * (4 : Int32)))])
  refine gIload E X17 at_302 rfl (q := 304) rfl ?_
  refine gImul E X17 at_304 (z := ((own_max p1 p2) * (4 : Int32))) rfl (q := 305) rfl ?_
  refine gIc_ne E X17 at_305 (by decide) (q := 331) (by decide) (q' := 308) rfl (fun h305 => by exfalso; exact h305 rfl) (fun h305 => ?_)
  refine gAload E X17 at_308 rfl rfl (q := 310) rfl ?_
  refine gGetF E X17 at_310 (hw _ (List.mem_of_getElem? (i := 18) rfl)) Via.refl (i := 0) hb10 (j := 1) rfl (q := 313) rfl ?_
  intro T18 X18
  refine gLenG E X18 (z := (own_max q1 q2 * (4 : Int32))) at_313 lg10 (q := 314) rfl ?_
  refine gIload E X18 at_314 rfl (q := 316) rfl ?_
  refine gIload E X18 at_316 rfl (q := 318) rfl ?_
  refine gCallS E X18 (W := 1) (c2 := 5) (s2 := 247) [(.int q1), (.int q2)] [(.int (own_max q1 q2 * (4 : Int32)))] at_318 (hw _ (List.mem_of_getElem? (i := 29) rfl)) (hw _ (List.mem_of_getElem? (i := 30) rfl)) (hw _ (List.mem_of_getElem? (i := 31) rfl)) (hw _ (List.mem_of_getElem? (i := 32) rfl)) (by decide) (cM l Z a0 hw q1 q2) pd_3 rfl rfl rfl (by decide) (Nat.le_of_eq rfl) (by decide) (by decide) (by decide) (by decide) (by decide) (q := 321) rfl ?_
  intro T19 v19 V19 R19 X19
  obtain ⟨rfl, eQ19⟩ := R19
  rw [eQ19] at X19
  show oG p e below s Z room_1 (fun v _ => v = some (.int 1)) T19 (mkF m 321 #[.val (.int u0), .val (.int u1), .val (.int u2), .val (.int u3), .val (.int u4), .val (.int (4 : Int32)), .val (.int p1), .val (.int q1), .val (.int p2), .val (.int q2), .val (.ref a1), .val (.ref nf), .val (.ref nf), .val (.int (1 : Int32)), .val (.ref f5), .val (.ref f5), .val (.ref g5), .val (.ref f10)] [(.int (own_max q1 q2)), (.int (own_max q1 q2 * (4 : Int32)))])
  refine gIload E X19 at_321 rfl (q := 323) rfl ?_
  refine gImul E X19 at_323 (z := ((own_max q1 q2) * (4 : Int32))) rfl (q := 324) rfl ?_
  refine gIc_ne E X19 at_324 (by decide) (q := 331) (by decide) (q' := 327) rfl (fun h324 => by exfalso; exact h324 rfl) (fun h324 => ?_)
  refine gIconst E X19 at_327 (v := (1 : Int32)) (by decide) (q := 328) rfl ?_
  refine gGoto E X19 at_328 (by decide) (q := 332) (by decide) ?_
  refine gIstore E X19 at_332 (l' := #[.val (.int u0), .val (.int u1), .val (.int u2), .val (.int u3), .val (.int u4), .val (.int (4 : Int32)), .val (.int p1), .val (.int q1), .val (.int p2), .val (.int q2), .val (.ref a1), .val (.ref nf), .val (.ref nf), .val (.int (1 : Int32)), .val (.ref f5), .val (.ref f5), .val (.ref g5), .val (.ref f10)]) rfl (q := 334) rfl ?_
  refine gIload E X19 at_334 rfl (q := 336) rfl ?_
  refine gIf_eq E X19 at_336 (by decide) (q := 368) (by decide) (q' := 339) rfl (fun h336 => by exfalso; exact absurd h336 (by decide)) (fun h336 => ?_)
  refine gAload E X19 at_339 rfl rfl (q := 341) rfl ?_
  refine gGetF E X19 at_341 (hw _ (List.mem_of_getElem? (i := 33) rfl)) Via.refl (i := 0) hb10 (j := 2) rfl (q := 344) rfl ?_
  intro T20 X20
  refine gIloadN E X20 at_344 rfl (q := 345) rfl ?_
  refine gIc_ne E X20 at_345 (by decide) (q := 368) (by decide) (q' := 348) rfl (fun h345 => by exfalso; exact h345 rfl) (fun h345 => ?_)
  refine gAload E X20 at_348 rfl rfl (q := 350) rfl ?_
  refine gGetF E X20 at_350 (hw _ (List.mem_of_getElem? (i := 34) rfl)) Via.refl (i := 0) hb10 (j := 3) rfl (q := 353) rfl ?_
  intro T21 X21
  refine gIf_ne E X21 at_353 (by decide) (q := 368) (by decide) (q' := 356) rfl (fun h353 => by exfalso; exact absurd h353 (by decide)) (fun h353 => ?_)
  refine gAload E X21 at_356 rfl rfl (q := 358) rfl ?_
  refine gGetF E X21 at_358 (hw _ (List.mem_of_getElem? (i := 36) rfl)) Via.refl (i := 0) hb10 (j := 4) rfl (q := 361) rfl ?_
  intro T22 X22
  refine gIf_ne E X22 at_361 (by decide) (q := 368) (by decide) (q' := 364) rfl (fun h361 => by exfalso; exact absurd h361 (by decide)) (fun h361 => ?_)
  refine gIconst E X22 at_364 (v := (1 : Int32)) (by decide) (q := 365) rfl ?_
  refine gGoto E X22 at_365 (by decide) (q := 369) (by decide) ?_
  refine gIstore E X22 at_369 (l' := #[.val (.int u0), .val (.int u1), .val (.int u2), .val (.int u3), .val (.int u4), .val (.int (4 : Int32)), .val (.int p1), .val (.int q1), .val (.int p2), .val (.int q2), .val (.ref a1), .val (.ref nf), .val (.ref nf), .val (.int (1 : Int32)), .val (.ref f5), .val (.ref f5), .val (.ref g5), .val (.ref f10)]) rfl (q := 371) rfl ?_
  refine gIload E X22 at_371 rfl (q := 373) rfl ?_
  refine gIf_eq E X22 at_373 (by decide) (q := 396) (by decide) (q' := 376) rfl (fun h373 => by exfalso; exact absurd h373 (by decide)) (fun h373 => ?_)
  refine gAload E X22 at_376 rfl rfl (q := 378) rfl ?_
  refine gGetF E X22 at_378 (hw _ (List.mem_of_getElem? (i := 38) rfl)) Via.refl (i := 0) hb10 (j := 5) rfl (q := 381) rfl ?_
  intro T23 X23
  refine gIf_ne E X23 at_381 (by decide) (q := 396) (by decide) (q' := 384) rfl (fun h381 => by exfalso; exact absurd h381 (by decide)) (fun h381 => ?_)
  refine gAload E X23 at_384 rfl rfl (q := 386) rfl ?_
  refine gGetF E X23 at_386 (hw _ (List.mem_of_getElem? (i := 40) rfl)) Via.refl (i := 0) hb10 (j := 6) rfl (q := 389) rfl ?_
  intro T24 X24
  refine gIf_ne E X24 at_389 (by decide) (q := 396) (by decide) (q' := 392) rfl (fun h389 => by exfalso; exact absurd h389 (by decide)) (fun h389 => ?_)
  refine gIconst E X24 at_392 (v := (1 : Int32)) (by decide) (q := 393) rfl ?_
  refine gGoto E X24 at_393 (by decide) (q := 397) (by decide) ?_
  refine gIstore E X24 at_397 (l' := #[.val (.int u0), .val (.int u1), .val (.int u2), .val (.int u3), .val (.int u4), .val (.int (4 : Int32)), .val (.int p1), .val (.int q1), .val (.int p2), .val (.int q2), .val (.ref a1), .val (.ref nf), .val (.ref nf), .val (.int (1 : Int32)), .val (.ref f5), .val (.ref f5), .val (.ref g5), .val (.ref f10)]) rfl (q := 399) rfl ?_
  refine gIload E X24 at_399 rfl (q := 401) rfl ?_
  exact gRetN E X24 (by simp) at_401 (by decide) (by decide) (rfl)
theorem own_len {Z : State} {a : Addr} {cl : Cell} {ty : FieldType} {t : Term} {args : Array Value} {z : Int32} (A : Arr Z Z.heap a cl ty) (ht : t.eval args Z none [] Z = some (.ref a)) (h : (Term.length t).eval args Z none [] Z = some (.int z)) : cl.slots.size.toInt32 = z := by
  have q := A.fin (U := Z) (Vm.Alike.refl _)
  simp only [Term.eval, ht, q, Option.bind_eq_bind, Option.bind_some] at h
  split at h
  · simpa using h
  · cases h
set_option maxRecDepth 65536 in
set_option maxHeartbeats 40000000 in
theorem comes_1 {Post : Tables → Env → Array Value → State → Outcome → State → Prop} (hpost : ∀ tb e args s v u, (limb_1_1.after args s (.returned v) u = true ∧ limb_1_2.after args s (.returned v) u = true ∧ True) → FrameEnd s (.returned v) u (Jvm.fieldLocs frame_1_writes args s ++ Jvm.arrayLocs frame_1_arrays args s ++ Jvm.staticLocs frame_1_statics s) 24 512 → Post tb e args s (.returned v) u) :
    ArmFor flags0 classFile x code maxLocals ret World_1 tables_1 room_1 Calls_1 rest_1 Pre_1 Post := by
  intro l hfl _ _ p e ha hc hk s m args below hf hA hF happ hP
  obtain ⟨hcalls, hrest, hpre⟩ := hP
  obtain ⟨-, -, -, hnamed, -, -, -, hat⟩ := (Spec.applies_iff hf).mp happ
  obtain ⟨hg, hn⟩ := and_e (Cond.before_iff.mp (show (Jvm.Cond.and given_1 narrow_1).before args s = true from hpre))
  obtain ⟨h1, hg0⟩ := and_e hg
  obtain ⟨g0, hg1⟩ := and_e hg0
  obtain ⟨g1, hg2⟩ := and_e hg1
  obtain ⟨g2, hg3⟩ := and_e hg2
  obtain ⟨g3, hg4⟩ := and_e hg3
  obtain ⟨w0, w1, w2, w3, w4, rfl⟩ : ∃ w0 w1 w2 w3 w4 : Value, args = #[w0, w1, w2, w3, w4] := by
    have hs : args.size = 5 := by simpa [Cond.value, given_1] using h1
    obtain ⟨L⟩ := args
    match L, hs with
    | [w0, w1, w2, w3, w4], _ => exact ⟨w0, w1, w2, w3, w4, rfl⟩
  have hw := fun d (hd : d ∈ tables_1) => atoms_spec (ws := Jvm.Cond.code x code maxLocals ret :: tables_1) hat d (List.mem_cons_of_mem _ hd)
  have hfit : Fit s := fun {y c} hc i hi => by
    obtain ⟨ha, rfl⟩ := Array.getElem?_eq_some_iff.mp hc
    have q := List.all_eq_true.mp ((Array.all_eq_true_iff_forall_mem.mp hF) _ (Array.getElem_mem ha)) i (List.mem_range.mpr hi)
    simpa [Array.getElem?_eq_getElem hi] using q
  obtain ⟨i0, e0⟩ := is_v g0
  obtain rfl : w0 = (.int i0) := Option.some.inj e0
  obtain ⟨i1, e1⟩ := is_v g1
  obtain rfl : w1 = (.int i1) := Option.some.inj e1
  obtain ⟨i2, e2⟩ := is_v g2
  obtain rfl : w2 = (.int i2) := Option.some.inj e2
  obtain ⟨i3, e3⟩ := is_v g3
  obtain rfl : w3 = (.int i3) := Option.some.inj e3
  obtain ⟨i4, e4⟩ := is_v hg4
  obtain rfl : w4 = (.int i4) := Option.some.inj e4
  obtain ⟨xa, xl⟩ := and_e hn
  obtain ⟨nf, va⟩ := arr_v xa
  have SF := Sta.start va (Or.inr ⟨(hw _ (List.mem_of_getElem? (i := 2) rfl)), (hw _ (List.mem_of_getElem? (i := 10) rfl))⟩)
  obtain ⟨cl, A⟩ := Arr.start va xa
  have AL := own_len A va (oEqI xl)
  obtain ⟨n, o, h1, h2, h3, v, L, rfl, ⟨N, V', rfl, -⟩, hq⟩ := rm0 l s _ hw i0 i1 i2 i3 i4 nf cl SF A AL tables_1 s.heap (oHv.nil s) p e ha hc hk s m _ below hf ((Spec.applies_iff_loose hf).mp happ).1 ⟨rfl, State.Warmed39.refl s, rfl⟩ trivial
  refine ⟨n, _, h1, h2, h3, hpost _ _ _ _ _ _ ⟨Cond.after_iff.mpr rfl, Cond.after_iff.mpr (eq_i res_at (Term.int_eval (1)) rfl), trivial⟩ ⟨hq.1, hq.2.1, (hq.2.2.sift fun y hy => Or.inr (N y hy)).mono (by decide) (by decide)⟩⟩
theorem main_1_1 : Claimed_1_1 := comes_1 fun _ _ _ _ _ _ h hF => ⟨h.1, hF⟩
theorem main_1_2 : Claimed_1_2 := comes_1 fun _ _ _ _ _ _ h hF => ⟨h.2.1, hF⟩
end Jvm.Pilot.@@N@@
namespace Jvm.Pilot.@@N@@
open Jvm Jvm.ClassFile Sem Op Lib Jvm.Free Jvm.Stand Jvm.Pilot.@@N@@.Jvm.D
/-! MADE BY PROGRAM (witnessworld.py) out of the Statement's table words and the real class files: 12 classes; the members and pool entries that the words name. The judged class is class 1, her method 2. -/
namespace start1
open Jvm.ClassFile
def u (s : String) : CpInfo := .utf8 (stringToUtf16 s)
/-- a pool by its gaps: so many unusable entries, then the entry; so many at the end -/
def gap : Nat → List CpInfo → List CpInfo
  | 0, r => r
  | n + 1, r => .unusable :: gap n r
def poolList (es : List (Nat × CpInfo)) (last : Nat) : List CpInfo := es.foldr (fun e r => gap e.1 (e.2 :: r)) (gap last [])
def pool (es : List (Nat × CpInfo)) (last : Nat) : Array CpInfo := ⟨poolList es last⟩
def fileOf (pool : Array CpInfo) (this : Nat) (attrs : Array Attribute := #[]) (ms : Array MethodInfo := #[]) (fl : Nat := 33) (sup : Nat := 0) (ifs : Array Nat := #[]) (fds : Array FieldInfo := #[]) : ClassFile where
  minorVersion := 0
  majorVersion := 65
  constantPool := pool
  accessFlags := fl
  thisClass := this
  superClass := sup
  interfaces := ifs
  fields := fds
  methods := ms
  attributes := attrs
def plain (name : String) (sup : Option ClassId) : Class where
  name := name
  kind := .ordinary
  loader := none
  accessFlags := 33
  super := sup
  interfaces := #[]
  cf := none
  fields := #[]
  methods := #[]
  instanceTypes := #[]
  staticTypes := #[]
  resolved := #[]
  callSites := []
  init := .initialized
  statics := none
  mirror := none

def pool0 : Array CpInfo := pool [(5, u "<init>"), (0, u "()V"), (1, .class_ 10), (1, u "java/lang/Object")] 113

def k0c0 : Code := { maxStack := 0, maxLocals := 1, code := object_method_1_code, exceptionTable := #[], attributes := #[] }
def k0m0 : Method := { name := "<init>", desc := "()V", sig := { parameters := [], returnType := none }, accessFlags := 1, code := some k0c0 }
/-- java/lang/Object -/
def k0 : Class := { plain "java/lang/Object" none with
  accessFlags := 33
  interfaces := #[]
  cf := some (fileOf pool0 8 #[] #[{ accessFlags := 1, nameIndex := 5, descriptorIndex := 6, attributes := #[] }] 33 0 #[] #[])
  fields := #[]
  methods := #[k0m0]
  instanceTypes := #[]
  staticTypes := #[]
  resolved := Array.replicate 124 none
  statics := none }

def pool1 : Array CpInfo := pool [(2, .class_ 4), (1, u "java/lang/Object"), (0, u "<init>"), (0, u "()V"), (2, .class_ 10), (0, u "com/example/rakau/rakau/Block"), (0, .methodref 9 12), (0, .nameAndType 5 13), (0, u "(I)V"), (0, .fieldref 9 15), (0, .nameAndType 16 17), (0, u "first"), (0, u "[J"), (0, .fieldref 9 19), (0, .nameAndType 20 17), (0, u "second"), (0, .methodref 9 22), (0, .nameAndType 23 24), (0, u "room"), (0, u "(II)[J"), (0, .methodref 26 27), (0, .class_ 28), (0, .nameAndType 29 30), (0, u "com/example/rakau/rakau/BlockRoomPinLaw"), (0, u "lane"), (0, u "([J[JI)Z"), (0, .methodref 32 33), (0, .class_ 34), (0, .nameAndType 35 36), (0, u "java/lang/Math"), (0, u "max"), (0, u "(II)I"), (0, .fieldref 9 38), (0, .nameAndType 39 40), (0, u "state"), (0, u "I"), (0, .fieldref 9 42), (0, .nameAndType 43 40), (0, u "firstCount"), (0, .fieldref 9 45), (0, .nameAndType 46 40), (0, u "secondCount"), (0, .fieldref 9 48), (0, .nameAndType 49 40), (0, u "chars"), (0, .fieldref 9 51), (0, .nameAndType 52 40), (0, u "failures"), (3, u "law"), (0, u "(IIIII)Z")] 3

def k1m0 : Method := { name := "<init>", desc := "()V", sig := { parameters := [], returnType := none }, accessFlags := 1, code := none }
def k1c1 : Code := { maxStack := 2, maxLocals := 4, code := method_2_code, exceptionTable := #[], attributes := #[] }
def k1m1 : Method := { name := "lane", desc := "([J[JI)Z", sig := { parameters := [(.array .long), (.array .long), .int], returnType := some .boolean }, accessFlags := 10, code := some k1c1 }
def k1c2 : Code := { maxStack := 4, maxLocals := 18, code := code, exceptionTable := #[], attributes := #[] }
def k1m2 : Method := { name := "law", desc := "(IIIII)Z", sig := { parameters := [.int, .int, .int, .int, .int], returnType := some .boolean }, accessFlags := 9, code := some k1c2 }
/-- com/example/rakau/rakau/BlockRoomPinLaw -/
def k1 : Class := { plain "com/example/rakau/rakau/BlockRoomPinLaw" (some 0) with
  accessFlags := 49
  interfaces := #[]
  cf := some (fileOf pool1 26 #[] #[{ accessFlags := 1, nameIndex := 5, descriptorIndex := 6, attributes := #[] }, { accessFlags := 10, nameIndex := 29, descriptorIndex := 30, attributes := #[] }, { accessFlags := 9, nameIndex := 56, descriptorIndex := 57, attributes := #[] }] 49 2 #[] #[])
  fields := #[]
  methods := #[k1m0, k1m1, k1m2]
  instanceTypes := #[]
  staticTypes := #[]
  resolved := Array.replicate 61 none
  statics := none }

def pool2 : Array CpInfo := pool [(1, .methodref 2 3), (0, .class_ 4), (0, .nameAndType 5 6), (0, u "java/lang/Object"), (0, u "<init>"), (0, u "()V"), (0, .fieldref 8 9), (0, .class_ 10), (0, .nameAndType 11 12), (0, u "com/example/rakau/rakau/Block"), (0, u "NOTHING_FOUND"), (0, u "[J"), (0, .fieldref 8 14), (0, .nameAndType 15 12), (0, u "first"), (0, .fieldref 8 17), (0, .nameAndType 18 12), (0, u "second"), (0, .fieldref 8 20), (0, .nameAndType 21 22), (0, u "state"), (0, u "I"), (2, u "firstCount"), (0, u "secondCount"), (0, u "chars"), (0, u "failures"), (0, u "(I)V"), (2, u "room"), (0, u "(II)[J")] 4

def k2c0 : Code := { maxStack := 2, maxLocals := 2, code := prog_7_method_1_code, exceptionTable := #[], attributes := #[] }
def k2m0 : Method := { name := "<init>", desc := "(I)V", sig := { parameters := [.int], returnType := none }, accessFlags := 0, code := some k2c0 }
def k2c1 : Code := { maxStack := 3, maxLocals := 3, code := prog_7_method_2_code, exceptionTable := #[], attributes := #[] }
def k2m1 : Method := { name := "room", desc := "(II)[J", sig := { parameters := [.int, .int], returnType := some (.array .long) }, accessFlags := 0, code := some k2c1 }
/-- com/example/rakau/rakau/Block -/
def k2 : Class := { plain "com/example/rakau/rakau/Block" (some 0) with
  accessFlags := 48
  interfaces := #[]
  cf := some (fileOf pool2 8 #[] #[{ accessFlags := 0, nameIndex := 5, descriptorIndex := 29, attributes := #[] }, { accessFlags := 0, nameIndex := 32, descriptorIndex := 33, attributes := #[] }] 48 2 #[] #[{ accessFlags := 26, nameIndex := 11, descriptorIndex := 12, attributes := #[] }, { accessFlags := 0, nameIndex := 21, descriptorIndex := 22, attributes := #[] }, { accessFlags := 0, nameIndex := 15, descriptorIndex := 12, attributes := #[] }, { accessFlags := 0, nameIndex := 25, descriptorIndex := 22, attributes := #[] }, { accessFlags := 0, nameIndex := 18, descriptorIndex := 12, attributes := #[] }, { accessFlags := 0, nameIndex := 26, descriptorIndex := 22, attributes := #[] }, { accessFlags := 0, nameIndex := 27, descriptorIndex := 22, attributes := #[] }, { accessFlags := 0, nameIndex := 28, descriptorIndex := 22, attributes := #[] }])
  fields := #[{ name := "NOTHING_FOUND", type := (.array .long), accessFlags := 26, slot := 0, constantValue := 0 }, { name := "state", type := .int, accessFlags := 0, slot := 0, constantValue := 0 }, { name := "first", type := (.array .long), accessFlags := 0, slot := 1, constantValue := 0 }, { name := "firstCount", type := .int, accessFlags := 0, slot := 2, constantValue := 0 }, { name := "second", type := (.array .long), accessFlags := 0, slot := 3, constantValue := 0 }, { name := "secondCount", type := .int, accessFlags := 0, slot := 4, constantValue := 0 }, { name := "chars", type := .int, accessFlags := 0, slot := 5, constantValue := 0 }, { name := "failures", type := .int, accessFlags := 0, slot := 6, constantValue := 0 }]
  methods := #[k2m0, k2m1]
  instanceTypes := #[.int, (.array .long), .int, (.array .long), .int, .int, .int]
  staticTypes := #[(.array .long)]
  resolved := Array.replicate 38 none
  statics := some 0 }

def pool3 : Array CpInfo := pool [(1, .class_ 2), (0, u "java/lang/Math"), (1, .class_ 6), (1, u "java/lang/Object"), (0, u "<init>"), (0, u "()V"), (89, .class_ 100), (1, u "java/lang/Math$RandomNumberGeneratorHolder"), (71, u "negativeZeroFloatBits"), (0, u "J"), (2, u "negativeZeroDoubleBits"), (21, u "max"), (46, u "$assertionsDisabled"), (0, u "Z"), (88, u "(II)I"), (2, u "twoToTheDoubleScaleDown"), (0, u "D"), (4, u "twoToTheDoubleScaleUp"), (9, u "E"), (3, u "PI"), (2, u "TAU"), (2, u "DEGREES_TO_RADIANS"), (0, u "RADIANS_TO_DEGREES")] 94

def k3m0 : Method := { name := "<init>", desc := "()V", sig := { parameters := [], returnType := none }, accessFlags := 2, code := none }
def k3c1 : Code := { maxStack := 2, maxLocals := 2, code := jdk_29_method_65_code, exceptionTable := #[], attributes := #[] }
def k3m1 : Method := { name := "max", desc := "(II)I", sig := { parameters := [.int, .int], returnType := some .int }, accessFlags := 9, code := some k3c1 }
/-- java/lang/Math -/
def k3 : Class := { plain "java/lang/Math" (some 0) with
  accessFlags := 49
  interfaces := #[]
  cf := some (fileOf pool3 1 #[.nestMembers #[98]] #[{ accessFlags := 2, nameIndex := 7, descriptorIndex := 8, attributes := #[] }, { accessFlags := 9, nameIndex := 198, descriptorIndex := 335, attributes := #[] }] 49 4 #[] #[{ accessFlags := 25, nameIndex := 354, descriptorIndex := 339, attributes := #[] }, { accessFlags := 25, nameIndex := 358, descriptorIndex := 339, attributes := #[] }, { accessFlags := 25, nameIndex := 361, descriptorIndex := 339, attributes := #[] }, { accessFlags := 26, nameIndex := 364, descriptorIndex := 339, attributes := #[] }, { accessFlags := 26, nameIndex := 365, descriptorIndex := 339, attributes := #[] }, { accessFlags := 26, nameIndex := 172, descriptorIndex := 173, attributes := #[] }, { accessFlags := 26, nameIndex := 176, descriptorIndex := 173, attributes := #[] }, { accessFlags := 8, nameIndex := 344, descriptorIndex := 339, attributes := #[] }, { accessFlags := 8, nameIndex := 338, descriptorIndex := 339, attributes := #[] }, { accessFlags := 4120, nameIndex := 245, descriptorIndex := 246, attributes := #[] }])
  fields := #[{ name := "E", type := .double, accessFlags := 25, slot := 0, constantValue := 0 }, { name := "PI", type := .double, accessFlags := 25, slot := 1, constantValue := 0 }, { name := "TAU", type := .double, accessFlags := 25, slot := 2, constantValue := 0 }, { name := "DEGREES_TO_RADIANS", type := .double, accessFlags := 26, slot := 3, constantValue := 0 }, { name := "RADIANS_TO_DEGREES", type := .double, accessFlags := 26, slot := 4, constantValue := 0 }, { name := "negativeZeroFloatBits", type := .long, accessFlags := 26, slot := 5, constantValue := 0 }, { name := "negativeZeroDoubleBits", type := .long, accessFlags := 26, slot := 6, constantValue := 0 }, { name := "twoToTheDoubleScaleUp", type := .double, accessFlags := 8, slot := 7, constantValue := 0 }, { name := "twoToTheDoubleScaleDown", type := .double, accessFlags := 8, slot := 8, constantValue := 0 }, { name := "$assertionsDisabled", type := .boolean, accessFlags := 4120, slot := 9, constantValue := 0 }]
  methods := #[k3m0, k3m1]
  instanceTypes := #[]
  staticTypes := #[.double, .double, .double, .double, .double, .long, .long, .double, .double, .boolean]
  resolved := Array.replicate 460 none
  statics := none }

def pool4 : Array CpInfo := pool [(1, u "java/lang/Cloneable"), (0, .class_ 1), (0, u "java/lang/Object"), (0, .class_ 3)] 3

/-- java/lang/Cloneable -/
def k4 : Class := { plain "java/lang/Cloneable" (some 0) with
  accessFlags := 1537
  interfaces := #[]
  cf := some (fileOf pool4 2 #[] #[] 1537 4 #[] #[])
  fields := #[]
  methods := #[]
  instanceTypes := #[]
  staticTypes := #[]
  resolved := Array.replicate 8 none
  statics := none }

def pool5 : Array CpInfo := pool [(1, u "java/io/Serializable"), (0, .class_ 1), (0, u "java/lang/Object"), (0, .class_ 3)] 3

/-- java/io/Serializable -/
def k5 : Class := { plain "java/io/Serializable" (some 0) with
  accessFlags := 1537
  interfaces := #[]
  cf := some (fileOf pool5 2 #[] #[] 1537 4 #[] #[])
  fields := #[]
  methods := #[]
  instanceTypes := #[]
  staticTypes := #[]
  resolved := Array.replicate 8 none
  statics := none }

/-- the primitive byte -/
def k6 : Class := { plain "byte" none with kind := .primitive 'B', accessFlags := 0x411 }
/-- [B -/
def k7 : Class := { plain "[B" (some 0) with kind := .array 6 .byte, interfaces := #[4, 5], accessFlags := 1041 }

/-- the primitive int -/
def k8 : Class := { plain "int" none with kind := .primitive 'I', accessFlags := 0x411 }
/-- [I -/
def k9 : Class := { plain "[I" (some 0) with kind := .array 8 .int, interfaces := #[4, 5], accessFlags := 1041 }

/-- the primitive long -/
def k10 : Class := { plain "long" none with kind := .primitive 'J', accessFlags := 0x411 }
/-- [J -/
def k11 : Class := { plain "[J" (some 0) with kind := .array 10 .long, interfaces := #[4, 5], accessFlags := 1041 }

def heap : Heap := #[{ cls := 2, slots := #[.ref 1], vm := .statics 2 },
  { cls := 11, slots := #[], vm := .none }]
def classes : Array Class := #[k0, k1, k2, k3, k4, k5, k6, k7, k8, k9, k10, k11]
def interned : List (Array UInt16 × Addr) := []
def slotsUsed : Nat := 1
def theMethod : MethodId := ⟨1, 2⟩
def args0 : Array Value := #[.int 5, .int 5, .int 5, .int 5, .int 5]
def aboutOver (below : List Frame) : State where
  vm := { classes := classes, interned := interned.toArray }
  heap := heap
  slotsUsed := slotsUsed
  threads := #[{ frames := .invoking theMethod args0 :: below }]
def below0 : List Frame := [.native { method := ⟨0, 0⟩, args := #[] }]
def about1 : State := aboutOver below0
def p0 : Program := .bare "" "" ""
def e0 : Env := launch0.env 0 0 0
theorem w_frames : about1.frames = Frame.invoking theMethod args0 :: below0 := rfl
set_option maxRecDepth 65536 in
theorem w_args : argsFit about1.vm theMethod args0 = true := by decide +kernel
set_option maxRecDepth 65536 in
theorem w_heap : heapFits about1 = true := by decide +kernel
set_option maxRecDepth 65536 in
theorem w_runnable : about1.curStatus? = some .runnable := by decide +kernel
set_option maxRecDepth 65536 in
theorem w_alone : about1.alone = true := by decide +kernel
set_option maxRecDepth 65536 in
theorem w_named : about1.methodNamed? x = some theMethod := by decide +kernel
set_option maxRecDepth 65536 in
theorem w_hears : about1.hears theMethod below0 = true := by decide +kernel
set_option maxRecDepth 65536 in
theorem w_ripe : about1.ripe theMethod args0 below0 = true := by decide +kernel
theorem w_running : about1.status = .running := rfl
set_option maxRecDepth 65536 in
theorem w_room : about1.hasRoom e0.platform room_1 = true :=
  launch0.hasRoom_least _ room_1 (by decide +kernel) (by decide +kernel) (by decide +kernel) (by decide +kernel) (by decide +kernel) (by decide +kernel)
theorem allAtoms_all (ts : List Jvm.Cond) (a : Array Jvm.Value) (st : Jvm.State) : (allAtoms ts).before a st = ts.all (fun c => c.before a st) := by
  induction ts with
  | nil => rfl
  | cons c t ih =>
    show (Jvm.Cond.and c (allAtoms t)).before a st = _
    rw [Jvm.Cond.before_and, ih, List.all_cons]
def words1 : List Jvm.Cond := Jvm.Cond.code x code maxLocals ret :: tables_1
/-- a 'code' word, met by the world's own term for the bytes: nothing is compared byte by byte -/
theorem code_word {y : MethodName} {bytes : ByteArray} {mx : Nat} {rt : Option FieldType} {a : Array Value} {s : State} {m : MethodId} {meth : Method} {c : Code} (h1 : s.methodNamed? y = some m) (h2 : s.vm.method? m = some meth) (h3 : meth.code = some c) (h4 : c.code = bytes)
    (h5 : (c.maxLocals == mx && c.exceptionTable.isEmpty && decide (c.maxStack ≤ mostOperands) && decide (meth.sig.returnType = rt) && !meth.locks && decide (parseMethodDescriptor y.desc = some meth.sig)) = true) : (Jvm.Cond.code y bytes mx rt).before a s = true := by
  simp only [Bool.and_eq_true, beq_iff_eq, Bool.not_eq_true', decide_eq_true_eq] at h5
  obtain ⟨⟨⟨⟨⟨g1, g2⟩, g3⟩, g4⟩, g5⟩, g6⟩ := h5
  simp [Cond.before, Cond.holds, Cond.value, h1, h2, h3, h4, g1, g2, g3, g4, g5, g6]
def isCode : Jvm.Cond → Bool
  | .code _ _ _ _ => true
  | _ => false
theorem all_split {L : List Jvm.Cond} {P : Jvm.Cond → Bool} (h1 : L.all (fun c => isCode c || P c) = true) (h2 : ∀ c ∈ L.filter isCode, P c = true) : L.all P = true := by
  refine List.all_eq_true.mpr fun c hc => ?_
  have h := List.all_eq_true.mp h1 c hc
  rcases Bool.eq_false_or_eq_true (isCode c) with hi | hi
  · exact h2 c (List.mem_filter.mpr ⟨hc, hi⟩)
  · simpa [hi] using h
set_option maxRecDepth 65536 in
theorem w_c0 : (Jvm.Cond.code x code maxLocals ret).before args0 about1 = true := code_word (m := ⟨1, 2⟩) (meth := k1m2) (c := k1c2) (by decide +kernel) rfl rfl rfl (by decide +kernel)
set_option maxRecDepth 65536 in
theorem w_c1 : (Jvm.Cond.code ({ cls := "com/example/rakau/rakau/Block", name := "<init>", desc := "(I)V" } : Jvm.MethodName) prog_7_method_1_code (2 : Nat) (Option.none : Option Jvm.ClassFile.FieldType)).before args0 about1 = true := code_word (m := ⟨2, 0⟩) (meth := k2m0) (c := k2c0) (by decide +kernel) rfl rfl rfl (by decide +kernel)
set_option maxRecDepth 65536 in
theorem w_c2 : (Jvm.Cond.code ({ cls := "java/lang/Object", name := "<init>", desc := "()V" } : Jvm.MethodName) object_method_1_code (1 : Nat) (Option.none : Option Jvm.ClassFile.FieldType)).before args0 about1 = true := code_word (m := ⟨0, 0⟩) (meth := k0m0) (c := k0c0) (by decide +kernel) rfl rfl rfl (by decide +kernel)
set_option maxRecDepth 65536 in
theorem w_c3 : (Jvm.Cond.code ({ cls := "com/example/rakau/rakau/Block", name := "room", desc := "(II)[J" } : Jvm.MethodName) prog_7_method_2_code (3 : Nat) (Option.some (Jvm.ClassFile.FieldType.array Jvm.ClassFile.FieldType.long))).before args0 about1 = true := code_word (m := ⟨2, 1⟩) (meth := k2m1) (c := k2c1) (by decide +kernel) rfl rfl rfl (by decide +kernel)
set_option maxRecDepth 65536 in
theorem w_c4 : (Jvm.Cond.code ({ cls := "com/example/rakau/rakau/BlockRoomPinLaw", name := "lane", desc := "([J[JI)Z" } : Jvm.MethodName) method_2_code (4 : Nat) (Option.some Jvm.ClassFile.FieldType.boolean)).before args0 about1 = true := code_word (m := ⟨1, 1⟩) (meth := k1m1) (c := k1c1) (by decide +kernel) rfl rfl rfl (by decide +kernel)
set_option maxRecDepth 65536 in
theorem w_c5 : (Jvm.Cond.code ({ cls := "java/lang/Math", name := "max", desc := "(II)I" } : Jvm.MethodName) jdk_29_method_65_code (2 : Nat) (Option.some Jvm.ClassFile.FieldType.int)).before args0 about1 = true := code_word (m := ⟨3, 1⟩) (meth := k3m1) (c := k3c1) (by decide +kernel) rfl rfl rfl (by decide +kernel)
def codes1 : List Jvm.Cond := [Jvm.Cond.code x code maxLocals ret, Jvm.Cond.code ({ cls := "com/example/rakau/rakau/Block", name := "<init>", desc := "(I)V" } : Jvm.MethodName) prog_7_method_1_code (2 : Nat) (Option.none : Option Jvm.ClassFile.FieldType), Jvm.Cond.code ({ cls := "java/lang/Object", name := "<init>", desc := "()V" } : Jvm.MethodName) object_method_1_code (1 : Nat) (Option.none : Option Jvm.ClassFile.FieldType), Jvm.Cond.code ({ cls := "com/example/rakau/rakau/Block", name := "room", desc := "(II)[J" } : Jvm.MethodName) prog_7_method_2_code (3 : Nat) (Option.some (Jvm.ClassFile.FieldType.array Jvm.ClassFile.FieldType.long)), Jvm.Cond.code ({ cls := "com/example/rakau/rakau/BlockRoomPinLaw", name := "lane", desc := "([J[JI)Z" } : Jvm.MethodName) method_2_code (4 : Nat) (Option.some Jvm.ClassFile.FieldType.boolean), Jvm.Cond.code ({ cls := "java/lang/Math", name := "max", desc := "(II)I" } : Jvm.MethodName) jdk_29_method_65_code (2 : Nat) (Option.some Jvm.ClassFile.FieldType.int)]
set_option maxRecDepth 65536 in
theorem codes_eq : words1.filter isCode = codes1 := rfl
theorem w_codes : ∀ c ∈ words1.filter isCode, c.before args0 about1 = true := by
  rw [codes_eq]
  intro c hc
  simp only [codes1, List.mem_cons, List.not_mem_nil, or_false] at hc
  rcases hc with rfl | rfl | rfl | rfl | rfl | rfl
  · exact w_c0
  · exact w_c1
  · exact w_c2
  · exact w_c3
  · exact w_c4
  · exact w_c5
set_option maxRecDepth 65536 in
theorem w_t1 : (words1.take 24).all (fun c => isCode c || c.before args0 about1) = true := by decide +kernel
set_option maxRecDepth 65536 in
theorem w_t2 : (words1.drop 24).all (fun c => isCode c || c.before args0 about1) = true := by decide +kernel
theorem w_tables : (allAtoms (Jvm.Cond.code x code maxLocals ret :: tables_1)).before args0 about1 = true := by
  rw [allAtoms_all]
  show words1.all (fun c => c.before args0 about1) = true
  refine all_split ?_ w_codes
  rw [← List.take_append_drop 24 words1, List.all_append, w_t1, w_t2]
  rfl
set_option maxRecDepth 65536 in
theorem w_case : (Jvm.Cond.and given_1 narrow_1).before args0 about1 = true := by decide +kernel
theorem w_applies : (headSpec (Jvm.Cond.code x code maxLocals ret :: tables_1) room_1).applies x e0.platform about1 = true :=
  (Spec.applies_iff w_frames).mpr ⟨w_running, w_runnable, w_alone, w_named, w_hears, w_ripe, w_room, w_tables⟩
theorem atStart : AtStart classFile x code maxLocals ret World_1 tables_1 room_1 Calls_1 rest_1 Pre_1 launch0 p0 e0 about1 theMethod args0 below0 :=
  ⟨lists_1, trivial, launch0.admits_env _ _ _, launch0.least_env, fairChoices_fair.cas, fairChoices_fair.clock, w_frames, w_args, w_heap, w_applies, trivial, trivial, w_case⟩
end start1
theorem witness_1 : WitnessClaimed_1 := ⟨start1.p0, start1.e0, start1.about1, start1.theMethod, start1.args0, start1.below0, start1.atStart⟩
end Jvm.Pilot.@@N@@
