import JvmDerived
import JvmDerived.Pilot.@@N@@Statement
import JvmDerived.Pilot.@@N@@Code
set_option linter.unusedVariables false
set_option linter.unusedSimpArgs false
namespace Jvm.Pilot.@@N@@
open Jvm Jvm.ClassFile Sem Op Lib Jvm.Free Jvm.Stand Jvm.LawKit Jvm.RoadKit Bundle Jvm.Pilot.@@N@@.Jvm.D
/-! 1. what is known of the heap: a list of objects made since the start -/
abbrev oOb : Type := (String × List (String × String × String × Value)) ⊕ (FieldType × List Value)
abbrev oVw : Type := List (Addr × oOb)
def oSat (Z : State) (h : Heap) (a : Addr) : oOb → Prop
  | .inl q => Exa Z h a q.1 ∧ (q.2.map fun f => Jvm.RoadKit.slotOf Z f.1 f.2.1 f.2.2.1).Nodup ∧ ∀ f ∈ q.2, Fld Z h a f.1 f.2.1 f.2.2.1 f.2.2.2
  | .inr q => ∃ c : Cell, Arr Z h a c q.1 ∧ c.slots.toList = q.2 ∧ q.2.length < 2 ^ 31
def oHv (Z : State) (h : Heap) (V : oVw) : Prop := Ext Z.heap h ∧ (V.map Prod.fst).Nodup ∧ ∀ x ∈ V, Z.heap.size ≤ x.1 ∧ oSat Z h x.1 x.2
theorem oSat.ext {Z : State} {h h' : Heap} {a : Addr} {o : oOb} (E : Ext h h') (S : oSat Z h a o) : oSat Z h' a o := by
  cases o with
  | inl q => exact ⟨S.1.ext E, S.2.1, fun f hf => (S.2.2 f hf).ext E⟩
  | inr q => obtain ⟨c, A, r⟩ := S; exact ⟨c, A.ext E, r⟩
theorem oSat.other {Z : State} {h h' : Heap} {a b : Addr} {o : oOb} {sl : Nat} {v : Value} (W : Wr h h' b sl v) (ne : a ≠ b) (S : oSat Z h a o) : oSat Z h' a o := by
  cases o with
  | inl q => exact ⟨S.1.wr W, S.2.1, fun f hf => (S.2.2 f hf).other W (Or.inl ne)⟩
  | inr q => obtain ⟨c, A, r⟩ := S; exact ⟨c, A.other W ne, r⟩
theorem oSat.lt {Z : State} {h : Heap} {a : Addr} {o : oOb} (S : oSat Z h a o) : a < h.size := by
  cases o with
  | inl q => exact S.1.lt
  | inr q => obtain ⟨c, A, r⟩ := S; exact A.lt
theorem oSetSame {α : Type} : ∀ {l : List α} {i : Nat} {x : α}, l[i]? = some x → l.set i x = l
  | [], _, _, h => by simp at h
  | y :: r, 0, x, h => by simp at h; simp [h]
  | y :: r, i + 1, x, h => by simp at h; simp [oSetSame h]
theorem oSetGet {α : Type} {l : List α} {i : Nat} {x y : α} (h : l[i]? = some x) : (l.set i y)[i]? = some y := by
  obtain ⟨hi, -⟩ := List.getElem?_eq_some_iff.mp h
  simp [hi]
theorem oSetNe {α : Type} {l : List α} {i k : Nat} {x y : α} (ne : i ≠ k) (h : l[k]? = some x) : (l.set i y)[k]? = some x := by
  rw [List.getElem?_set_ne ne]; exact h
theorem oAppGet {α : Type} {l r : List α} {i : Nat} {x : α} (h : l[i]? = some x) : (l ++ r)[i]? = some x := by
  obtain ⟨hi, -⟩ := List.getElem?_eq_some_iff.mp h
  rw [List.getElem?_append_left hi]; exact h
theorem oAppLast {α : Type} {l : List α} {x : α} : (l ++ [x])[l.length]? = some x := by simp
theorem oAppSet {α : Type} {l r : List α} {i : Nat} {x y : α} (h : l[i]? = some x) : (l ++ r).set i y = l.set i y ++ r := by
  obtain ⟨hi, -⟩ := List.getElem?_eq_some_iff.mp h
  simp [List.set_append, hi]
theorem oAppSetLast {α : Type} {l : List α} {x y : α} : (l ++ [x]).set l.length y = l ++ [y] := by simp [List.set_append]
theorem oNd {α β : Type} {f : α → β} {l : List α} (nd : (l.map f).Nodup) {i k : Nat} {x y : α} (hi : l[i]? = some x) (hk : l[k]? = some y) (ne : i ≠ k) : f x ≠ f y := by
  intro e
  have h1 : (l.map f)[i]? = some (f x) := by simp [hi]
  have h2 : (l.map f)[k]? = some (f x) := by simp [hk, e]
  obtain ⟨hi', g1⟩ := List.getElem?_eq_some_iff.mp h1
  obtain ⟨hk', g2⟩ := List.getElem?_eq_some_iff.mp h2
  exact ne ((List.getElem_inj nd).mp (g1.trans g2.symm))
theorem oMapSet {α β : Type} {f : α → β} {l : List α} {i : Nat} {x y : α} (hi : l[i]? = some x) (e : f y = f x) : (l.set i y).map f = l.map f := by
  rw [List.map_set]; exact oSetSame (by simp [hi, e])
theorem oMemSet {α : Type} {l : List α} {i : Nat} {y z : α} (h : z ∈ l.set i y) : z = y ∨ ∃ k, k ≠ i ∧ l[k]? = some z := by
  obtain ⟨k, hk⟩ := List.mem_iff_getElem?.mp h
  by_cases e : i = k
  · subst e
    obtain ⟨hi, g⟩ := List.getElem?_eq_some_iff.mp hk
    left; simp at g; exact g.symm
  · right; exact ⟨k, fun q => e q.symm, by rwa [List.getElem?_set_ne e] at hk⟩
theorem oHv.new {Z : State} {h h' : Heap} {V : oVw} {o : oOb} (H : oHv Z h V) (E : Ext h h') (S : oSat Z h' h.size o) : oHv Z h' (V ++ [(h.size, o)]) := by
  obtain ⟨H1, H2, H3⟩ := H
  refine ⟨⟨Nat.le_trans H1.1 E.1, fun a c q => E.2 _ _ (H1.2 _ _ q)⟩, ?_, fun x hx => ?_⟩
  · rw [List.map_append, List.nodup_append]
    refine ⟨H2, by simp, fun a ha b hb => ?_⟩
    simp at hb
    subst hb
    obtain ⟨x, hx, rfl⟩ := List.mem_map.mp ha
    exact Nat.ne_of_lt (H3 x hx).2.lt
  · rcases List.mem_append.mp hx with hx | hx
    · exact ⟨(H3 x hx).1, (H3 x hx).2.ext E⟩
    · simp at hx; subst hx; exact ⟨H1.1, S⟩
theorem oHv.wr {Z : State} {h h' : Heap} {V : oVw} {a : Addr} {o o' : oOb} {i sl : Nat} {v : Value} (H : oHv Z h V) (W : Wr h h' a sl v) (hi : V[i]? = some (a, o)) (S : oSat Z h' a o') : oHv Z h' (V.set i (a, o')) := by
  obtain ⟨H1, H2, H3⟩ := H
  have hm := H3 _ (List.mem_of_getElem? hi)
  refine ⟨(Old.wr (n0 := Z.heap.size) ⟨rfl, H1⟩ W hm.1).2, ?_, fun x hx => ?_⟩
  · rw [oMapSet (y := (a, o')) hi rfl]; exact H2
  · rcases oMemSet hx with rfl | ⟨k, hk, hx⟩
    · exact ⟨hm.1, S⟩
    · have q := H3 _ (List.mem_of_getElem? hx)
      exact ⟨q.1, q.2.other W (oNd H2 hx hi hk)⟩
theorem oSat.wrF {Z : State} {h h' : Heap} {a : Addr} {C O n d : String} {fs : List (String × String × String × Value)} {j : Nat} {v old : Value} (S : oSat Z h a (.inl (C, fs))) (hj : fs[j]? = some (O, n, d, old)) (W : Wr h h' a (Jvm.RoadKit.slotOf Z O n d) v) :
    oSat Z h' a (.inl (C, fs.set j (O, n, d, v))) := by
  obtain ⟨S1, S2, S3⟩ := S
  refine ⟨S1.wr W, ?_, fun f hf => ?_⟩
  · show ((fs.set j (O, n, d, v)).map _).Nodup
    rw [oMapSet (y := (O, n, d, v)) hj rfl]; exact S2
  · rcases oMemSet hf with rfl | ⟨k, hk, hf⟩
    · exact (S3 _ (List.mem_of_getElem? hj)).same W
    · have S2' : (fs.map fun f => Jvm.RoadKit.slotOf Z f.1 f.2.1 f.2.2.1).Nodup := S2
      have q := oNd S2' hf hj hk
      dsimp only at q
      exact (S3 _ (List.mem_of_getElem? hf)).other W (Or.inr q)
theorem oSat.wrA {Z : State} {h h' : Heap} {a : Addr} {ty : FieldType} {vs : List Value} {j : Nat} {v : Value} (S : oSat Z h a (.inr (ty, vs))) (W : Wr h h' a j v) : oSat Z h' a (.inr (ty, vs.set j v)) := by
  obtain ⟨c, A, r1, r2⟩ := S
  refine ⟨_, A.same W, ?_, by rw [List.length_set]; exact r2⟩
  show (c.setSlot j v).slots.toList = _
  simp only [Cell.setSlot, Array.toList_setIfInBounds, r1]
theorem oHv.sat {Z : State} {h : Heap} {V : oVw} {a : Addr} {o : oOb} {i : Nat} (H : oHv Z h V) (hi : V[i]? = some (a, o)) : oSat Z h a o := (H.2.2 _ (List.mem_of_getElem? hi)).2
theorem oHv.ge {Z : State} {h : Heap} {V : oVw} {a : Addr} {o : oOb} {i : Nat} (H : oHv Z h V) (hi : V[i]? = some (a, o)) : Z.heap.size ≤ a := (H.2.2 _ (List.mem_of_getElem? hi)).1
theorem oHv.nil (Z : State) : oHv Z Z.heap [] := ⟨⟨Nat.le_refl _, fun _ _ q => q⟩, List.nodup_nil, fun _ q => nomatch q⟩
/-- the fields of a class, as they are at first -/
def oLay (Z : State) (a0 : Array Value) (C : String) (fs : List (String × String × String × Value)) : Prop := (fs.map fun f => Jvm.RoadKit.slotOf Z f.1 f.2.1 f.2.2.1).Nodup ∧ ∀ f ∈ fs, Laid Z a0 C f.1 f.2.1 f.2.2.1 ∧ ∃ ty, parseFieldDescriptor f.2.2.1 = some ty ∧ f.2.2.2 = defaultValue ty
def oAll {α : Type} (P : α → Prop) : List α → Prop
  | [] => True
  | x :: r => P x ∧ oAll P r
theorem oAll.mem {α : Type} {P : α → Prop} : ∀ {l : List α}, oAll P l → ∀ x ∈ l, P x
  | [], _, _, q => nomatch q
  | y :: r, H, x, q => (List.mem_cons.mp q).elim (fun u => u ▸ H.1) (oAll.mem H.2 x)
theorem oLay.of {Z : State} {a0 : Array Value} {C : String} {fs : List (String × String × String × Value)} (hn : (fs.map fun f => f.2.1).Nodup) (hL : oAll (fun f => Laid Z a0 C f.1 f.2.1 f.2.2.1 ∧ ∃ ty, parseFieldDescriptor f.2.2.1 = some ty ∧ f.2.2.2 = defaultValue ty) fs) : oLay Z a0 C fs := by
  have hL := hL.mem
  refine ⟨?_, hL⟩
  have hn' := List.pairwise_map.mp hn
  refine List.pairwise_map.mpr (List.Pairwise.imp_of_mem (fun {x z} hx hz ne => ?_) hn')
  obtain ⟨L1, t1, p1, -⟩ := hL _ hx
  obtain ⟨L2, t2, p2, -⟩ := hL _ hz
  exact slot_ne L1 L2 ne p1 p2
/-! 2. where the run stands, and where it goes -/
section Walk
variable {p : Program} {l : Launch} {e : Env} {R : Room} {s : State} {m : MethodId} {args : Array Value} {below : List Frame} {meth : Method} {c : Code} {Z : State} {bytes : ByteArray} {own nm : String} {maxL : Nat} {ret : Option FieldType} {T : State} {V V' : oVw} {cells slots c2 s2 : Nat} {Ret : Option Value → oVw → Prop} {a0 : Array Value} {fb fc fk : Bool} {pc q : Nat} {Ls : Array Slot} {st rest : List Value}
def oE (fb : Bool) (p : Program) (l : Launch) (e : Env) (R : Room) (s : State) (m : MethodId) (args : Array Value) (below : List Frame) (meth : Method) (c : Code) (Z : State) (bytes : ByteArray) (own nm : String) (maxL : Nat) (ret : Option FieldType) : Prop :=
  p.tables.exec = Jvm.exec ∧ Z.Warmed39 s.vm ∧ s.vm.findClass own = some m.cls ∧ c.code = bytes ∧ c.maxLocals = maxL ∧ meth.sig.returnType = ret ∧ meth.name = nm ∧ meth.locks = false ∧ (fb = true → s.vm.interned = Z.vm.interned)
def oX (p : Program) (l : Launch) (e : Env) (R : Room) (s : State) (m : MethodId) (args : Array Value) (below : List Frame) (meth : Method) (c : Code) (Z T : State) (V : oVw) (cells slots : Nat) (fk : Bool) : Prop :=
  ∃ locs c' s', c' ≤ cells ∧ s' ≤ slots ∧ (∃ vm0 k0, Stand p l e R (s.setVm vm0) m args below meth c T locs c' s' ∧ s.Since vm0 k0 ∧ k0 ≤ T.heap.size ∧ (fk = true → vm0.interned = s.vm.interned)) ∧ Fr Z.heap.size locs ∧ oHv Z T.heap V
def oG (fb : Bool) (p : Program) (e : Env) (below : List Frame) (s Z : State) (R : Room) (Ret : Option Value → oVw → Prop) (T : State) (g : JFrame) : Prop :=
  ∃ t o, Steps p.tables e below (T.setTop g) t ∧ t.status = .running ∧ Ended t below o ∧ ∃ v L, o = .returned v ∧ (Fr Z.heap.size L ∧ ∃ V', Ret v V' ∧ oHv Z t.heap V') ∧ ReturnedEndW s o t L R.cells R.slots ∧ (fb = false → t.vm.interned = s.vm.interned)
/-- the contract of a method at a view V of the heap -/
def oCon (fb : Bool) (l : Launch) (Z : State) (y : MethodName) (bytes : ByteArray) (maxL : Nat) (ret : Option FieldType) (rm : Room) (as' : Array Value) (V : oVw) (Ret : Option Value → oVw → Prop) : Prop :=
  ∀ (ws : List Jvm.Cond) (h0 : Heap), oHv Z h0 V → MetFree l y (head1 (Jvm.Cond.code y bytes maxL ret :: ws) rm) (fun a U => a = as' ∧ Z.Warmed39 U.vm ∧ U.heap = h0 ∧ (fb = true → U.vm.interned = Z.vm.interned)) (fun _ _ _ _ _ => True) (fun _ U o U' => ∃ v L, o = .returned v ∧ (Fr Z.heap.size L ∧ ∃ V', Ret v V' ∧ oHv Z U'.heap V') ∧ ReturnedEndW U o U' L rm.cells rm.slots ∧ (fb = false → U'.vm.interned = U.vm.interned))
theorem oG.step {T' : State} {g g' : JFrame} (k : ∀ t, Steps p.tables e below (T'.setTop g') t → Steps p.tables e below (T.setTop g) t) (G : oG fb p e below s Z R Ret T' g') : oG fb p e below s Z R Ret T g := by
  obtain ⟨t, o, h1, r⟩ := G; exact ⟨t, o, k t h1, r⟩
theorem oG.steps {T' : State} {g g' : JFrame} (k : Steps p.tables e below (T.setTop g) (T'.setTop g')) (G : oG fb p e below s Z R Ret T' g') : oG fb p e below s Z R Ret T g := by
  obtain ⟨t, o, h1, r⟩ := G; exact ⟨t, o, k.trans h1, r⟩
theorem oX.le (X : oX p l e R s m args below meth c Z T V cells slots fk) (h1 : cells ≤ c2) (h2 : slots ≤ s2) : oX p l e R s m args below meth c Z T V c2 s2 fk := by
  obtain ⟨locs, c', s', q1, q2, r⟩ := X; exact ⟨locs, c', s', Nat.le_trans q1 h1, Nat.le_trans q2 h2, r⟩
theorem oX.hv (X : oX p l e R s m args below meth c Z T V cells slots fk) : oHv Z T.heap V := by
  obtain ⟨_, _, _, _, _, _, _, H⟩ := X; exact H
/-- entering a method -/
theorem oEnter {y : MethodName} {as' : Array Value} {rm : Room} (hpl : plainFor y = true) (hent : ∀ m, entryFrame m as' maxL = mkF m 0 Ls [])
    (body : ∀ p e s m below meth c T, oE fb p l e rm s m as' below meth c Z bytes y.cls y.name maxL ret → oX p l e rm s m as' below meth c Z T V 0 0 true → oG fb p e below s Z rm Ret T (mkF m 0 Ls [])) :
    oCon fb l Z y bytes maxL ret rm as' V Ret := by
  intro ws h0 H
  refine MetFree.of_bodySF hpl hisR ?_
  intro p e s m args below meth c s₁ Bd hml0 hP hK
  obtain ⟨rfl, hZ, hh, hI⟩ := hP
  have e0 : s₁.heap = h0 := by rw [← hh, Bd.state]; rfl
  have G := body p e s m below meth c s₁ ⟨Bd.exec, hZ, findClass_of_methodNamed Bd.named, Bd.bytes, hml0, Bd.returns, (name_of_methodNamed Bd.named Bd.method).1, BodyLoose.notSynchronized Bd, hI⟩ ⟨[], 0, 0, Nat.le_refl _, Nat.le_refl _, ⟨s.vm, 0, (Stand.of_body Bd : Stand p l e rm (s.setVm s.vm) m _ below meth c s₁ [] 0 0), (State.WarmedH.refl s).since 0, Nat.zero_le _, fun _ => rfl⟩, Fr.nil _, e0 ▸ H⟩
  obtain ⟨t, o, h1, r⟩ := G
  exact ⟨t, o, castTop (hent m) h1, r⟩
/-! 3. leaving -/
theorem oWm {vm0 : Vm} {k0 : Nat} (E : oE fb p l e R s m args below meth c Z bytes own nm maxL ret) (hS : s.Since vm0 k0) : Z.Warmed39 (s.setVm vm0).vm := State.Warmed39.trans E.2.1 hS.1
theorem oOw {vm0 : Vm} {k0 : Nat} (E : oE fb p l e R s m args below meth c Z bytes own nm maxL ret) (hS : s.Since vm0 k0) : (s.setVm vm0).vm.findClass own = some m.cls := (hS.1.alike.findClass _ _).trans E.2.2.1
theorem oLeave (E : oE fb p l e R s m args below meth c Z bytes own nm maxL ret) (X : oX p l e R s m args below meth c Z T V cells slots fk) (hc : cells ≤ R.cells) (hs : slots ≤ R.slots) (hF : fb = true ∨ fk = true) {v : Option Value} (hv : meth.sig.returnType = none → v = none) (hR : Ret v V) {g : JFrame}
    (k : ∀ {vm0 locs c' s'}, Stand p l e R (s.setVm vm0) m args below meth c T locs c' s' → ∀ fs, (∀ (f : JFrame) (acts : List Action), f.method = m → f.locked = none → f.entered = [] → (doReturn e (T.setTop f) acts v).1 = T.setFrames fs) → Steps p.tables e below (T.setTop g) (T.setFrames fs)) :
    oG fb p e below s Z R Ret T g := by
  obtain ⟨locs, c', s', q1, q2, ⟨vm0, k0, Y, hS, hk, hJ⟩, N, H⟩ := X
  have hlocks := E.2.2.2.2.2.2.2.1
  obtain ⟨fs, hr, hrun, hended, hW⟩ := Y.leaveW hS hk (v := v) hv hlocks
  exact ⟨_, _, k Y fs hr, hrun, hended, _, _, rfl, ⟨N, _, hR, H⟩, ⟨hW.1, hW.2.1, hW.2.2.1, hW.2.2.2.mono (Nat.le_trans q1 hc) (Nat.le_trans q2 hs)⟩, fun hbf => Y.warmed.interned_eq.trans (hJ (hF.resolve_left fun z => by rw [hbf] at z; cases z))⟩
theorem gRetV (E : oE fb p l e R s m args below meth c Z bytes own nm maxL none) (X : oX p l e R s m args below meth c Z T V cells slots fk) (hd : decode bytes pc = .ok (.return_, 1)) (hc : cells ≤ R.cells) (hs : slots ≤ R.slots) (hF : fb = true ∨ fk = true) (hR : Ret none V) : oG fb p e below s Z R Ret T (mkF m pc Ls []) :=
  oLeave E X hc hs hF (fun _ => rfl) hR fun Y fs hr => Y.returnOut E.1 E.2.2.2.2.2.1 (hb E.2.2.2.1 hd) hr
theorem gRetI (E : oE fb p l e R s m args below meth c Z bytes own nm maxL (some .int)) (X : oX p l e R s m args below meth c Z T V cells slots fk) {z : Int32} (hd : decode bytes pc = .ok (.ireturn, 1)) (hc : cells ≤ R.cells) (hs : slots ≤ R.slots) (hF : fb = true ∨ fk = true) (hR : Ret (some (.int z)) V) : oG fb p e below s Z R Ret T (mkF m pc Ls (.int z :: rest)) :=
  oLeave E X hc hs hF (fun h => by rw [E.2.2.2.2.2.1] at h; cases h) hR fun Y fs hr => retOut Y E.1 E.2.2.2.2.2.1 rfl (Or.inl ⟨rfl, Or.inl rfl, _, rfl⟩) (hb E.2.2.2.1 hd) hr
theorem gRetN {t : FieldType} (E : oE fb p l e R s m args below meth c Z bytes own nm maxL (some t)) (X : oX p l e R s m args below meth c Z T V cells slots fk) (ht : t = .boolean ∨ t = .byte ∨ t = .char ∨ t = .short) {z : Int32} (hd : decode bytes pc = .ok (.ireturn, 1)) (hc : cells ≤ R.cells) (hs : slots ≤ R.slots) (hF : fb = true ∨ fk = true) (hR : Ret (some (.int (nar t z))) V) : oG fb p e below s Z R Ret T (mkF m pc Ls (.int z :: rest)) :=
  oLeave E X hc hs hF (fun h => by rw [E.2.2.2.2.2.1] at h; cases h) hR fun Y fs hr => retN Y E.1 E.2.2.2.2.2.1 ht (hb E.2.2.2.1 hd) hr
theorem gRetJ (E : oE fb p l e R s m args below meth c Z bytes own nm maxL (some .long)) (X : oX p l e R s m args below meth c Z T V cells slots fk) {z : Int64} (hd : decode bytes pc = .ok (.lreturn, 1)) (hc : cells ≤ R.cells) (hs : slots ≤ R.slots) (hF : fb = true ∨ fk = true) (hR : Ret (some (.long z)) V) : oG fb p e below s Z R Ret T (mkF m pc Ls (.long z :: rest)) :=
  oLeave E X hc hs hF (fun h => by rw [E.2.2.2.2.2.1] at h; cases h) hR fun Y fs hr => retOut Y E.1 E.2.2.2.2.2.1 rfl (Or.inr (Or.inl ⟨rfl, rfl, _, rfl⟩)) (hb E.2.2.2.1 hd) hr
theorem gRetA {t : FieldType} (E : oE fb p l e R s m args below meth c Z bytes own nm maxL (some t)) (X : oX p l e R s m args below meth c Z T V cells slots fk) (ht : t.isReference = true) {v : Value} (hd : decode bytes pc = .ok (.areturn, 1)) (hc : cells ≤ R.cells) (hs : slots ≤ R.slots) (hF : fb = true ∨ fk = true) (hv : v.isRef = true) (hn : narrow t v = v) (hR : Ret (some v) V) : oG fb p e below s Z R Ret T (mkF m pc Ls (v :: rest)) :=
  oLeave E X hc hs hF (fun h => by rw [E.2.2.2.2.2.1] at h; cases h) hR fun Y fs hr => retOut Y E.1 E.2.2.2.2.2.1 hn (Or.inr (Or.inr (Or.inr (Or.inr ⟨rfl, ht, hv⟩)))) (hb E.2.2.2.1 hd) hr
/-! 4. single steps -/
theorem gAloadN (E : oE fb p l e R s m args below meth c Z bytes own nm maxL ret) (X : oX p l e R s m args below meth c Z T V cells slots fk) {k : Fin 4} {v : Value} (hd : decode bytes pc = .ok (.aload_n k, 1)) (hl : Ls[k.val]? = some (.val v)) (hv : v.isRef = true) (hp : pc + 1 = q) (G : oG fb p e below s Z R Ret T (mkF m q Ls (v :: st))) : oG fb p e below s Z R Ret T (mkF m pc Ls st) := by
  subst hp ; obtain ⟨_, _, _, _, _, ⟨vm0, k0, Y, hS, hk, hJ⟩, _⟩ := X; exact G.step fun t k => XS.aloadN Y.here E.1 rfl (hb E.2.2.2.1 hd) hl hv k
theorem gAload (E : oE fb p l e R s m args below meth c Z bytes own nm maxL ret) (X : oX p l e R s m args below meth c Z T V cells slots fk) {k : Nat} {v : Value} (hd : decode bytes pc = .ok (.aload k, 2)) (hl : Ls[k]? = some (.val v)) (hv : v.isRef = true) (hp : pc + 2 = q) (G : oG fb p e below s Z R Ret T (mkF m q Ls (v :: st))) : oG fb p e below s Z R Ret T (mkF m pc Ls st) := by
  subst hp ; obtain ⟨_, _, _, _, _, ⟨vm0, k0, Y, hS, hk, hJ⟩, _⟩ := X; exact G.step fun t k => XS.aload Y.here E.1 rfl (hb E.2.2.2.1 hd) hl hv k
theorem gIloadN (E : oE fb p l e R s m args below meth c Z bytes own nm maxL ret) (X : oX p l e R s m args below meth c Z T V cells slots fk) {k : Fin 4} {v : Int32} (hd : decode bytes pc = .ok (.iload_n k, 1)) (hl : Ls[k.val]? = some (.val (.int v))) (hp : pc + 1 = q) (G : oG fb p e below s Z R Ret T (mkF m q Ls (.int v :: st))) : oG fb p e below s Z R Ret T (mkF m pc Ls st) := by
  subst hp ; obtain ⟨_, _, _, _, _, ⟨vm0, k0, Y, hS, hk, hJ⟩, _⟩ := X; exact G.step fun t k => XS.iloadN Y.here E.1 rfl (hb E.2.2.2.1 hd) hl k
theorem gIload (E : oE fb p l e R s m args below meth c Z bytes own nm maxL ret) (X : oX p l e R s m args below meth c Z T V cells slots fk) {k : Nat} {v : Int32} (hd : decode bytes pc = .ok (.iload k, 2)) (hl : Ls[k]? = some (.val (.int v))) (hp : pc + 2 = q) (G : oG fb p e below s Z R Ret T (mkF m q Ls (.int v :: st))) : oG fb p e below s Z R Ret T (mkF m pc Ls st) := by
  subst hp ; obtain ⟨_, _, _, _, _, ⟨vm0, k0, Y, hS, hk, hJ⟩, _⟩ := X; exact G.step fun t k => XS.iload Y.here E.1 rfl (hb E.2.2.2.1 hd) hl k
theorem gLloadN (E : oE fb p l e R s m args below meth c Z bytes own nm maxL ret) (X : oX p l e R s m args below meth c Z T V cells slots fk) {k : Fin 4} {v : Int64} (hd : decode bytes pc = .ok (.lload_n k, 1)) (hl : Ls[k.val]? = some (.val (.long v))) (hp : pc + 1 = q) (G : oG fb p e below s Z R Ret T (mkF m q Ls (.long v :: st))) : oG fb p e below s Z R Ret T (mkF m pc Ls st) := by
  subst hp ; obtain ⟨_, _, _, _, _, ⟨vm0, k0, Y, hS, hk, hJ⟩, _⟩ := X; exact G.step fun t k => XT.lloadN Y.here E.1 rfl (hb E.2.2.2.1 hd) hl k
theorem gLload (E : oE fb p l e R s m args below meth c Z bytes own nm maxL ret) (X : oX p l e R s m args below meth c Z T V cells slots fk) {k : Nat} {v : Int64} (hd : decode bytes pc = .ok (.lload k, 2)) (hl : Ls[k]? = some (.val (.long v))) (hp : pc + 2 = q) (G : oG fb p e below s Z R Ret T (mkF m q Ls (.long v :: st))) : oG fb p e below s Z R Ret T (mkF m pc Ls st) := by
  subst hp ; obtain ⟨_, _, _, _, _, ⟨vm0, k0, Y, hS, hk, hJ⟩, _⟩ := X; exact G.step fun t k => XT.lload Y.here E.1 rfl (hb E.2.2.2.1 hd) hl k
theorem gIconst (E : oE fb p l e R s m args below meth c Z bytes own nm maxL ret) (X : oX p l e R s m args below meth c Z T V cells slots fk) {i : Int} {v : Int32} (hd : decode bytes pc = .ok (.iconst i, 1)) (hv : Int32.ofInt i = v) (hp : pc + 1 = q) (G : oG fb p e below s Z R Ret T (mkF m q Ls (.int v :: st))) : oG fb p e below s Z R Ret T (mkF m pc Ls st) := by
  subst hp ; obtain ⟨_, _, _, _, _, ⟨vm0, k0, Y, hS, hk, hJ⟩, _⟩ := X; exact G.step fun t k => XT.iconstV Y.here E.1 rfl v (hb E.2.2.2.1 hd) hv k
theorem gBipush (E : oE fb p l e R s m args below meth c Z bytes own nm maxL ret) (X : oX p l e R s m args below meth c Z T V cells slots fk) {i : Int} {v : Int32} (hd : decode bytes pc = .ok (.bipush i, 2)) (hv : (Int8.ofInt i).toInt32 = v) (hp : pc + 2 = q) (G : oG fb p e below s Z R Ret T (mkF m q Ls (.int v :: st))) : oG fb p e below s Z R Ret T (mkF m pc Ls st) := by
  subst hp ; obtain ⟨_, _, _, _, _, ⟨vm0, k0, Y, hS, hk, hJ⟩, _⟩ := X; exact G.step fun t k => XT.bipushV Y.here E.1 rfl v (hb E.2.2.2.1 hd) hv k
theorem gSipush (E : oE fb p l e R s m args below meth c Z bytes own nm maxL ret) (X : oX p l e R s m args below meth c Z T V cells slots fk) {i : Int} {v : Int32} (hd : decode bytes pc = .ok (.sipush i, 3)) (hv : (Int16.ofInt i).toInt32 = v) (hp : pc + 3 = q) (G : oG fb p e below s Z R Ret T (mkF m q Ls (.int v :: st))) : oG fb p e below s Z R Ret T (mkF m pc Ls st) := by
  subst hp ; obtain ⟨_, _, _, _, _, ⟨vm0, k0, Y, hS, hk, hJ⟩, _⟩ := X; exact G.step fun t k => XT.sipushV Y.here E.1 rfl v (hb E.2.2.2.1 hd) hv k
theorem gLconst (E : oE fb p l e R s m args below meth c Z bytes own nm maxL ret) (X : oX p l e R s m args below meth c Z T V cells slots fk) {i : Fin 2} {v : Int64} (hd : decode bytes pc = .ok (.lconst i, 1)) (hv : Int64.ofNat i = v) (hp : pc + 1 = q) (G : oG fb p e below s Z R Ret T (mkF m q Ls (.long v :: st))) : oG fb p e below s Z R Ret T (mkF m pc Ls st) := by
  subst hp ; obtain ⟨_, _, _, _, _, ⟨vm0, k0, Y, hS, hk, hJ⟩, _⟩ := X; exact G.step fun t k => XT.lconstV Y.here E.1 rfl v (hb E.2.2.2.1 hd) hv k
theorem gNull (E : oE fb p l e R s m args below meth c Z bytes own nm maxL ret) (X : oX p l e R s m args below meth c Z T V cells slots fk)  (hd : decode bytes pc = .ok (.aconst_null, 1))  (hp : pc + 1 = q) (G : oG fb p e below s Z R Ret T (mkF m q Ls (.null :: st))) : oG fb p e below s Z R Ret T (mkF m pc Ls st) := by
  subst hp ; obtain ⟨_, _, _, _, _, ⟨vm0, k0, Y, hS, hk, hJ⟩, _⟩ := X; exact G.step fun t k => XS.aconstNull Y.here E.1 rfl (hb E.2.2.2.1 hd) k
theorem gIadd (E : oE fb p l e R s m args below meth c Z bytes own nm maxL ret) (X : oX p l e R s m args below meth c Z T V cells slots fk) {x y z : Int32} (hd : decode bytes pc = .ok (.iadd, 1)) (hz : (x + y) = z) (hp : pc + 1 = q) (G : oG fb p e below s Z R Ret T (mkF m q Ls (.int z :: st))) : oG fb p e below s Z R Ret T (mkF m pc Ls (.int y :: .int x :: st)) := by
  subst hp hz; obtain ⟨_, _, _, _, _, ⟨vm0, k0, Y, hS, hk, hJ⟩, _⟩ := X; exact G.step fun t k => XS.iadd Y.here E.1 rfl (hb E.2.2.2.1 hd) rfl k
theorem gIsub (E : oE fb p l e R s m args below meth c Z bytes own nm maxL ret) (X : oX p l e R s m args below meth c Z T V cells slots fk) {x y z : Int32} (hd : decode bytes pc = .ok (.isub, 1)) (hz : (x - y) = z) (hp : pc + 1 = q) (G : oG fb p e below s Z R Ret T (mkF m q Ls (.int z :: st))) : oG fb p e below s Z R Ret T (mkF m pc Ls (.int y :: .int x :: st)) := by
  subst hp hz; obtain ⟨_, _, _, _, _, ⟨vm0, k0, Y, hS, hk, hJ⟩, _⟩ := X; exact G.step fun t k => XS.isub Y.here E.1 rfl (hb E.2.2.2.1 hd) rfl k
theorem gIand (E : oE fb p l e R s m args below meth c Z bytes own nm maxL ret) (X : oX p l e R s m args below meth c Z T V cells slots fk) {x y z : Int32} (hd : decode bytes pc = .ok (.iand, 1)) (hz : (x &&& y) = z) (hp : pc + 1 = q) (G : oG fb p e below s Z R Ret T (mkF m q Ls (.int z :: st))) : oG fb p e below s Z R Ret T (mkF m pc Ls (.int y :: .int x :: st)) := by
  subst hp hz; obtain ⟨_, _, _, _, _, ⟨vm0, k0, Y, hS, hk, hJ⟩, _⟩ := X; exact G.step fun t k => XS.iand Y.here E.1 rfl (hb E.2.2.2.1 hd) rfl k
theorem gImul (E : oE fb p l e R s m args below meth c Z bytes own nm maxL ret) (X : oX p l e R s m args below meth c Z T V cells slots fk) {x y z : Int32} (hd : decode bytes pc = .ok (.imul, 1)) (hz : (x * y) = z) (hp : pc + 1 = q) (G : oG fb p e below s Z R Ret T (mkF m q Ls (.int z :: st))) : oG fb p e below s Z R Ret T (mkF m pc Ls (.int y :: .int x :: st)) := by
  subst hp hz; obtain ⟨_, _, _, _, _, ⟨vm0, k0, Y, hS, hk, hJ⟩, _⟩ := X; exact G.step fun t k => XS.imul Y.here E.1 rfl (hb E.2.2.2.1 hd) rfl k
theorem gIxor (E : oE fb p l e R s m args below meth c Z bytes own nm maxL ret) (X : oX p l e R s m args below meth c Z T V cells slots fk) {x y z : Int32} (hd : decode bytes pc = .ok (.ixor, 1)) (hz : (x ^^^ y) = z) (hp : pc + 1 = q) (G : oG fb p e below s Z R Ret T (mkF m q Ls (.int z :: st))) : oG fb p e below s Z R Ret T (mkF m pc Ls (.int y :: .int x :: st)) := by
  subst hp hz; obtain ⟨_, _, _, _, _, ⟨vm0, k0, Y, hS, hk, hJ⟩, _⟩ := X; exact G.step fun t k => XT.ixor Y.here E.1 rfl (hb E.2.2.2.1 hd) rfl k
theorem gIor (E : oE fb p l e R s m args below meth c Z bytes own nm maxL ret) (X : oX p l e R s m args below meth c Z T V cells slots fk) {x y z : Int32} (hd : decode bytes pc = .ok (.ior, 1)) (hz : (x ||| y) = z) (hp : pc + 1 = q) (G : oG fb p e below s Z R Ret T (mkF m q Ls (.int z :: st))) : oG fb p e below s Z R Ret T (mkF m pc Ls (.int y :: .int x :: st)) := by
  subst hp hz; obtain ⟨_, _, _, _, _, ⟨vm0, k0, Y, hS, hk, hJ⟩, _⟩ := X; exact G.step fun t k => XT.ior Y.here E.1 rfl (hb E.2.2.2.1 hd) rfl k
theorem gIshl (E : oE fb p l e R s m args below meth c Z bytes own nm maxL ret) (X : oX p l e R s m args below meth c Z T V cells slots fk) {x y z : Int32} (hd : decode bytes pc = .ok (.ishl, 1)) (hz : (x <<< (y &&& 31)) = z) (hp : pc + 1 = q) (G : oG fb p e below s Z R Ret T (mkF m q Ls (.int z :: st))) : oG fb p e below s Z R Ret T (mkF m pc Ls (.int y :: .int x :: st)) := by
  subst hp hz; obtain ⟨_, _, _, _, _, ⟨vm0, k0, Y, hS, hk, hJ⟩, _⟩ := X; exact G.step fun t k => XT.ishl Y.here E.1 rfl (hb E.2.2.2.1 hd) rfl k
theorem gIshr (E : oE fb p l e R s m args below meth c Z bytes own nm maxL ret) (X : oX p l e R s m args below meth c Z T V cells slots fk) {x y z : Int32} (hd : decode bytes pc = .ok (.ishr, 1)) (hz : (x >>> (y &&& 31)) = z) (hp : pc + 1 = q) (G : oG fb p e below s Z R Ret T (mkF m q Ls (.int z :: st))) : oG fb p e below s Z R Ret T (mkF m pc Ls (.int y :: .int x :: st)) := by
  subst hp hz; obtain ⟨_, _, _, _, _, ⟨vm0, k0, Y, hS, hk, hJ⟩, _⟩ := X; exact G.step fun t k => XT.ishr Y.here E.1 rfl (hb E.2.2.2.1 hd) rfl k
theorem gIushr (E : oE fb p l e R s m args below meth c Z bytes own nm maxL ret) (X : oX p l e R s m args below meth c Z T V cells slots fk) {x y z : Int32} (hd : decode bytes pc = .ok (.iushr, 1)) (hz : (XT.ushr x y) = z) (hp : pc + 1 = q) (G : oG fb p e below s Z R Ret T (mkF m q Ls (.int z :: st))) : oG fb p e below s Z R Ret T (mkF m pc Ls (.int y :: .int x :: st)) := by
  subst hp hz; obtain ⟨_, _, _, _, _, ⟨vm0, k0, Y, hS, hk, hJ⟩, _⟩ := X; exact G.step fun t k => XT.iushr Y.here E.1 rfl (hb E.2.2.2.1 hd) rfl k
theorem gIdiv (E : oE fb p l e R s m args below meth c Z bytes own nm maxL ret) (X : oX p l e R s m args below meth c Z T V cells slots fk) {x y z : Int32} (hd : decode bytes pc = .ok (.idiv, 1)) (hy : y ≠ 0) (hz : (x / y) = z) (hp : pc + 1 = q) (G : oG fb p e below s Z R Ret T (mkF m q Ls (.int z :: st))) : oG fb p e below s Z R Ret T (mkF m pc Ls (.int y :: .int x :: st)) := by
  subst hp hz; obtain ⟨_, _, _, _, _, ⟨vm0, k0, Y, hS, hk, hJ⟩, _⟩ := X; exact G.step fun t k => XS.idiv Y.here E.1 rfl (hb E.2.2.2.1 hd) rfl hy k
theorem gIrem (E : oE fb p l e R s m args below meth c Z bytes own nm maxL ret) (X : oX p l e R s m args below meth c Z T V cells slots fk) {x y z : Int32} (hd : decode bytes pc = .ok (.irem, 1)) (hy : y ≠ 0) (hz : (x - x / y * y) = z) (hp : pc + 1 = q) (G : oG fb p e below s Z R Ret T (mkF m q Ls (.int z :: st))) : oG fb p e below s Z R Ret T (mkF m pc Ls (.int y :: .int x :: st)) := by
  subst hp hz; obtain ⟨_, _, _, _, _, ⟨vm0, k0, Y, hS, hk, hJ⟩, _⟩ := X; exact G.step fun t k => XS.irem Y.here E.1 rfl (hb E.2.2.2.1 hd) rfl hy k
theorem gIneg (E : oE fb p l e R s m args below meth c Z bytes own nm maxL ret) (X : oX p l e R s m args below meth c Z T V cells slots fk) {x z : Int32} (hd : decode bytes pc = .ok (.ineg, 1)) (hz : (-x) = z) (hp : pc + 1 = q) (G : oG fb p e below s Z R Ret T (mkF m q Ls (.int z :: st))) : oG fb p e below s Z R Ret T (mkF m pc Ls (.int x :: st)) := by
  subst hp hz; obtain ⟨_, _, _, _, _, ⟨vm0, k0, Y, hS, hk, hJ⟩, _⟩ := X; exact G.step fun t k => XS.ineg Y.here E.1 rfl (hb E.2.2.2.1 hd) rfl k
theorem gLadd (E : oE fb p l e R s m args below meth c Z bytes own nm maxL ret) (X : oX p l e R s m args below meth c Z T V cells slots fk) {x y z : Int64} (hd : decode bytes pc = .ok (.ladd, 1)) (hz : (x + y) = z) (hp : pc + 1 = q) (G : oG fb p e below s Z R Ret T (mkF m q Ls (.long z :: st))) : oG fb p e below s Z R Ret T (mkF m pc Ls (.long y :: .long x :: st)) := by
  subst hp hz; obtain ⟨_, _, _, _, _, ⟨vm0, k0, Y, hS, hk, hJ⟩, _⟩ := X; exact G.step fun t k => XT.ladd Y.here E.1 rfl (hb E.2.2.2.1 hd) rfl k
theorem gLsub (E : oE fb p l e R s m args below meth c Z bytes own nm maxL ret) (X : oX p l e R s m args below meth c Z T V cells slots fk) {x y z : Int64} (hd : decode bytes pc = .ok (.lsub, 1)) (hz : (x - y) = z) (hp : pc + 1 = q) (G : oG fb p e below s Z R Ret T (mkF m q Ls (.long z :: st))) : oG fb p e below s Z R Ret T (mkF m pc Ls (.long y :: .long x :: st)) := by
  subst hp hz; obtain ⟨_, _, _, _, _, ⟨vm0, k0, Y, hS, hk, hJ⟩, _⟩ := X; exact G.step fun t k => XT.lsub Y.here E.1 rfl (hb E.2.2.2.1 hd) rfl k
theorem gLmul (E : oE fb p l e R s m args below meth c Z bytes own nm maxL ret) (X : oX p l e R s m args below meth c Z T V cells slots fk) {x y z : Int64} (hd : decode bytes pc = .ok (.lmul, 1)) (hz : (x * y) = z) (hp : pc + 1 = q) (G : oG fb p e below s Z R Ret T (mkF m q Ls (.long z :: st))) : oG fb p e below s Z R Ret T (mkF m pc Ls (.long y :: .long x :: st)) := by
  subst hp hz; obtain ⟨_, _, _, _, _, ⟨vm0, k0, Y, hS, hk, hJ⟩, _⟩ := X; exact G.step fun t k => XT.lmul Y.here E.1 rfl (hb E.2.2.2.1 hd) rfl k
theorem gLand (E : oE fb p l e R s m args below meth c Z bytes own nm maxL ret) (X : oX p l e R s m args below meth c Z T V cells slots fk) {x y z : Int64} (hd : decode bytes pc = .ok (.land, 1)) (hz : (x &&& y) = z) (hp : pc + 1 = q) (G : oG fb p e below s Z R Ret T (mkF m q Ls (.long z :: st))) : oG fb p e below s Z R Ret T (mkF m pc Ls (.long y :: .long x :: st)) := by
  subst hp hz; obtain ⟨_, _, _, _, _, ⟨vm0, k0, Y, hS, hk, hJ⟩, _⟩ := X; exact G.step fun t k => XT.land Y.here E.1 rfl (hb E.2.2.2.1 hd) rfl k
theorem gLor (E : oE fb p l e R s m args below meth c Z bytes own nm maxL ret) (X : oX p l e R s m args below meth c Z T V cells slots fk) {x y z : Int64} (hd : decode bytes pc = .ok (.lor, 1)) (hz : (x ||| y) = z) (hp : pc + 1 = q) (G : oG fb p e below s Z R Ret T (mkF m q Ls (.long z :: st))) : oG fb p e below s Z R Ret T (mkF m pc Ls (.long y :: .long x :: st)) := by
  subst hp hz; obtain ⟨_, _, _, _, _, ⟨vm0, k0, Y, hS, hk, hJ⟩, _⟩ := X; exact G.step fun t k => XT.lor Y.here E.1 rfl (hb E.2.2.2.1 hd) rfl k
theorem gLxor (E : oE fb p l e R s m args below meth c Z bytes own nm maxL ret) (X : oX p l e R s m args below meth c Z T V cells slots fk) {x y z : Int64} (hd : decode bytes pc = .ok (.lxor, 1)) (hz : (x ^^^ y) = z) (hp : pc + 1 = q) (G : oG fb p e below s Z R Ret T (mkF m q Ls (.long z :: st))) : oG fb p e below s Z R Ret T (mkF m pc Ls (.long y :: .long x :: st)) := by
  subst hp hz; obtain ⟨_, _, _, _, _, ⟨vm0, k0, Y, hS, hk, hJ⟩, _⟩ := X; exact G.step fun t k => XT.lxor Y.here E.1 rfl (hb E.2.2.2.1 hd) rfl k
theorem gLdiv (E : oE fb p l e R s m args below meth c Z bytes own nm maxL ret) (X : oX p l e R s m args below meth c Z T V cells slots fk) {x y z : Int64} (hd : decode bytes pc = .ok (.ldiv, 1)) (hy : y ≠ 0) (hz : (x / y) = z) (hp : pc + 1 = q) (G : oG fb p e below s Z R Ret T (mkF m q Ls (.long z :: st))) : oG fb p e below s Z R Ret T (mkF m pc Ls (.long y :: .long x :: st)) := by
  subst hp hz; obtain ⟨_, _, _, _, _, ⟨vm0, k0, Y, hS, hk, hJ⟩, _⟩ := X; exact G.step fun t k => XT.ldiv Y.here E.1 rfl (hb E.2.2.2.1 hd) rfl hy k
theorem gLrem (E : oE fb p l e R s m args below meth c Z bytes own nm maxL ret) (X : oX p l e R s m args below meth c Z T V cells slots fk) {x y z : Int64} (hd : decode bytes pc = .ok (.lrem, 1)) (hy : y ≠ 0) (hz : (x - x / y * y) = z) (hp : pc + 1 = q) (G : oG fb p e below s Z R Ret T (mkF m q Ls (.long z :: st))) : oG fb p e below s Z R Ret T (mkF m pc Ls (.long y :: .long x :: st)) := by
  subst hp hz; obtain ⟨_, _, _, _, _, ⟨vm0, k0, Y, hS, hk, hJ⟩, _⟩ := X; exact G.step fun t k => XT.lrem Y.here E.1 rfl (hb E.2.2.2.1 hd) rfl hy k
theorem gLneg (E : oE fb p l e R s m args below meth c Z bytes own nm maxL ret) (X : oX p l e R s m args below meth c Z T V cells slots fk) {x z : Int64} (hd : decode bytes pc = .ok (.lneg, 1)) (hz : (-x) = z) (hp : pc + 1 = q) (G : oG fb p e below s Z R Ret T (mkF m q Ls (.long z :: st))) : oG fb p e below s Z R Ret T (mkF m pc Ls (.long x :: st)) := by
  subst hp hz; obtain ⟨_, _, _, _, _, ⟨vm0, k0, Y, hS, hk, hJ⟩, _⟩ := X; exact G.step fun t k => XT.lneg Y.here E.1 rfl (hb E.2.2.2.1 hd) rfl k
theorem gLshl (E : oE fb p l e R s m args below meth c Z bytes own nm maxL ret) (X : oX p l e R s m args below meth c Z T V cells slots fk) {x z : Int64} {y : Int32} (hd : decode bytes pc = .ok (.lshl, 1)) (hz : (x <<< (y.toInt64 &&& 63)) = z) (hp : pc + 1 = q) (G : oG fb p e below s Z R Ret T (mkF m q Ls (.long z :: st))) : oG fb p e below s Z R Ret T (mkF m pc Ls (.int y :: .long x :: st)) := by
  subst hp hz; obtain ⟨_, _, _, _, _, ⟨vm0, k0, Y, hS, hk, hJ⟩, _⟩ := X; exact G.step fun t k => XT.lshl Y.here E.1 rfl (hb E.2.2.2.1 hd) rfl k
theorem gLshr (E : oE fb p l e R s m args below meth c Z bytes own nm maxL ret) (X : oX p l e R s m args below meth c Z T V cells slots fk) {x z : Int64} {y : Int32} (hd : decode bytes pc = .ok (.lshr, 1)) (hz : (x >>> (y.toInt64 &&& 63)) = z) (hp : pc + 1 = q) (G : oG fb p e below s Z R Ret T (mkF m q Ls (.long z :: st))) : oG fb p e below s Z R Ret T (mkF m pc Ls (.int y :: .long x :: st)) := by
  subst hp hz; obtain ⟨_, _, _, _, _, ⟨vm0, k0, Y, hS, hk, hJ⟩, _⟩ := X; exact G.step fun t k => XT.lshr Y.here E.1 rfl (hb E.2.2.2.1 hd) rfl k
theorem gLushr (E : oE fb p l e R s m args below meth c Z bytes own nm maxL ret) (X : oX p l e R s m args below meth c Z T V cells slots fk) {x z : Int64} {y : Int32} (hd : decode bytes pc = .ok (.lushr, 1)) (hz : (XT.ushrL x y) = z) (hp : pc + 1 = q) (G : oG fb p e below s Z R Ret T (mkF m q Ls (.long z :: st))) : oG fb p e below s Z R Ret T (mkF m pc Ls (.int y :: .long x :: st)) := by
  subst hp hz; obtain ⟨_, _, _, _, _, ⟨vm0, k0, Y, hS, hk, hJ⟩, _⟩ := X; exact G.step fun t k => XT.lushr Y.here E.1 rfl (hb E.2.2.2.1 hd) rfl k
theorem gLcmp (E : oE fb p l e R s m args below meth c Z bytes own nm maxL ret) (X : oX p l e R s m args below meth c Z T V cells slots fk) {x y : Int64} (hd : decode bytes pc = .ok (.lcmp, 1))  (hp : pc + 1 = q) (G : oG fb p e below s Z R Ret T (mkF m q Ls (.int (XT.cmpL x y) :: st))) : oG fb p e below s Z R Ret T (mkF m pc Ls (.long y :: .long x :: st)) := by
  subst hp ; obtain ⟨_, _, _, _, _, ⟨vm0, k0, Y, hS, hk, hJ⟩, _⟩ := X; exact G.step fun t k => XT.lcmp Y.here E.1 rfl (hb E.2.2.2.1 hd) rfl k
theorem gI2l (E : oE fb p l e R s m args below meth c Z bytes own nm maxL ret) (X : oX p l e R s m args below meth c Z T V cells slots fk) {x : Int32} {z : Int64} (hd : decode bytes pc = .ok (.i2l, 1)) (hz : x.toInt64 = z) (hp : pc + 1 = q) (G : oG fb p e below s Z R Ret T (mkF m q Ls (.long z :: st))) : oG fb p e below s Z R Ret T (mkF m pc Ls (.int x :: st)) := by
  subst hp hz; obtain ⟨_, _, _, _, _, ⟨vm0, k0, Y, hS, hk, hJ⟩, _⟩ := X; exact G.step fun t k => XT.i2l Y.here E.1 rfl (hb E.2.2.2.1 hd) rfl k
theorem gL2i (E : oE fb p l e R s m args below meth c Z bytes own nm maxL ret) (X : oX p l e R s m args below meth c Z T V cells slots fk) {x : Int64} {z : Int32} (hd : decode bytes pc = .ok (.l2i, 1)) (hz : x.toInt32 = z) (hp : pc + 1 = q) (G : oG fb p e below s Z R Ret T (mkF m q Ls (.int z :: st))) : oG fb p e below s Z R Ret T (mkF m pc Ls (.long x :: st)) := by
  subst hp hz; obtain ⟨_, _, _, _, _, ⟨vm0, k0, Y, hS, hk, hJ⟩, _⟩ := X; exact G.step fun t k => XT.l2i Y.here E.1 rfl (hb E.2.2.2.1 hd) rfl k
theorem gI2b (E : oE fb p l e R s m args below meth c Z bytes own nm maxL ret) (X : oX p l e R s m args below meth c Z T V cells slots fk) {x z : Int32} (hd : decode bytes pc = .ok (.i2b, 1)) (hz : x.toInt8.toInt32 = z) (hp : pc + 1 = q) (G : oG fb p e below s Z R Ret T (mkF m q Ls (.int z :: st))) : oG fb p e below s Z R Ret T (mkF m pc Ls (.int x :: st)) := by
  subst hp hz; obtain ⟨_, _, _, _, _, ⟨vm0, k0, Y, hS, hk, hJ⟩, _⟩ := X; exact G.step fun t k => XT.i2b Y.here E.1 rfl (hb E.2.2.2.1 hd) rfl k
theorem gI2c (E : oE fb p l e R s m args below meth c Z bytes own nm maxL ret) (X : oX p l e R s m args below meth c Z T V cells slots fk) {x z : Int32} (hd : decode bytes pc = .ok (.i2c, 1)) (hz : x.toUInt32.toUInt16.toUInt32.toInt32 = z) (hp : pc + 1 = q) (G : oG fb p e below s Z R Ret T (mkF m q Ls (.int z :: st))) : oG fb p e below s Z R Ret T (mkF m pc Ls (.int x :: st)) := by
  subst hp hz; obtain ⟨_, _, _, _, _, ⟨vm0, k0, Y, hS, hk, hJ⟩, _⟩ := X; exact G.step fun t k => XT.i2c Y.here E.1 rfl (hb E.2.2.2.1 hd) rfl k
theorem gI2s (E : oE fb p l e R s m args below meth c Z bytes own nm maxL ret) (X : oX p l e R s m args below meth c Z T V cells slots fk) {x z : Int32} (hd : decode bytes pc = .ok (.i2s, 1)) (hz : x.toInt16.toInt32 = z) (hp : pc + 1 = q) (G : oG fb p e below s Z R Ret T (mkF m q Ls (.int z :: st))) : oG fb p e below s Z R Ret T (mkF m pc Ls (.int x :: st)) := by
  subst hp hz; obtain ⟨_, _, _, _, _, ⟨vm0, k0, Y, hS, hk, hJ⟩, _⟩ := X; exact G.step fun t k => XT.i2s Y.here E.1 rfl (hb E.2.2.2.1 hd) rfl k
theorem gDup (E : oE fb p l e R s m args below meth c Z bytes own nm maxL ret) (X : oX p l e R s m args below meth c Z T V cells slots fk) {v : Value} (hd : decode bytes pc = .ok (.dup, 1)) (hc : v.category = 1) (hp : pc + 1 = q) (G : oG fb p e below s Z R Ret T (mkF m q Ls (v :: v :: st))) : oG fb p e below s Z R Ret T (mkF m pc Ls (v :: st)) := by
  subst hp ; obtain ⟨_, _, _, _, _, ⟨vm0, k0, Y, hS, hk, hJ⟩, _⟩ := X; exact G.step fun t k => XS.dup Y.here E.1 rfl (hb E.2.2.2.1 hd) rfl hc k
theorem gPop (E : oE fb p l e R s m args below meth c Z bytes own nm maxL ret) (X : oX p l e R s m args below meth c Z T V cells slots fk) {v : Value} (hd : decode bytes pc = .ok (.pop, 1)) (hc : v.category = 1) (hp : pc + 1 = q) (G : oG fb p e below s Z R Ret T (mkF m q Ls st)) : oG fb p e below s Z R Ret T (mkF m pc Ls (v :: st)) := by
  subst hp ; obtain ⟨_, _, _, _, _, ⟨vm0, k0, Y, hS, hk, hJ⟩, _⟩ := X; exact G.step fun t k => XT.pop Y.here E.1 rfl (hb E.2.2.2.1 hd) rfl hc k
theorem gDupX1 (E : oE fb p l e R s m args below meth c Z bytes own nm maxL ret) (X : oX p l e R s m args below meth c Z T V cells slots fk) {v w : Value} (hd : decode bytes pc = .ok (.dup_x1, 1)) (hc : v.category = 1) (hc' : w.category = 1) (hp : pc + 1 = q) (G : oG fb p e below s Z R Ret T (mkF m q Ls (v :: w :: v :: st))) : oG fb p e below s Z R Ret T (mkF m pc Ls (v :: w :: st)) := by
  subst hp ; obtain ⟨_, _, _, _, _, ⟨vm0, k0, Y, hS, hk, hJ⟩, _⟩ := X; exact G.step fun t k => XT.dupX1 Y.here E.1 rfl (hb E.2.2.2.1 hd) rfl hc hc' k
theorem gDup2 (E : oE fb p l e R s m args below meth c Z bytes own nm maxL ret) (X : oX p l e R s m args below meth c Z T V cells slots fk) {v w : Value} (hd : decode bytes pc = .ok (.dup2, 1)) (hc : v.category = 1) (hc' : w.category = 1) (hp : pc + 1 = q) (G : oG fb p e below s Z R Ret T (mkF m q Ls (v :: w :: v :: w :: st))) : oG fb p e below s Z R Ret T (mkF m pc Ls (v :: w :: st)) := by
  subst hp ; obtain ⟨_, _, _, _, _, ⟨vm0, k0, Y, hS, hk, hJ⟩, _⟩ := X; exact G.step fun t k => XT.dup2 Y.here E.1 rfl (hb E.2.2.2.1 hd) rfl hc hc' k
theorem gDup2L (E : oE fb p l e R s m args below meth c Z bytes own nm maxL ret) (X : oX p l e R s m args below meth c Z T V cells slots fk) {x : Int64} (hd : decode bytes pc = .ok (.dup2, 1))  (hp : pc + 1 = q) (G : oG fb p e below s Z R Ret T (mkF m q Ls (.long x :: .long x :: st))) : oG fb p e below s Z R Ret T (mkF m pc Ls (.long x :: st)) := by
  subst hp ; obtain ⟨_, _, _, _, _, ⟨vm0, k0, Y, hS, hk, hJ⟩, _⟩ := X; exact G.step fun t k => XT.dup2L Y.here E.1 rfl (hb E.2.2.2.1 hd) rfl k
theorem gIstoreN (E : oE fb p l e R s m args below meth c Z bytes own nm maxL ret) (X : oX p l e R s m args below meth c Z T V cells slots fk) {k : Fin 4} {x : Int32} {l' : Array Slot} (hd : decode bytes pc = .ok (.istore_n k, 1)) (hl : storeLocals Ls k.val (.int x) = some l') (hp : pc + 1 = q) (G : oG fb p e below s Z R Ret T (mkF m q l' st)) : oG fb p e below s Z R Ret T (mkF m pc Ls (.int x :: st)) := by
  subst hp ; obtain ⟨_, _, _, _, _, ⟨vm0, k0, Y, hS, hk, hJ⟩, _⟩ := X; exact G.step fun t k => XS.istoreN Y.here E.1 rfl (hb E.2.2.2.1 hd) rfl hl k
theorem gIstore (E : oE fb p l e R s m args below meth c Z bytes own nm maxL ret) (X : oX p l e R s m args below meth c Z T V cells slots fk) {k : Nat} {x : Int32} {l' : Array Slot} (hd : decode bytes pc = .ok (.istore k, 2)) (hl : storeLocals Ls k (.int x) = some l') (hp : pc + 2 = q) (G : oG fb p e below s Z R Ret T (mkF m q l' st)) : oG fb p e below s Z R Ret T (mkF m pc Ls (.int x :: st)) := by
  subst hp ; obtain ⟨_, _, _, _, _, ⟨vm0, k0, Y, hS, hk, hJ⟩, _⟩ := X; exact G.step fun t k => XS.istore Y.here E.1 rfl (hb E.2.2.2.1 hd) rfl hl k
theorem gLstoreN (E : oE fb p l e R s m args below meth c Z bytes own nm maxL ret) (X : oX p l e R s m args below meth c Z T V cells slots fk) {k : Fin 4} {x : Int64} {l' : Array Slot} (hd : decode bytes pc = .ok (.lstore_n k, 1)) (hl : storeLocals Ls k.val (.long x) = some l') (hp : pc + 1 = q) (G : oG fb p e below s Z R Ret T (mkF m q l' st)) : oG fb p e below s Z R Ret T (mkF m pc Ls (.long x :: st)) := by
  subst hp ; obtain ⟨_, _, _, _, _, ⟨vm0, k0, Y, hS, hk, hJ⟩, _⟩ := X; exact G.step fun t k => XT.lstoreN Y.here E.1 rfl (hb E.2.2.2.1 hd) rfl hl k
theorem gLstore (E : oE fb p l e R s m args below meth c Z bytes own nm maxL ret) (X : oX p l e R s m args below meth c Z T V cells slots fk) {k : Nat} {x : Int64} {l' : Array Slot} (hd : decode bytes pc = .ok (.lstore k, 2)) (hl : storeLocals Ls k (.long x) = some l') (hp : pc + 2 = q) (G : oG fb p e below s Z R Ret T (mkF m q l' st)) : oG fb p e below s Z R Ret T (mkF m pc Ls (.long x :: st)) := by
  subst hp ; obtain ⟨_, _, _, _, _, ⟨vm0, k0, Y, hS, hk, hJ⟩, _⟩ := X; exact G.step fun t k => XT.lstore Y.here E.1 rfl (hb E.2.2.2.1 hd) rfl hl k
theorem gAstoreN (E : oE fb p l e R s m args below meth c Z bytes own nm maxL ret) (X : oX p l e R s m args below meth c Z T V cells slots fk) {k : Fin 4} {v : Value} {l' : Array Slot} (hd : decode bytes pc = .ok (.astore_n k, 1)) (hv : v.isRef = true) (hl : storeLocals Ls k.val v = some l') (hp : pc + 1 = q) (G : oG fb p e below s Z R Ret T (mkF m q l' st)) : oG fb p e below s Z R Ret T (mkF m pc Ls (v :: st)) := by
  subst hp ; obtain ⟨_, _, _, _, _, ⟨vm0, k0, Y, hS, hk, hJ⟩, _⟩ := X; exact G.step fun t k => XS.astoreN Y.here E.1 rfl (hb E.2.2.2.1 hd) rfl hv hl k
theorem gAstore (E : oE fb p l e R s m args below meth c Z bytes own nm maxL ret) (X : oX p l e R s m args below meth c Z T V cells slots fk) {k : Nat} {v : Value} {l' : Array Slot} (hd : decode bytes pc = .ok (.astore k, 2)) (hv : v.isRef = true) (hl : storeLocals Ls k v = some l') (hp : pc + 2 = q) (G : oG fb p e below s Z R Ret T (mkF m q l' st)) : oG fb p e below s Z R Ret T (mkF m pc Ls (v :: st)) := by
  subst hp ; obtain ⟨_, _, _, _, _, ⟨vm0, k0, Y, hS, hk, hJ⟩, _⟩ := X; exact G.step fun t k => XS.astore Y.here E.1 rfl (hb E.2.2.2.1 hd) rfl hv hl k
theorem gIinc (E : oE fb p l e R s m args below meth c Z bytes own nm maxL ret) (X : oX p l e R s m args below meth c Z T V cells slots fk) {k : Nat} {cst : Int} {x : Int32} {l' : Array Slot} (v : Int32) (hd : decode bytes pc = .ok (.iinc k cst, 3)) (hv : Int32.ofInt cst = v) (hl : Ls[k]? = some (.val (.int x))) (hl' : storeLocals Ls k (.int (x + v)) = some l') (hp : pc + 3 = q) (G : oG fb p e below s Z R Ret T (mkF m q l' st)) : oG fb p e below s Z R Ret T (mkF m pc Ls st) := by
  subst hp ; obtain ⟨_, _, _, _, _, ⟨vm0, k0, Y, hS, hk, hJ⟩, _⟩ := X; exact G.step fun t k => XT.iincV Y.here E.1 rfl v (hb E.2.2.2.1 hd) hv hl hl' k
theorem gIincV (E : oE fb p l e R s m args below meth c Z bytes own nm maxL ret) (X : oX p l e R s m args below meth c Z T V cells slots fk) {k : Nat} {cst : Int} {x : Int32} {l' : Array Slot} (v z : Int32) (hd : decode bytes pc = .ok (.iinc k cst, 3)) (hv : Int32.ofInt cst = v) (hl : Ls[k]? = some (.val (.int x))) (hz : x + v = z) (hl' : storeLocals Ls k (.int z) = some l') (hp : pc + 3 = q) (G : oG fb p e below s Z R Ret T (mkF m q l' st)) : oG fb p e below s Z R Ret T (mkF m pc Ls st) := by
  subst hp hz; obtain ⟨_, _, _, _, _, ⟨vm0, k0, Y, hS, hk, hJ⟩, _⟩ := X; exact G.step fun t k => XT.iincV Y.here E.1 rfl v (hb E.2.2.2.1 hd) hv hl hl' k
theorem gGoto (E : oE fb p l e R s m args below meth c Z bytes own nm maxL ret) (X : oX p l e R s m args below meth c Z T V cells slots fk) {o : Int} (hd : decode bytes pc = .ok (.goto o, 3)) (ho : 0 ≤ (pc : Int) + o) (hp : ((pc : Int) + o).toNat = q) (G : oG fb p e below s Z R Ret T (mkF m q Ls st)) : oG fb p e below s Z R Ret T (mkF m pc Ls st) := by
  obtain ⟨_, _, _, _, _, ⟨vm0, k0, Y, hS, hk, hJ⟩, _⟩ := X; exact G.step fun t k => XS.goto Y.here E.1 rfl (pc0 := pc) rfl (hb E.2.2.2.1 hd) ho hp k
theorem gIc_eq (E : oE fb p l e R s m args below meth c Z bytes own nm maxL ret) (X : oX p l e R s m args below meth c Z T V cells slots fk) {x y : Int32} {o : Int} {q' : Nat} (hd : decode bytes pc = .ok (.if_icmp .eq o, 3)) (ho : 0 ≤ (pc : Int) + o) (hp : ((pc : Int) + o).toNat = q) (hp' : pc + 3 = q') (G1 : x = y → oG fb p e below s Z R Ret T (mkF m q Ls st)) (G0 : ¬ (x = y) → oG fb p e below s Z R Ret T (mkF m q' Ls st)) : oG fb p e below s Z R Ret T (mkF m pc Ls (.int y :: .int x :: st)) := by
  obtain ⟨_, _, _, _, _, ⟨vm0, k0, Y, hS, hk, hJ⟩, _⟩ := X
  by_cases hq : x = y
  · exact (G1 hq).step fun t k => XS.icmpYes Y.here E.1 rfl (pc0 := pc) rfl (hb E.2.2.2.1 hd) rfl (XT.ii_eq_t hq) ho hp k
  · subst hp'; exact (G0 hq).step fun t k => XS.icmpNo Y.here E.1 rfl (hb E.2.2.2.1 hd) rfl (XT.ii_eq_f hq) k
theorem gIf_eq (E : oE fb p l e R s m args below meth c Z bytes own nm maxL ret) (X : oX p l e R s m args below meth c Z T V cells slots fk) {x : Int32} {o : Int} {q' : Nat} (hd : decode bytes pc = .ok (.ifCond .eq o, 3)) (ho : 0 ≤ (pc : Int) + o) (hp : ((pc : Int) + o).toNat = q) (hp' : pc + 3 = q') (G1 : x = 0 → oG fb p e below s Z R Ret T (mkF m q Ls st)) (G0 : ¬ (x = 0) → oG fb p e below s Z R Ret T (mkF m q' Ls st)) : oG fb p e below s Z R Ret T (mkF m pc Ls (.int x :: st)) := by
  obtain ⟨_, _, _, _, _, ⟨vm0, k0, Y, hS, hk, hJ⟩, _⟩ := X
  by_cases hq : x = 0
  · exact (G1 hq).step fun t k => XS.ifYes Y.here E.1 rfl (pc0 := pc) rfl (hb E.2.2.2.1 hd) rfl (XT.i0_eq_t hq) ho hp k
  · subst hp'; exact (G0 hq).step fun t k => XS.ifNo Y.here E.1 rfl (hb E.2.2.2.1 hd) rfl (XT.i0_eq_f hq) k
theorem gLc_eq (E : oE fb p l e R s m args below meth c Z bytes own nm maxL ret) (X : oX p l e R s m args below meth c Z T V cells slots fk) {x y : Int64} {o : Int} {q' : Nat} (hd : decode bytes pc = .ok (.ifCond .eq o, 3)) (ho : 0 ≤ (pc : Int) + o) (hp : ((pc : Int) + o).toNat = q) (hp' : pc + 3 = q') (G1 : x = y → oG fb p e below s Z R Ret T (mkF m q Ls st)) (G0 : ¬ (x = y) → oG fb p e below s Z R Ret T (mkF m q' Ls st)) : oG fb p e below s Z R Ret T (mkF m pc Ls (.int (XT.cmpL x y) :: st)) := by
  obtain ⟨_, _, _, _, _, ⟨vm0, k0, Y, hS, hk, hJ⟩, _⟩ := X
  by_cases hq : x = y
  · exact (G1 hq).step fun t k => XS.ifYes Y.here E.1 rfl (pc0 := pc) rfl (hb E.2.2.2.1 hd) rfl (XT.ll_eq_t hq) ho hp k
  · subst hp'; exact (G0 hq).step fun t k => XS.ifNo Y.here E.1 rfl (hb E.2.2.2.1 hd) rfl (XT.ll_eq_f hq) k
theorem gIc_ne (E : oE fb p l e R s m args below meth c Z bytes own nm maxL ret) (X : oX p l e R s m args below meth c Z T V cells slots fk) {x y : Int32} {o : Int} {q' : Nat} (hd : decode bytes pc = .ok (.if_icmp .ne o, 3)) (ho : 0 ≤ (pc : Int) + o) (hp : ((pc : Int) + o).toNat = q) (hp' : pc + 3 = q') (G1 : ¬ (x = y) → oG fb p e below s Z R Ret T (mkF m q Ls st)) (G0 : x = y → oG fb p e below s Z R Ret T (mkF m q' Ls st)) : oG fb p e below s Z R Ret T (mkF m pc Ls (.int y :: .int x :: st)) := by
  obtain ⟨_, _, _, _, _, ⟨vm0, k0, Y, hS, hk, hJ⟩, _⟩ := X
  by_cases hq : x = y
  · subst hp'; exact (G0 hq).step fun t k => XS.icmpNo Y.here E.1 rfl (hb E.2.2.2.1 hd) rfl (XT.ii_ne_f hq) k
  · exact (G1 hq).step fun t k => XS.icmpYes Y.here E.1 rfl (pc0 := pc) rfl (hb E.2.2.2.1 hd) rfl (XT.ii_ne_t hq) ho hp k
theorem gIf_ne (E : oE fb p l e R s m args below meth c Z bytes own nm maxL ret) (X : oX p l e R s m args below meth c Z T V cells slots fk) {x : Int32} {o : Int} {q' : Nat} (hd : decode bytes pc = .ok (.ifCond .ne o, 3)) (ho : 0 ≤ (pc : Int) + o) (hp : ((pc : Int) + o).toNat = q) (hp' : pc + 3 = q') (G1 : ¬ (x = 0) → oG fb p e below s Z R Ret T (mkF m q Ls st)) (G0 : x = 0 → oG fb p e below s Z R Ret T (mkF m q' Ls st)) : oG fb p e below s Z R Ret T (mkF m pc Ls (.int x :: st)) := by
  obtain ⟨_, _, _, _, _, ⟨vm0, k0, Y, hS, hk, hJ⟩, _⟩ := X
  by_cases hq : x = 0
  · subst hp'; exact (G0 hq).step fun t k => XS.ifNo Y.here E.1 rfl (hb E.2.2.2.1 hd) rfl (XT.i0_ne_f hq) k
  · exact (G1 hq).step fun t k => XS.ifYes Y.here E.1 rfl (pc0 := pc) rfl (hb E.2.2.2.1 hd) rfl (XT.i0_ne_t hq) ho hp k
theorem gLc_ne (E : oE fb p l e R s m args below meth c Z bytes own nm maxL ret) (X : oX p l e R s m args below meth c Z T V cells slots fk) {x y : Int64} {o : Int} {q' : Nat} (hd : decode bytes pc = .ok (.ifCond .ne o, 3)) (ho : 0 ≤ (pc : Int) + o) (hp : ((pc : Int) + o).toNat = q) (hp' : pc + 3 = q') (G1 : ¬ (x = y) → oG fb p e below s Z R Ret T (mkF m q Ls st)) (G0 : x = y → oG fb p e below s Z R Ret T (mkF m q' Ls st)) : oG fb p e below s Z R Ret T (mkF m pc Ls (.int (XT.cmpL x y) :: st)) := by
  obtain ⟨_, _, _, _, _, ⟨vm0, k0, Y, hS, hk, hJ⟩, _⟩ := X
  by_cases hq : x = y
  · subst hp'; exact (G0 hq).step fun t k => XS.ifNo Y.here E.1 rfl (hb E.2.2.2.1 hd) rfl (XT.ll_ne_f hq) k
  · exact (G1 hq).step fun t k => XS.ifYes Y.here E.1 rfl (pc0 := pc) rfl (hb E.2.2.2.1 hd) rfl (XT.ll_ne_t hq) ho hp k
theorem gIc_lt (E : oE fb p l e R s m args below meth c Z bytes own nm maxL ret) (X : oX p l e R s m args below meth c Z T V cells slots fk) {x y : Int32} {o : Int} {q' : Nat} (hd : decode bytes pc = .ok (.if_icmp .lt o, 3)) (ho : 0 ≤ (pc : Int) + o) (hp : ((pc : Int) + o).toNat = q) (hp' : pc + 3 = q') (G1 : x < y → oG fb p e below s Z R Ret T (mkF m q Ls st)) (G0 : ¬ (x < y) → oG fb p e below s Z R Ret T (mkF m q' Ls st)) : oG fb p e below s Z R Ret T (mkF m pc Ls (.int y :: .int x :: st)) := by
  obtain ⟨_, _, _, _, _, ⟨vm0, k0, Y, hS, hk, hJ⟩, _⟩ := X
  by_cases hq : x < y
  · exact (G1 hq).step fun t k => XS.icmpYes Y.here E.1 rfl (pc0 := pc) rfl (hb E.2.2.2.1 hd) rfl (XT.ii_lt_t hq) ho hp k
  · subst hp'; exact (G0 hq).step fun t k => XS.icmpNo Y.here E.1 rfl (hb E.2.2.2.1 hd) rfl (XT.ii_lt_f hq) k
theorem gIf_lt (E : oE fb p l e R s m args below meth c Z bytes own nm maxL ret) (X : oX p l e R s m args below meth c Z T V cells slots fk) {x : Int32} {o : Int} {q' : Nat} (hd : decode bytes pc = .ok (.ifCond .lt o, 3)) (ho : 0 ≤ (pc : Int) + o) (hp : ((pc : Int) + o).toNat = q) (hp' : pc + 3 = q') (G1 : x < 0 → oG fb p e below s Z R Ret T (mkF m q Ls st)) (G0 : ¬ (x < 0) → oG fb p e below s Z R Ret T (mkF m q' Ls st)) : oG fb p e below s Z R Ret T (mkF m pc Ls (.int x :: st)) := by
  obtain ⟨_, _, _, _, _, ⟨vm0, k0, Y, hS, hk, hJ⟩, _⟩ := X
  by_cases hq : x < 0
  · exact (G1 hq).step fun t k => XS.ifYes Y.here E.1 rfl (pc0 := pc) rfl (hb E.2.2.2.1 hd) rfl (XT.i0_lt_t hq) ho hp k
  · subst hp'; exact (G0 hq).step fun t k => XS.ifNo Y.here E.1 rfl (hb E.2.2.2.1 hd) rfl (XT.i0_lt_f hq) k
theorem gLc_lt (E : oE fb p l e R s m args below meth c Z bytes own nm maxL ret) (X : oX p l e R s m args below meth c Z T V cells slots fk) {x y : Int64} {o : Int} {q' : Nat} (hd : decode bytes pc = .ok (.ifCond .lt o, 3)) (ho : 0 ≤ (pc : Int) + o) (hp : ((pc : Int) + o).toNat = q) (hp' : pc + 3 = q') (G1 : x < y → oG fb p e below s Z R Ret T (mkF m q Ls st)) (G0 : ¬ (x < y) → oG fb p e below s Z R Ret T (mkF m q' Ls st)) : oG fb p e below s Z R Ret T (mkF m pc Ls (.int (XT.cmpL x y) :: st)) := by
  obtain ⟨_, _, _, _, _, ⟨vm0, k0, Y, hS, hk, hJ⟩, _⟩ := X
  by_cases hq : x < y
  · exact (G1 hq).step fun t k => XS.ifYes Y.here E.1 rfl (pc0 := pc) rfl (hb E.2.2.2.1 hd) rfl (XT.ll_lt_t hq) ho hp k
  · subst hp'; exact (G0 hq).step fun t k => XS.ifNo Y.here E.1 rfl (hb E.2.2.2.1 hd) rfl (XT.ll_lt_f hq) k
theorem gIc_ge (E : oE fb p l e R s m args below meth c Z bytes own nm maxL ret) (X : oX p l e R s m args below meth c Z T V cells slots fk) {x y : Int32} {o : Int} {q' : Nat} (hd : decode bytes pc = .ok (.if_icmp .ge o, 3)) (ho : 0 ≤ (pc : Int) + o) (hp : ((pc : Int) + o).toNat = q) (hp' : pc + 3 = q') (G1 : ¬ (x < y) → oG fb p e below s Z R Ret T (mkF m q Ls st)) (G0 : x < y → oG fb p e below s Z R Ret T (mkF m q' Ls st)) : oG fb p e below s Z R Ret T (mkF m pc Ls (.int y :: .int x :: st)) := by
  obtain ⟨_, _, _, _, _, ⟨vm0, k0, Y, hS, hk, hJ⟩, _⟩ := X
  by_cases hq : x < y
  · subst hp'; exact (G0 hq).step fun t k => XS.icmpNo Y.here E.1 rfl (hb E.2.2.2.1 hd) rfl (XT.ii_ge_f hq) k
  · exact (G1 hq).step fun t k => XS.icmpYes Y.here E.1 rfl (pc0 := pc) rfl (hb E.2.2.2.1 hd) rfl (XT.ii_ge_t hq) ho hp k
theorem gIf_ge (E : oE fb p l e R s m args below meth c Z bytes own nm maxL ret) (X : oX p l e R s m args below meth c Z T V cells slots fk) {x : Int32} {o : Int} {q' : Nat} (hd : decode bytes pc = .ok (.ifCond .ge o, 3)) (ho : 0 ≤ (pc : Int) + o) (hp : ((pc : Int) + o).toNat = q) (hp' : pc + 3 = q') (G1 : ¬ (x < 0) → oG fb p e below s Z R Ret T (mkF m q Ls st)) (G0 : x < 0 → oG fb p e below s Z R Ret T (mkF m q' Ls st)) : oG fb p e below s Z R Ret T (mkF m pc Ls (.int x :: st)) := by
  obtain ⟨_, _, _, _, _, ⟨vm0, k0, Y, hS, hk, hJ⟩, _⟩ := X
  by_cases hq : x < 0
  · subst hp'; exact (G0 hq).step fun t k => XS.ifNo Y.here E.1 rfl (hb E.2.2.2.1 hd) rfl (XT.i0_ge_f hq) k
  · exact (G1 hq).step fun t k => XS.ifYes Y.here E.1 rfl (pc0 := pc) rfl (hb E.2.2.2.1 hd) rfl (XT.i0_ge_t hq) ho hp k
theorem gLc_ge (E : oE fb p l e R s m args below meth c Z bytes own nm maxL ret) (X : oX p l e R s m args below meth c Z T V cells slots fk) {x y : Int64} {o : Int} {q' : Nat} (hd : decode bytes pc = .ok (.ifCond .ge o, 3)) (ho : 0 ≤ (pc : Int) + o) (hp : ((pc : Int) + o).toNat = q) (hp' : pc + 3 = q') (G1 : ¬ (x < y) → oG fb p e below s Z R Ret T (mkF m q Ls st)) (G0 : x < y → oG fb p e below s Z R Ret T (mkF m q' Ls st)) : oG fb p e below s Z R Ret T (mkF m pc Ls (.int (XT.cmpL x y) :: st)) := by
  obtain ⟨_, _, _, _, _, ⟨vm0, k0, Y, hS, hk, hJ⟩, _⟩ := X
  by_cases hq : x < y
  · subst hp'; exact (G0 hq).step fun t k => XS.ifNo Y.here E.1 rfl (hb E.2.2.2.1 hd) rfl (XT.ll_ge_f hq) k
  · exact (G1 hq).step fun t k => XS.ifYes Y.here E.1 rfl (pc0 := pc) rfl (hb E.2.2.2.1 hd) rfl (XT.ll_ge_t hq) ho hp k
theorem gIc_gt (E : oE fb p l e R s m args below meth c Z bytes own nm maxL ret) (X : oX p l e R s m args below meth c Z T V cells slots fk) {x y : Int32} {o : Int} {q' : Nat} (hd : decode bytes pc = .ok (.if_icmp .gt o, 3)) (ho : 0 ≤ (pc : Int) + o) (hp : ((pc : Int) + o).toNat = q) (hp' : pc + 3 = q') (G1 : y < x → oG fb p e below s Z R Ret T (mkF m q Ls st)) (G0 : ¬ (y < x) → oG fb p e below s Z R Ret T (mkF m q' Ls st)) : oG fb p e below s Z R Ret T (mkF m pc Ls (.int y :: .int x :: st)) := by
  obtain ⟨_, _, _, _, _, ⟨vm0, k0, Y, hS, hk, hJ⟩, _⟩ := X
  by_cases hq : y < x
  · exact (G1 hq).step fun t k => XS.icmpYes Y.here E.1 rfl (pc0 := pc) rfl (hb E.2.2.2.1 hd) rfl (XT.ii_gt_t hq) ho hp k
  · subst hp'; exact (G0 hq).step fun t k => XS.icmpNo Y.here E.1 rfl (hb E.2.2.2.1 hd) rfl (XT.ii_gt_f hq) k
theorem gIf_gt (E : oE fb p l e R s m args below meth c Z bytes own nm maxL ret) (X : oX p l e R s m args below meth c Z T V cells slots fk) {x : Int32} {o : Int} {q' : Nat} (hd : decode bytes pc = .ok (.ifCond .gt o, 3)) (ho : 0 ≤ (pc : Int) + o) (hp : ((pc : Int) + o).toNat = q) (hp' : pc + 3 = q') (G1 : 0 < x → oG fb p e below s Z R Ret T (mkF m q Ls st)) (G0 : ¬ (0 < x) → oG fb p e below s Z R Ret T (mkF m q' Ls st)) : oG fb p e below s Z R Ret T (mkF m pc Ls (.int x :: st)) := by
  obtain ⟨_, _, _, _, _, ⟨vm0, k0, Y, hS, hk, hJ⟩, _⟩ := X
  by_cases hq : 0 < x
  · exact (G1 hq).step fun t k => XS.ifYes Y.here E.1 rfl (pc0 := pc) rfl (hb E.2.2.2.1 hd) rfl (XT.i0_gt_t hq) ho hp k
  · subst hp'; exact (G0 hq).step fun t k => XS.ifNo Y.here E.1 rfl (hb E.2.2.2.1 hd) rfl (XT.i0_gt_f hq) k
theorem gLc_gt (E : oE fb p l e R s m args below meth c Z bytes own nm maxL ret) (X : oX p l e R s m args below meth c Z T V cells slots fk) {x y : Int64} {o : Int} {q' : Nat} (hd : decode bytes pc = .ok (.ifCond .gt o, 3)) (ho : 0 ≤ (pc : Int) + o) (hp : ((pc : Int) + o).toNat = q) (hp' : pc + 3 = q') (G1 : y < x → oG fb p e below s Z R Ret T (mkF m q Ls st)) (G0 : ¬ (y < x) → oG fb p e below s Z R Ret T (mkF m q' Ls st)) : oG fb p e below s Z R Ret T (mkF m pc Ls (.int (XT.cmpL x y) :: st)) := by
  obtain ⟨_, _, _, _, _, ⟨vm0, k0, Y, hS, hk, hJ⟩, _⟩ := X
  by_cases hq : y < x
  · exact (G1 hq).step fun t k => XS.ifYes Y.here E.1 rfl (pc0 := pc) rfl (hb E.2.2.2.1 hd) rfl (XT.ll_gt_t hq) ho hp k
  · subst hp'; exact (G0 hq).step fun t k => XS.ifNo Y.here E.1 rfl (hb E.2.2.2.1 hd) rfl (XT.ll_gt_f hq) k
theorem gIc_le (E : oE fb p l e R s m args below meth c Z bytes own nm maxL ret) (X : oX p l e R s m args below meth c Z T V cells slots fk) {x y : Int32} {o : Int} {q' : Nat} (hd : decode bytes pc = .ok (.if_icmp .le o, 3)) (ho : 0 ≤ (pc : Int) + o) (hp : ((pc : Int) + o).toNat = q) (hp' : pc + 3 = q') (G1 : ¬ (y < x) → oG fb p e below s Z R Ret T (mkF m q Ls st)) (G0 : y < x → oG fb p e below s Z R Ret T (mkF m q' Ls st)) : oG fb p e below s Z R Ret T (mkF m pc Ls (.int y :: .int x :: st)) := by
  obtain ⟨_, _, _, _, _, ⟨vm0, k0, Y, hS, hk, hJ⟩, _⟩ := X
  by_cases hq : y < x
  · subst hp'; exact (G0 hq).step fun t k => XS.icmpNo Y.here E.1 rfl (hb E.2.2.2.1 hd) rfl (XT.ii_le_f hq) k
  · exact (G1 hq).step fun t k => XS.icmpYes Y.here E.1 rfl (pc0 := pc) rfl (hb E.2.2.2.1 hd) rfl (XT.ii_le_t hq) ho hp k
theorem gIf_le (E : oE fb p l e R s m args below meth c Z bytes own nm maxL ret) (X : oX p l e R s m args below meth c Z T V cells slots fk) {x : Int32} {o : Int} {q' : Nat} (hd : decode bytes pc = .ok (.ifCond .le o, 3)) (ho : 0 ≤ (pc : Int) + o) (hp : ((pc : Int) + o).toNat = q) (hp' : pc + 3 = q') (G1 : ¬ (0 < x) → oG fb p e below s Z R Ret T (mkF m q Ls st)) (G0 : 0 < x → oG fb p e below s Z R Ret T (mkF m q' Ls st)) : oG fb p e below s Z R Ret T (mkF m pc Ls (.int x :: st)) := by
  obtain ⟨_, _, _, _, _, ⟨vm0, k0, Y, hS, hk, hJ⟩, _⟩ := X
  by_cases hq : 0 < x
  · subst hp'; exact (G0 hq).step fun t k => XS.ifNo Y.here E.1 rfl (hb E.2.2.2.1 hd) rfl (XT.i0_le_f hq) k
  · exact (G1 hq).step fun t k => XS.ifYes Y.here E.1 rfl (pc0 := pc) rfl (hb E.2.2.2.1 hd) rfl (XT.i0_le_t hq) ho hp k
theorem gLc_le (E : oE fb p l e R s m args below meth c Z bytes own nm maxL ret) (X : oX p l e R s m args below meth c Z T V cells slots fk) {x y : Int64} {o : Int} {q' : Nat} (hd : decode bytes pc = .ok (.ifCond .le o, 3)) (ho : 0 ≤ (pc : Int) + o) (hp : ((pc : Int) + o).toNat = q) (hp' : pc + 3 = q') (G1 : ¬ (y < x) → oG fb p e below s Z R Ret T (mkF m q Ls st)) (G0 : y < x → oG fb p e below s Z R Ret T (mkF m q' Ls st)) : oG fb p e below s Z R Ret T (mkF m pc Ls (.int (XT.cmpL x y) :: st)) := by
  obtain ⟨_, _, _, _, _, ⟨vm0, k0, Y, hS, hk, hJ⟩, _⟩ := X
  by_cases hq : y < x
  · subst hp'; exact (G0 hq).step fun t k => XS.ifNo Y.here E.1 rfl (hb E.2.2.2.1 hd) rfl (XT.ll_le_f hq) k
  · exact (G1 hq).step fun t k => XS.ifYes Y.here E.1 rfl (pc0 := pc) rfl (hb E.2.2.2.1 hd) rfl (XT.ll_le_t hq) ho hp k
theorem gAc_eq (E : oE fb p l e R s m args below meth c Z bytes own nm maxL ret) (X : oX p l e R s m args below meth c Z T V cells slots fk) {v w : Value} (hv : v.isRef = true) (hw' : w.isRef = true) {o : Int} {q' : Nat} (hd : decode bytes pc = .ok (.if_acmp .eq o, 3)) (ho : 0 ≤ (pc : Int) + o) (hp : ((pc : Int) + o).toNat = q) (hp' : pc + 3 = q') (G1 : v = w → oG fb p e below s Z R Ret T (mkF m q Ls st)) (G0 : ¬ (v = w) → oG fb p e below s Z R Ret T (mkF m q' Ls st)) : oG fb p e below s Z R Ret T (mkF m pc Ls (w :: v :: st)) := by
  obtain ⟨_, _, _, _, _, ⟨vm0, k0, Y, hS, hk, hJ⟩, _⟩ := X
  by_cases hq : v = w
  · exact (G1 hq).step fun t k => XT.acmpYes Y.here E.1 rfl (pc0 := pc) rfl (hb E.2.2.2.1 hd) rfl hv hw' (XT.aa_eq_t hq) ho hp k
  · subst hp'; exact (G0 hq).step fun t k => XT.acmpNo Y.here E.1 rfl (hb E.2.2.2.1 hd) rfl hv hw' (XT.aa_eq_f hq) k
theorem gAc_ne (E : oE fb p l e R s m args below meth c Z bytes own nm maxL ret) (X : oX p l e R s m args below meth c Z T V cells slots fk) {v w : Value} (hv : v.isRef = true) (hw' : w.isRef = true) {o : Int} {q' : Nat} (hd : decode bytes pc = .ok (.if_acmp .ne o, 3)) (ho : 0 ≤ (pc : Int) + o) (hp : ((pc : Int) + o).toNat = q) (hp' : pc + 3 = q') (G1 : ¬ (v = w) → oG fb p e below s Z R Ret T (mkF m q Ls st)) (G0 : v = w → oG fb p e below s Z R Ret T (mkF m q' Ls st)) : oG fb p e below s Z R Ret T (mkF m pc Ls (w :: v :: st)) := by
  obtain ⟨_, _, _, _, _, ⟨vm0, k0, Y, hS, hk, hJ⟩, _⟩ := X
  by_cases hq : v = w
  · subst hp'; exact (G0 hq).step fun t k => XT.acmpNo Y.here E.1 rfl (hb E.2.2.2.1 hd) rfl hv hw' (XT.aa_ne_f hq) k
  · exact (G1 hq).step fun t k => XT.acmpYes Y.here E.1 rfl (pc0 := pc) rfl (hb E.2.2.2.1 hd) rfl hv hw' (XT.aa_ne_t hq) ho hp k
theorem gNull_y (E : oE fb p l e R s m args below meth c Z bytes own nm maxL ret) (X : oX p l e R s m args below meth c Z T V cells slots fk) {v : Value} (hv : v.isRef = true) {o : Int} {q' : Nat} (hd : decode bytes pc = .ok (.ifnull o, 3)) (ho : 0 ≤ (pc : Int) + o) (hp : ((pc : Int) + o).toNat = q) (hp' : pc + 3 = q') (G1 : v = .null → oG fb p e below s Z R Ret T (mkF m q Ls st)) (G0 : ¬ (v = .null) → oG fb p e below s Z R Ret T (mkF m q' Ls st)) : oG fb p e below s Z R Ret T (mkF m pc Ls (v :: st)) := by
  obtain ⟨_, _, _, _, _, ⟨vm0, k0, Y, hS, hk, hJ⟩, _⟩ := X
  by_cases hq : v = .null
  · exact (G1 hq).step fun t k => XT.nullYes Y.here E.1 rfl (pc0 := pc) rfl (hb E.2.2.2.1 hd) rfl hq ho hp k
  · subst hp'; exact (G0 hq).step fun t k => XT.nullNo Y.here E.1 rfl (hb E.2.2.2.1 hd) rfl hv hq k
theorem gNull_n (E : oE fb p l e R s m args below meth c Z bytes own nm maxL ret) (X : oX p l e R s m args below meth c Z T V cells slots fk) {v : Value} (hv : v.isRef = true) {o : Int} {q' : Nat} (hd : decode bytes pc = .ok (.ifnonnull o, 3)) (ho : 0 ≤ (pc : Int) + o) (hp : ((pc : Int) + o).toNat = q) (hp' : pc + 3 = q') (G1 : ¬ (v = .null) → oG fb p e below s Z R Ret T (mkF m q Ls st)) (G0 : v = .null → oG fb p e below s Z R Ret T (mkF m q' Ls st)) : oG fb p e below s Z R Ret T (mkF m pc Ls (v :: st)) := by
  obtain ⟨_, _, _, _, _, ⟨vm0, k0, Y, hS, hk, hJ⟩, _⟩ := X
  by_cases hq : v = .null
  · subst hp'; exact (G0 hq).step fun t k => XT.nonnullNo Y.here E.1 rfl (hb E.2.2.2.1 hd) rfl hq k
  · exact (G1 hq).step fun t k => XT.nonnullYes Y.here E.1 rfl (pc0 := pc) rfl (hb E.2.2.2.1 hd) rfl hv hq ho hp k
theorem gLdcI (E : oE fb p l e R s m args below meth c Z bytes own nm maxL ret) (X : oX p l e R s m args below meth c Z T V cells slots fk) {i : Nat} {v : Int32} (hd : decode bytes pc = .ok (.ldc i, 2)) (w : (Jvm.Cond.constant own i v).before a0 Z = true) (hp : pc + 2 = q) (G : oG fb p e below s Z R Ret T (mkF m q Ls (.int v :: st))) : oG fb p e below s Z R Ret T (mkF m pc Ls st) := by
  subst hp; obtain ⟨_, _, _, _, _, ⟨vm0, k0, Y, hS, hk, hJ⟩, _⟩ := X; exact G.step fun t k => Y.ldcI E.1 (oOw E hS) (mvT (oWm E hS) w) rfl (hb E.2.2.2.1 hd) k
theorem gLdcWI (E : oE fb p l e R s m args below meth c Z bytes own nm maxL ret) (X : oX p l e R s m args below meth c Z T V cells slots fk) {i : Nat} {v : Int32} (hd : decode bytes pc = .ok (.ldc_w i, 3)) (w : (Jvm.Cond.constant own i v).before a0 Z = true) (hp : pc + 3 = q) (G : oG fb p e below s Z R Ret T (mkF m q Ls (.int v :: st))) : oG fb p e below s Z R Ret T (mkF m pc Ls st) := by
  subst hp; obtain ⟨_, _, _, _, _, ⟨vm0, k0, Y, hS, hk, hJ⟩, _⟩ := X; exact G.step fun t k => Y.ldcWI E.1 (oOw E hS) (mvT (oWm E hS) w) rfl (hb E.2.2.2.1 hd) k
theorem gLdc2J (E : oE fb p l e R s m args below meth c Z bytes own nm maxL ret) (X : oX p l e R s m args below meth c Z T V cells slots fk) {i : Nat} {v : Int64} (hd : decode bytes pc = .ok (.ldc2_w i, 3)) (w : (Jvm.Cond.constantLong own i v).before a0 Z = true) (hp : pc + 3 = q) (G : oG fb p e below s Z R Ret T (mkF m q Ls (.long v :: st))) : oG fb p e below s Z R Ret T (mkF m pc Ls st) := by
  subst hp; obtain ⟨_, _, _, _, _, ⟨vm0, k0, Y, hS, hk, hJ⟩, _⟩ := X; exact G.step fun t k => Y.ldc2J E.1 (oOw E hS) (mvT (oWm E hS) w) rfl (hb E.2.2.2.1 hd) k
/-! 5. objects -/
theorem gGetF (E : oE fb p l e R s m args below meth c Z bytes own nm maxL ret) (X : oX p l e R s m args below meth c Z T V cells slots fk) {R0 O n d C : String} {index i j : Nat} {a : Addr} {fs : List (String × String × String × Value)} {v : Value} (hd : decode bytes pc = .ok (.getfield index, 3))
    (w : (Jvm.Cond.fieldLink own index R0 n d).before a0 Z = true) (via : Via Z R0 O n d) (hi : V[i]? = some (a, .inl (C, fs))) (hj : fs[j]? = some (O, n, d, v)) (hp : pc + 3 = q)
    (G : ∀ T', oX p l e R s m args below meth c Z T' V cells slots fk → oG fb p e below s Z R Ret T' (mkF m q Ls (v :: st))) : oG fb p e below s Z R Ret T (mkF m pc Ls (.ref a :: st)) := by
  subst hp; obtain ⟨locs, c', s', q1, q2, ⟨vm0, k0, Y, hS, hk, hJ⟩, N, H⟩ := X
  obtain ⟨T', Y', e', k⟩ := getF Y E.1 (oWm E hS) (oOw E hS) (host := "") (Or.inl w) via rfl ((H.sat hi).2.2 _ (List.mem_of_getElem? hj)) (g := mkF m pc Ls (.ref a :: st)) rfl rfl (hb E.2.2.2.1 hd)
  exact (G T' ⟨locs, c', s', q1, q2, ⟨vm0, k0, Y', hS, by rw [e']; exact hk, hJ⟩, N, e' ▸ H⟩).step k
theorem gGetFN (E : oE fb p l e R s m args below meth c Z bytes own nm maxL ret) (X : oX p l e R s m args below meth c Z T V cells slots fk) {R0 O n d C host : String} {index i j : Nat} {a : Addr} {fs : List (String × String × String × Value)} {v : Value} (hd : decode bytes pc = .ok (.getfield index, 3))
    (w : (Jvm.Cond.fieldLinkNest own index R0 n d host).before a0 Z = true) (via : Via Z R0 O n d) (hi : V[i]? = some (a, .inl (C, fs))) (hj : fs[j]? = some (O, n, d, v)) (hp : pc + 3 = q)
    (G : ∀ T', oX p l e R s m args below meth c Z T' V cells slots fk → oG fb p e below s Z R Ret T' (mkF m q Ls (v :: st))) : oG fb p e below s Z R Ret T (mkF m pc Ls (.ref a :: st)) := by
  subst hp; obtain ⟨locs, c', s', q1, q2, ⟨vm0, k0, Y, hS, hk, hJ⟩, N, H⟩ := X
  obtain ⟨T', Y', e', k⟩ := getF Y E.1 (oWm E hS) (oOw E hS) (host := host) (Or.inr w) via rfl ((H.sat hi).2.2 _ (List.mem_of_getElem? hj)) (g := mkF m pc Ls (.ref a :: st)) rfl rfl (hb E.2.2.2.1 hd)
  exact (G T' ⟨locs, c', s', q1, q2, ⟨vm0, k0, Y', hS, by rw [e']; exact hk, hJ⟩, N, e' ▸ H⟩).step k
/-- a field of an object that stood at the start -/
theorem gGetF0 (E : oE fb p l e R s m args below meth c Z bytes own nm maxL ret) (X : oX p l e R s m args below meth c Z T V cells slots fk) {R0 O n d : String} {index : Nat} {a : Addr} {v : Value} (hd : decode bytes pc = .ok (.getfield index, 3))
    (w : (Jvm.Cond.fieldLink own index R0 n d).before a0 Z = true) (via : Via Z R0 O n d) (F : Fld Z Z.heap a O n d v) (hp : pc + 3 = q)
    (G : ∀ T', oX p l e R s m args below meth c Z T' V cells slots fk → oG fb p e below s Z R Ret T' (mkF m q Ls (v :: st))) : oG fb p e below s Z R Ret T (mkF m pc Ls (.ref a :: st)) := by
  subst hp; obtain ⟨locs, c', s', q1, q2, ⟨vm0, k0, Y, hS, hk, hJ⟩, N, H⟩ := X
  obtain ⟨T', Y', e', k⟩ := getF Y E.1 (oWm E hS) (oOw E hS) (host := "") (Or.inl w) via rfl (F.ext H.1) (g := mkF m pc Ls (.ref a :: st)) rfl rfl (hb E.2.2.2.1 hd)
  exact (G T' ⟨locs, c', s', q1, q2, ⟨vm0, k0, Y', hS, by rw [e']; exact hk, hJ⟩, N, e' ▸ H⟩).step k
theorem gGetS (E : oE fb p l e R s m args below meth c Z bytes own nm maxL ret) (X : oX p l e R s m args below meth c Z T V cells slots fk) {R0 O n d : String} {index : Nat} {v : Value} (hd : decode bytes pc = .ok (.getstatic index, 3))
    (w : (Jvm.Cond.fieldLink own index R0 n d).before a0 Z = true) (via : Via Z R0 O n d) (F : Sta Z Z.heap O n d v) (hp : pc + 3 = q)
    (G : ∀ T', oX p l e R s m args below meth c Z T' V cells slots fk → oG fb p e below s Z R Ret T' (mkF m q Ls (v :: st))) : oG fb p e below s Z R Ret T (mkF m pc Ls st) := by
  subst hp; obtain ⟨locs, c', s', q1, q2, ⟨vm0, k0, Y, hS, hk, hJ⟩, N, H⟩ := X
  obtain ⟨T', Y', e', k⟩ := getS Y E.1 (oWm E hS) (oOw E hS) (host := "") w via rfl (F.ext H.1) (g := mkF m pc Ls st) rfl (hb E.2.2.2.1 hd)
  exact (G T' ⟨locs, c', s', q1, q2, ⟨vm0, k0, Y', hS, by rw [e']; exact hk, hJ⟩, N, e' ▸ H⟩).step k
theorem gPutF (E : oE fb p l e R s m args below meth c Z bytes own nm maxL ret) (X : oX p l e R s m args below meth c Z T V cells slots fk) {R0 O n d C : String} {index i j kk : Nat} {a : Addr} {fs : List (String × String × String × Value)} {v old : Value} {ty : FieldType} (hd : decode bytes pc = .ok (.putfield index, 3))
    (w : (Jvm.Cond.fieldLink own index R0 n d).before a0 Z = true) (via : Via Z R0 O n d) (hi : V[i]? = some (a, .inl (C, fs))) (hj : fs[j]? = some (O, n, d, old)) (L : (Jvm.Cond.lays C O n d).before a0 Z = true ∨ ((Jvm.Cond.laysFinal C O n d).before a0 Z = true ∧ own = O ∧ nm = "<init>")) (wi : (Jvm.Cond.instantiable C kk).before a0 Z = true)
    (hty : parseFieldDescriptor d = some ty) (hn : narrow ty v = v) (hf : fits ty v = true) (hV : V.set i (a, .inl (C, fs.set j (O, n, d, v))) = V') (hp : pc + 3 = q)
    (G : ∀ T', oX p l e R s m args below meth c Z T' V' cells slots fk → oG fb p e below s Z R Ret T' (mkF m q Ls st)) : oG fb p e below s Z R Ret T (mkF m pc Ls (v :: .ref a :: st)) := by
  subst hp hV; obtain ⟨locs, c', s', q1, q2, ⟨vm0, k0, Y, hS, hk, hJ⟩, N, H⟩ := X
  have S := H.sat hi
  obtain ⟨T', h', Y', e', W, k⟩ := putF Y E.1 (oWm E hS) (oOw E hS) (host := "") (Or.inl w) via rfl (S.2.2 _ (List.mem_of_getElem? hj)) S.1 (L.imp id fun z => ⟨z.1, z.2.1, E.2.2.2.2.2.2.1.trans z.2.2⟩) wi hty hn hf (g := mkF m pc Ls (v :: .ref a :: st)) rfl rfl (hb E.2.2.2.1 hd)
  subst e'
  exact (G T' ⟨_, c', s', q1, q2, ⟨vm0, k0, Y', hS, by rw [W.size]; exact hk, hJ⟩, Fr.snoc Y' N (H.ge hi), H.wr W hi (S.wrF hj W)⟩).step k
theorem gPutFN (E : oE fb p l e R s m args below meth c Z bytes own nm maxL ret) (X : oX p l e R s m args below meth c Z T V cells slots fk) {R0 O n d C host : String} {index i j kk : Nat} {a : Addr} {fs : List (String × String × String × Value)} {v old : Value} {ty : FieldType} (hd : decode bytes pc = .ok (.putfield index, 3))
    (w : (Jvm.Cond.fieldLinkNest own index R0 n d host).before a0 Z = true) (via : Via Z R0 O n d) (hi : V[i]? = some (a, .inl (C, fs))) (hj : fs[j]? = some (O, n, d, old)) (L : (Jvm.Cond.lays C O n d).before a0 Z = true ∨ ((Jvm.Cond.laysFinal C O n d).before a0 Z = true ∧ own = O ∧ nm = "<init>")) (wi : (Jvm.Cond.instantiable C kk).before a0 Z = true)
    (hty : parseFieldDescriptor d = some ty) (hn : narrow ty v = v) (hf : fits ty v = true) (hV : V.set i (a, .inl (C, fs.set j (O, n, d, v))) = V') (hp : pc + 3 = q)
    (G : ∀ T', oX p l e R s m args below meth c Z T' V' cells slots fk → oG fb p e below s Z R Ret T' (mkF m q Ls st)) : oG fb p e below s Z R Ret T (mkF m pc Ls (v :: .ref a :: st)) := by
  subst hp hV; obtain ⟨locs, c', s', q1, q2, ⟨vm0, k0, Y, hS, hk, hJ⟩, N, H⟩ := X
  have S := H.sat hi
  obtain ⟨T', h', Y', e', W, k⟩ := putF Y E.1 (oWm E hS) (oOw E hS) (host := host) (Or.inr w) via rfl (S.2.2 _ (List.mem_of_getElem? hj)) S.1 (L.imp id fun z => ⟨z.1, z.2.1, E.2.2.2.2.2.2.1.trans z.2.2⟩) wi hty hn hf (g := mkF m pc Ls (v :: .ref a :: st)) rfl rfl (hb E.2.2.2.1 hd)
  subst e'
  exact (G T' ⟨_, c', s', q1, q2, ⟨vm0, k0, Y', hS, by rw [W.size]; exact hk, hJ⟩, Fr.snoc Y' N (H.ge hi), H.wr W hi (S.wrF hj W)⟩).step k
theorem gNew (E : oE fb p l e R s m args below meth c Z bytes own nm maxL ret) (X : oX p l e R s m args below meth c Z T V cells slots fk) {C : String} {index n : Nat} {fs : List (String × String × String × Value)} (hd : decode bytes pc = .ok (.new index, 3))
    (w : (Jvm.Cond.classLink own index C).before a0 Z = true) (wi : (Jvm.Cond.instantiable C n).before a0 Z = true) (wz : (Jvm.Cond.initialized C).before a0 Z = true) (hL : oLay Z a0 C fs) (hc : cells + 1 ≤ c2) (hs : slots + n ≤ s2) (hc2 : c2 ≤ R.cells) (hs2 : s2 ≤ R.slots) (hp : pc + 3 = q)
    (G : ∀ T' a, oX p l e R s m args below meth c Z T' (V ++ [(a, .inl (C, fs))]) c2 s2 fk → oG fb p e below s Z R Ret T' (mkF m q Ls (.ref a :: st))) : oG fb p e below s Z R Ret T (mkF m pc Ls st) := by
  subst hp; obtain ⟨locs, c', s', q1, q2, ⟨vm0, k0, Y, hS, hk, hJ⟩, N, H⟩ := X
  obtain ⟨T', h', Y', e', Ex, A, D, -, k⟩ := newO Y E.1 (oWm E hS) (oOw E hS) w wi wz rfl (g := mkF m pc Ls st) rfl (hb E.2.2.2.1 hd) (by omega) (by omega)
  subst e'
  refine (G T' T.heap.size ⟨_, _, _, by omega, by omega, ⟨vm0, k0, Y', hS, Nat.le_trans hk Ex.1, hJ⟩, N, H.new Ex ⟨A, hL.1, fun f hf => ?_⟩⟩).step k
  obtain ⟨L1, ty, t1, t2⟩ := hL.2 f hf
  rw [t2]; exact D L1 t1
theorem gInitO (E : oE fb p l e R s m args below meth c Z bytes own nm maxL ret) (X : oX p l e R s m args below meth c Z T V cells slots fk) {index : Nat} {a : Addr} {W : Nat} (hd : decode bytes pc = .ok (.invokespecial index, 3))
    (w1 : (Jvm.Cond.methodLink own index Lib.objectInit).before a0 Z = true) (w2 : (Jvm.Cond.instanceMethod Lib.objectInit).before a0 Z = true) (w3 : (Jvm.Cond.code Lib.objectInit ⟨#[0xb1]⟩ 1 none).before a0 Z = true) (hsz : Ls.size = maxL) (hf : 1 ≤ R.frames) (hW : (st.map fun v => v.category).sum ≤ W) (hl : W + 12 ≤ R.locals) (hp : pc + 3 = q)
    (G : ∀ T', oX p l e R s m args below meth c Z T' V cells slots fk → oG fb p e below s Z R Ret T' (mkF m q Ls st)) : oG fb p e below s Z R Ret T (mkF m pc Ls (.ref a :: st)) := by
  subst hp; obtain ⟨locs, c', s', q1, q2, ⟨vm0, k0, Y, hS, hk, hJ⟩, N, H⟩ := X
  obtain ⟨T', Y', e', k⟩ := initO Y E.1 (oWm E hS) (oOw E hS) w1 w2 w3 rfl (g := mkF m pc Ls (.ref a :: st)) rfl (by rw [E.2.2.2.2.1]; exact hsz) rfl (hb E.2.2.2.1 hd) hf (W := W) (by show 2 * 0 + _ ≤ _; omega) hl
  exact (G T' ⟨locs, c', s', q1, q2, ⟨vm0, k0, Y', hS, by rw [e']; exact hk, hJ⟩, N, e' ▸ H⟩).step k
theorem gInstY (E : oE fb p l e R s m args below meth c Z bytes own nm maxL ret) (X : oX p l e R s m args below meth c Z T V cells slots fk) {K C : String} {index i : Nat} {a : Addr} {fs : List (String × String × String × Value)} (hd : decode bytes pc = .ok (.instanceof index, 3))
    (w : (Jvm.Cond.classLink own index K).before a0 Z = true) (hi : V[i]? = some (a, .inl (C, fs))) (wc : (Jvm.Cond.castable C K).before a0 Z = true) (hp : pc + 3 = q)
    (G : ∀ T', oX p l e R s m args below meth c Z T' V cells slots fk → oG fb p e below s Z R Ret T' (mkF m q Ls (.int 1 :: st))) : oG fb p e below s Z R Ret T (mkF m pc Ls (.ref a :: st)) := by
  subst hp; obtain ⟨locs, c', s', q1, q2, ⟨vm0, k0, Y, hS, hk, hJ⟩, N, H⟩ := X
  obtain ⟨T', Y', e', k⟩ := instY Y E.1 (oWm E hS) (oOw E hS) w rfl (Ins.of_exa (H.sat hi).1 wc) (g := mkF m pc Ls (.ref a :: st)) rfl rfl (hb E.2.2.2.1 hd)
  exact (G T' ⟨locs, c', s', q1, q2, ⟨vm0, k0, Y', hS, by rw [e']; exact hk, hJ⟩, N, e' ▸ H⟩).step k
theorem gInstNo (E : oE fb p l e R s m args below meth c Z bytes own nm maxL ret) (X : oX p l e R s m args below meth c Z T V cells slots fk) {K C : String} {index : Nat} {a : Addr} (hd : decode bytes pc = .ok (.instanceof index, 3))
    (w : (Jvm.Cond.classLink own index K).before a0 Z = true) (hE : ∀ h, oHv Z h V → Exa Z h a C) (F : ∃ c t, Z.vm.findClass C = some c ∧ Z.vm.findClass K = some t ∧ Z.vm.assignable c t = false) (hp : pc + 3 = q)
    (G : ∀ T', oX p l e R s m args below meth c Z T' V cells slots fk → oG fb p e below s Z R Ret T' (mkF m q Ls (.int 0 :: st))) : oG fb p e below s Z R Ret T (mkF m pc Ls (.ref a :: st)) := by
  subst hp; obtain ⟨locs, c', s', q1, q2, ⟨vm0, k0, Y, hS, hk, hJ⟩, N, H⟩ := X
  obtain ⟨T', Y', e', k⟩ := instNo Y E.1 (oWm E hS) (oOw E hS) w rfl (hE _ H) F (g := mkF m pc Ls (.ref a :: st)) rfl rfl (hb E.2.2.2.1 hd)
  exact (G T' ⟨locs, c', s', q1, q2, ⟨vm0, k0, Y', hS, by rw [e']; exact hk, hJ⟩, N, e' ▸ H⟩).step k
theorem gInstNull (E : oE fb p l e R s m args below meth c Z bytes own nm maxL ret) (X : oX p l e R s m args below meth c Z T V cells slots fk) {index : Nat} (hd : decode bytes pc = .ok (.instanceof index, 3)) (hp : pc + 3 = q) (G : oG fb p e below s Z R Ret T (mkF m q Ls (.int 0 :: st))) : oG fb p e below s Z R Ret T (mkF m pc Ls (.null :: st)) := by
  subst hp; obtain ⟨_, _, _, _, _, ⟨vm0, k0, Y, hS, hk, hJ⟩, _⟩ := X; exact G.step fun t k => Y.instanceofNull E.1 (g := mkF m pc Ls (.null :: st)) rfl rfl (hb E.2.2.2.1 hd) t k
theorem gCastY (E : oE fb p l e R s m args below meth c Z bytes own nm maxL ret) (X : oX p l e R s m args below meth c Z T V cells slots fk) {K C : String} {index i : Nat} {a : Addr} {fs : List (String × String × String × Value)} (hd : decode bytes pc = .ok (.checkcast index, 3))
    (w : (Jvm.Cond.classLink own index K).before a0 Z = true) (hi : V[i]? = some (a, .inl (C, fs))) (wc : (Jvm.Cond.castable C K).before a0 Z = true) (hp : pc + 3 = q)
    (G : ∀ T', oX p l e R s m args below meth c Z T' V cells slots fk → oG fb p e below s Z R Ret T' (mkF m q Ls (.ref a :: st))) : oG fb p e below s Z R Ret T (mkF m pc Ls (.ref a :: st)) := by
  subst hp; obtain ⟨locs, c', s', q1, q2, ⟨vm0, k0, Y, hS, hk, hJ⟩, N, H⟩ := X
  obtain ⟨T', Y', e', k⟩ := castY Y E.1 (oWm E hS) (oOw E hS) w rfl (Ins.of_exa (H.sat hi).1 wc) (g := mkF m pc Ls (.ref a :: st)) rfl rfl (hb E.2.2.2.1 hd)
  exact (G T' ⟨locs, c', s', q1, q2, ⟨vm0, k0, Y', hS, by rw [e']; exact hk, hJ⟩, N, e' ▸ H⟩).step k
/-! 6. arrays -/
theorem oNat {j : Int32} (hj : ¬ j < 0) {n : Nat} (hn : n < 2 ^ 31) (h : n.toInt32 = j) : j.toNatClampNeg = n := by
  subst h; simp only [Int32.toNatClampNeg, len_toInt hn]; omega
theorem oIn {c : Cell} {vs : List Value} {j : Int32} {v : Value} (h : c.slots.toList = vs) (hj : ¬ j < 0) (hv : vs[j.toNatClampNeg]? = some v) : ¬ (j < 0 ∨ c.slots.size ≤ j.toNatClampNeg) ∧ c.slots[j.toNatClampNeg]? = some v := by
  subst h
  rw [Array.getElem?_toList] at hv
  exact ⟨fun z => z.elim hj fun y => (by rw [Array.getElem?_eq_none y] at hv; cases hv), hv⟩
theorem gNewA (E : oE fb p l e R s m args below meth c Z bytes own nm maxL ret) (X : oX p l e R s m args below meth c Z T V cells slots fk) {aty : ArrayType} {n : Int32} {cap : Nat} {vs : List Value} {ty : FieldType} (hty : newarray.typeOf aty = ty) (hd : decode bytes pc = .ok (.newarray aty, 2))
    (w : (Jvm.Cond.arrayClass (newarray.typeOf aty)).before a0 Z = true) (hn : ¬ n < 0) (hcap : n.toNatClampNeg ≤ cap) (hb8 : cap * 8 ≤ 536870912) (hvs : List.replicate n.toNatClampNeg (defaultValue ty) = vs) (hc : cells + 1 ≤ c2) (hs : slots + cap ≤ s2) (hc2 : c2 ≤ R.cells) (hs2 : s2 ≤ R.slots) (hp : pc + 2 = q)
    (G : ∀ T' a, oX p l e R s m args below meth c Z T' (V ++ [(a, .inr (ty, vs))]) c2 s2 fk → oG fb p e below s Z R Ret T' (mkF m q Ls (.ref a :: st))) : oG fb p e below s Z R Ret T (mkF m pc Ls (.int n :: st)) := by
  subst hp hvs hty; obtain ⟨locs, c', s', q1, q2, ⟨vm0, k0, Y, hS, hk, hJ⟩, N, H⟩ := X
  obtain ⟨T', h', cA, Y', e', Ex, A, k⟩ := newP Y E.1 (oWm E hS) w rfl (g := mkF m pc Ls (.int n :: st)) rfl (hb E.2.2.2.1 hd) rfl hn hcap hb8 (by omega) (by omega)
  subst e'
  refine (G T' T.heap.size ⟨_, _, _, by omega, by omega, ⟨vm0, k0, Y', hS, Nat.le_trans hk Ex.1, hJ⟩, N, H.new Ex ⟨_, A, by simp [newA], ?_⟩⟩).step k
  rw [List.length_replicate]; exact (back32 hn).2
theorem gLen (E : oE fb p l e R s m args below meth c Z bytes own nm maxL ret) (X : oX p l e R s m args below meth c Z T V cells slots fk) {i : Nat} {a : Addr} {ty : FieldType} {vs : List Value} {z : Int32} (hd : decode bytes pc = .ok (.arraylength, 1))
    (hi : V[i]? = some (a, .inr (ty, vs))) (hz : vs.length.toInt32 = z) (hp : pc + 1 = q) (G : oG fb p e below s Z R Ret T (mkF m q Ls (.int z :: st))) : oG fb p e below s Z R Ret T (mkF m pc Ls (.ref a :: st)) := by
  subst hp hz; obtain ⟨locs, c', s', q1, q2, ⟨vm0, k0, Y, hS, hk, hJ⟩, N, H⟩ := X
  obtain ⟨cl, A, r1, r2⟩ := H.sat hi
  simp only at r1
  subst r1
  exact G.step fun t k => Y.arraylength E.1 A.1 (State.isArrayOf_alike (oWm E hS).alike A.2.1) (g := mkF m pc Ls (.ref a :: st)) rfl rfl (hb E.2.2.2.1 hd) t (by rw [Array.length_toList] at k; exact k)
/-- v's length, whether she stood at the start or was made since -/
def oLn (Z : State) (V : oVw) (a : Addr) (z : Int32) : Prop := (∃ cl ty, Arr Z Z.heap a cl ty ∧ cl.slots.size.toInt32 = z) ∨ ∃ (k : Nat) (ty : FieldType) (vs : List Value), V[k]? = some (a, .inr (ty, vs)) ∧ vs.length.toInt32 = z
theorem oLn.app {a : Addr} {z : Int32} {L : oVw} (h : oLn Z V a z) : oLn Z (V ++ L) a z := h.imp id fun ⟨k, ty, vs, h1, h2⟩ => ⟨k, ty, vs, oAppGet h1, h2⟩
theorem oLn.set {a b : Addr} {z : Int32} {i : Nat} {q q' : String × List (String × String × String × Value)} (h : oLn Z V a z) (hi : V[i]? = some (b, .inl q)) : oLn Z (V.set i (b, .inl q')) a z := h.imp id fun ⟨k, ty, vs, h1, h2⟩ => ⟨k, ty, vs, oSetNe (fun e => by subst e; rw [hi] at h1; cases h1) h1, h2⟩
theorem gLenG (E : oE fb p l e R s m args below meth c Z bytes own nm maxL ret) (X : oX p l e R s m args below meth c Z T V cells slots fk) {a : Addr} {z : Int32} (hd : decode bytes pc = .ok (.arraylength, 1))
    (hL : oLn Z V a z) (hp : pc + 1 = q) (G : oG fb p e below s Z R Ret T (mkF m q Ls (.int z :: st))) : oG fb p e below s Z R Ret T (mkF m pc Ls (.ref a :: st)) := by
  rcases hL with ⟨cl, ty, A, hz⟩ | ⟨k, ty, vs, h1, h2⟩
  · subst hp hz; obtain ⟨locs, c', s', q1, q2, ⟨vm0, k0, Y, hS, hk, hJ⟩, N, H⟩ := X
    exact G.step fun t k => Y.arraylength E.1 (A.ext H.1).1 (State.isArrayOf_alike (oWm E hS).alike A.2.1) (g := mkF m pc Ls (.ref a :: st)) rfl rfl (hb E.2.2.2.1 hd) t k
  · exact gLen E X hd h1 h2 hp G
theorem oRepLen {n : Int32} {d : Value} (hn : ¬ n < 0) : (List.replicate n.toNatClampNeg d).length.toInt32 = n := by rw [List.length_replicate]; exact (back32 hn).1
theorem gLen0 (E : oE fb p l e R s m args below meth c Z bytes own nm maxL ret) (X : oX p l e R s m args below meth c Z T V cells slots fk) {a : Addr} {ty : FieldType} {cl : Cell} {z : Int32} (hd : decode bytes pc = .ok (.arraylength, 1))
    (A : Arr Z Z.heap a cl ty) (hz : cl.slots.size.toInt32 = z) (hp : pc + 1 = q) (G : oG fb p e below s Z R Ret T (mkF m q Ls (.int z :: st))) : oG fb p e below s Z R Ret T (mkF m pc Ls (.ref a :: st)) := by
  subst hp hz; obtain ⟨locs, c', s', q1, q2, ⟨vm0, k0, Y, hS, hk, hJ⟩, N, H⟩ := X
  exact G.step fun t k => Y.arraylength E.1 (A.ext H.1).1 (State.isArrayOf_alike (oWm E hS).alike A.2.1) (g := mkF m pc Ls (.ref a :: st)) rfl rfl (hb E.2.2.2.1 hd) t k
theorem gBaload (E : oE fb p l e R s m args below meth c Z bytes own nm maxL ret) (X : oX p l e R s m args below meth c Z T V cells slots fk) {i : Nat} {a : Addr} {vs : List Value} {j : Int32} {v : Value} (hd : decode bytes pc = .ok (.baload, 1))
    (hi : V[i]? = some (a, .inr (.byte, vs))) (hj : ¬ j < 0) (hv : vs[j.toNatClampNeg]? = some v) (hp : pc + 1 = q) (G : oG fb p e below s Z R Ret T (mkF m q Ls (v :: st))) : oG fb p e below s Z R Ret T (mkF m pc Ls (.int j :: .ref a :: st)) := by
  subst hp; obtain ⟨locs, c', s', q1, q2, ⟨vm0, k0, Y, hS, hk, hJ⟩, N, H⟩ := X
  obtain ⟨cl, A, r1, r2⟩ := H.sat hi
  obtain ⟨z1, z2⟩ := oIn r1 hj hv
  exact G.step fun t k => Y.baloadBytes E.1 A.1 (State.isArrayOf_alike (oWm E hS).alike A.2.1) A.2.2 z1 z2 (g := mkF m pc Ls (.int j :: .ref a :: st)) rfl rfl (hb E.2.2.2.1 hd) t k
theorem gBaload0 (E : oE fb p l e R s m args below meth c Z bytes own nm maxL ret) (X : oX p l e R s m args below meth c Z T V cells slots fk) {a : Addr} {cl : Cell} {j : Int32} {v : Value} (hd : decode bytes pc = .ok (.baload, 1))
    (A : Arr Z Z.heap a cl .byte) (hj : ¬ (j < 0 ∨ cl.slots.size ≤ j.toNatClampNeg)) (hv : cl.slots[j.toNatClampNeg]? = some v) (hp : pc + 1 = q) (G : oG fb p e below s Z R Ret T (mkF m q Ls (v :: st))) : oG fb p e below s Z R Ret T (mkF m pc Ls (.int j :: .ref a :: st)) := by
  subst hp; obtain ⟨locs, c', s', q1, q2, ⟨vm0, k0, Y, hS, hk, hJ⟩, N, H⟩ := X
  exact G.step fun t k => Y.baloadBytes E.1 (A.ext H.1).1 (State.isArrayOf_alike (oWm E hS).alike A.2.1) A.2.2 hj hv (g := mkF m pc Ls (.int j :: .ref a :: st)) rfl rfl (hb E.2.2.2.1 hd) t k
theorem gIaload (E : oE fb p l e R s m args below meth c Z bytes own nm maxL ret) (X : oX p l e R s m args below meth c Z T V cells slots fk) {i : Nat} {a : Addr} {vs : List Value} {j : Int32} {v : Value} (hd : decode bytes pc = .ok (.iaload, 1))
    (hi : V[i]? = some (a, .inr (.int, vs))) (hj : ¬ j < 0) (hv : vs[j.toNatClampNeg]? = some v) (hp : pc + 1 = q) (G : oG fb p e below s Z R Ret T (mkF m q Ls (v :: st))) : oG fb p e below s Z R Ret T (mkF m pc Ls (.int j :: .ref a :: st)) := by
  subst hp; obtain ⟨locs, c', s', q1, q2, ⟨vm0, k0, Y, hS, hk, hJ⟩, N, H⟩ := X
  obtain ⟨cl, A, r1, r2⟩ := H.sat hi
  obtain ⟨z1, z2⟩ := oIn r1 hj hv
  exact G.step fun t k => Y.iaload E.1 A.1 (State.isArrayOf_alike (oWm E hS).alike A.2.1) A.2.2 z1 z2 (g := mkF m pc Ls (.int j :: .ref a :: st)) rfl rfl (hb E.2.2.2.1 hd) t k
theorem gIaload0 (E : oE fb p l e R s m args below meth c Z bytes own nm maxL ret) (X : oX p l e R s m args below meth c Z T V cells slots fk) {a : Addr} {cl : Cell} {j : Int32} {v : Value} (hd : decode bytes pc = .ok (.iaload, 1))
    (A : Arr Z Z.heap a cl .int) (hj : ¬ (j < 0 ∨ cl.slots.size ≤ j.toNatClampNeg)) (hv : cl.slots[j.toNatClampNeg]? = some v) (hp : pc + 1 = q) (G : oG fb p e below s Z R Ret T (mkF m q Ls (v :: st))) : oG fb p e below s Z R Ret T (mkF m pc Ls (.int j :: .ref a :: st)) := by
  subst hp; obtain ⟨locs, c', s', q1, q2, ⟨vm0, k0, Y, hS, hk, hJ⟩, N, H⟩ := X
  exact G.step fun t k => Y.iaload E.1 (A.ext H.1).1 (State.isArrayOf_alike (oWm E hS).alike A.2.1) A.2.2 hj hv (g := mkF m pc Ls (.int j :: .ref a :: st)) rfl rfl (hb E.2.2.2.1 hd) t k
theorem gLaload (E : oE fb p l e R s m args below meth c Z bytes own nm maxL ret) (X : oX p l e R s m args below meth c Z T V cells slots fk) {i : Nat} {a : Addr} {vs : List Value} {j : Int32} {v : Value} (hd : decode bytes pc = .ok (.laload, 1))
    (hi : V[i]? = some (a, .inr (.long, vs))) (hj : ¬ j < 0) (hv : vs[j.toNatClampNeg]? = some v) (hp : pc + 1 = q) (G : oG fb p e below s Z R Ret T (mkF m q Ls (v :: st))) : oG fb p e below s Z R Ret T (mkF m pc Ls (.int j :: .ref a :: st)) := by
  subst hp; obtain ⟨locs, c', s', q1, q2, ⟨vm0, k0, Y, hS, hk, hJ⟩, N, H⟩ := X
  obtain ⟨cl, A, r1, r2⟩ := H.sat hi
  obtain ⟨z1, z2⟩ := oIn r1 hj hv
  exact G.step fun t k => Y.laload E.1 A.1 (State.isArrayOf_alike (oWm E hS).alike A.2.1) A.2.2 z1 z2 (g := mkF m pc Ls (.int j :: .ref a :: st)) rfl rfl (hb E.2.2.2.1 hd) t k
theorem gLaload0 (E : oE fb p l e R s m args below meth c Z bytes own nm maxL ret) (X : oX p l e R s m args below meth c Z T V cells slots fk) {a : Addr} {cl : Cell} {j : Int32} {v : Value} (hd : decode bytes pc = .ok (.laload, 1))
    (A : Arr Z Z.heap a cl .long) (hj : ¬ (j < 0 ∨ cl.slots.size ≤ j.toNatClampNeg)) (hv : cl.slots[j.toNatClampNeg]? = some v) (hp : pc + 1 = q) (G : oG fb p e below s Z R Ret T (mkF m q Ls (v :: st))) : oG fb p e below s Z R Ret T (mkF m pc Ls (.int j :: .ref a :: st)) := by
  subst hp; obtain ⟨locs, c', s', q1, q2, ⟨vm0, k0, Y, hS, hk, hJ⟩, N, H⟩ := X
  exact G.step fun t k => Y.laload E.1 (A.ext H.1).1 (State.isArrayOf_alike (oWm E hS).alike A.2.1) A.2.2 hj hv (g := mkF m pc Ls (.int j :: .ref a :: st)) rfl rfl (hb E.2.2.2.1 hd) t k
theorem gCaload (E : oE fb p l e R s m args below meth c Z bytes own nm maxL ret) (X : oX p l e R s m args below meth c Z T V cells slots fk) {i : Nat} {a : Addr} {vs : List Value} {j : Int32} {v : Value} (hd : decode bytes pc = .ok (.caload, 1))
    (hi : V[i]? = some (a, .inr (.char, vs))) (hj : ¬ j < 0) (hv : vs[j.toNatClampNeg]? = some v) (hp : pc + 1 = q) (G : oG fb p e below s Z R Ret T (mkF m q Ls (v :: st))) : oG fb p e below s Z R Ret T (mkF m pc Ls (.int j :: .ref a :: st)) := by
  subst hp; obtain ⟨locs, c', s', q1, q2, ⟨vm0, k0, Y, hS, hk, hJ⟩, N, H⟩ := X
  obtain ⟨cl, A, r1, r2⟩ := H.sat hi
  obtain ⟨z1, z2⟩ := oIn r1 hj hv
  exact G.step fun t k => Y.caload E.1 A.1 (State.isArrayOf_alike (oWm E hS).alike A.2.1) A.2.2 z1 z2 (g := mkF m pc Ls (.int j :: .ref a :: st)) rfl rfl (hb E.2.2.2.1 hd) t k
theorem gCaload0 (E : oE fb p l e R s m args below meth c Z bytes own nm maxL ret) (X : oX p l e R s m args below meth c Z T V cells slots fk) {a : Addr} {cl : Cell} {j : Int32} {v : Value} (hd : decode bytes pc = .ok (.caload, 1))
    (A : Arr Z Z.heap a cl .char) (hj : ¬ (j < 0 ∨ cl.slots.size ≤ j.toNatClampNeg)) (hv : cl.slots[j.toNatClampNeg]? = some v) (hp : pc + 1 = q) (G : oG fb p e below s Z R Ret T (mkF m q Ls (v :: st))) : oG fb p e below s Z R Ret T (mkF m pc Ls (.int j :: .ref a :: st)) := by
  subst hp; obtain ⟨locs, c', s', q1, q2, ⟨vm0, k0, Y, hS, hk, hJ⟩, N, H⟩ := X
  exact G.step fun t k => Y.caload E.1 (A.ext H.1).1 (State.isArrayOf_alike (oWm E hS).alike A.2.1) A.2.2 hj hv (g := mkF m pc Ls (.int j :: .ref a :: st)) rfl rfl (hb E.2.2.2.1 hd) t k
theorem gAaload (E : oE fb p l e R s m args below meth c Z bytes own nm maxL ret) (X : oX p l e R s m args below meth c Z T V cells slots fk) {i : Nat} {a : Addr} {ty : FieldType} {vs : List Value} {j : Int32} {v : Value} (hd : decode bytes pc = .ok (.aaload, 1))
    (hi : V[i]? = some (a, .inr (ty, vs))) (ht : ty.isReference = true) (hj : ¬ j < 0) (hv : vs[j.toNatClampNeg]? = some v) (hp : pc + 1 = q) (G : oG fb p e below s Z R Ret T (mkF m q Ls (v :: st))) : oG fb p e below s Z R Ret T (mkF m pc Ls (.int j :: .ref a :: st)) := by
  subst hp; obtain ⟨locs, c', s', q1, q2, ⟨vm0, k0, Y, hS, hk, hJ⟩, N, H⟩ := X
  obtain ⟨cl, A, r1, r2⟩ := H.sat hi
  obtain ⟨z1, z2⟩ := oIn r1 hj hv
  exact G.step fun t k => Y.aaload E.1 A.1 (State.isArrayOf_alike (oWm E hS).alike A.2.1) ht A.2.2 z1 z2 (g := mkF m pc Ls (.int j :: .ref a :: st)) rfl rfl (hb E.2.2.2.1 hd) t k
theorem gAaload0 (E : oE fb p l e R s m args below meth c Z bytes own nm maxL ret) (X : oX p l e R s m args below meth c Z T V cells slots fk) {a : Addr} {ty : FieldType} {cl : Cell} {j : Int32} {v : Value} (hd : decode bytes pc = .ok (.aaload, 1))
    (A : Arr Z Z.heap a cl ty) (ht : ty.isReference = true) (hj : ¬ (j < 0 ∨ cl.slots.size ≤ j.toNatClampNeg)) (hv : cl.slots[j.toNatClampNeg]? = some v) (hp : pc + 1 = q) (G : oG fb p e below s Z R Ret T (mkF m q Ls (v :: st))) : oG fb p e below s Z R Ret T (mkF m pc Ls (.int j :: .ref a :: st)) := by
  subst hp; obtain ⟨locs, c', s', q1, q2, ⟨vm0, k0, Y, hS, hk, hJ⟩, N, H⟩ := X
  exact G.step fun t k => Y.aaload E.1 (A.ext H.1).1 (State.isArrayOf_alike (oWm E hS).alike A.2.1) ht A.2.2 hj hv (g := mkF m pc Ls (.int j :: .ref a :: st)) rfl rfl (hb E.2.2.2.1 hd) t k
theorem gBastore (E : oE fb p l e R s m args below meth c Z bytes own nm maxL ret) (X : oX p l e R s m args below meth c Z T V cells slots fk) {i jn : Nat} {a : Addr} {vs : List Value} {j : Int32} {x x' : Int32} (hd : decode bytes pc = .ok (.bastore, 1))
    (hi : V[i]? = some (a, .inr (.byte, vs))) (hj : ¬ j < 0) (hjn : j.toNatClampNeg = jn) (hlt : jn < vs.length) (hx' : nar .byte x = x') (hV : V.set i (a, .inr (.byte, vs.set jn (.int x'))) = V') (hp : pc + 1 = q)
    (G : ∀ T', oX p l e R s m args below meth c Z T' V' cells slots fk → oG fb p e below s Z R Ret T' (mkF m q Ls st)) : oG fb p e below s Z R Ret T (mkF m pc Ls (.int x :: .int j :: .ref a :: st)) := by
  subst hp hV hjn hx'; obtain ⟨locs, c', s', q1, q2, ⟨vm0, k0, Y, hS, hk, hJ⟩, N, H⟩ := X
  have S := H.sat hi
  obtain ⟨cl, A, r1, r2⟩ := id S
  have hin : ¬ (j < 0 ∨ cl.slots.size ≤ j.toNatClampNeg) := fun z => z.elim hj fun y => by
    have r1' : cl.slots.toList = vs := r1
    rw [← r1', Array.length_toList] at hlt; omega
  obtain ⟨T', h', Y', e', W, k⟩ := stB Y E.1 (oWm E hS) rfl A hin (g := mkF m pc Ls (.int x :: .int j :: .ref a :: st)) rfl rfl (hb E.2.2.2.1 hd)
  subst e'
  exact (G T' ⟨_, c', s', q1, q2, ⟨vm0, k0, Y', hS, by rw [W.size]; exact hk, hJ⟩, Fr.snoc Y' N (H.ge hi), H.wr W hi (S.wrA W)⟩).step k
theorem gIastore (E : oE fb p l e R s m args below meth c Z bytes own nm maxL ret) (X : oX p l e R s m args below meth c Z T V cells slots fk) {i jn : Nat} {a : Addr} {vs : List Value} {j : Int32} {x x' : Int32} (hd : decode bytes pc = .ok (.iastore, 1))
    (hi : V[i]? = some (a, .inr (.int, vs))) (hj : ¬ j < 0) (hjn : j.toNatClampNeg = jn) (hlt : jn < vs.length) (hx' : x = x') (hV : V.set i (a, .inr (.int, vs.set jn (.int x'))) = V') (hp : pc + 1 = q)
    (G : ∀ T', oX p l e R s m args below meth c Z T' V' cells slots fk → oG fb p e below s Z R Ret T' (mkF m q Ls st)) : oG fb p e below s Z R Ret T (mkF m pc Ls (.int x :: .int j :: .ref a :: st)) := by
  subst hp hV hjn hx'; obtain ⟨locs, c', s', q1, q2, ⟨vm0, k0, Y, hS, hk, hJ⟩, N, H⟩ := X
  have S := H.sat hi
  obtain ⟨cl, A, r1, r2⟩ := id S
  have hin : ¬ (j < 0 ∨ cl.slots.size ≤ j.toNatClampNeg) := fun z => z.elim hj fun y => by
    have r1' : cl.slots.toList = vs := r1
    rw [← r1', Array.length_toList] at hlt; omega
  obtain ⟨T', h', Y', e', W, k⟩ := stI Y E.1 (oWm E hS) rfl A hin (g := mkF m pc Ls (.int x :: .int j :: .ref a :: st)) rfl rfl (hb E.2.2.2.1 hd)
  subst e'
  exact (G T' ⟨_, c', s', q1, q2, ⟨vm0, k0, Y', hS, by rw [W.size]; exact hk, hJ⟩, Fr.snoc Y' N (H.ge hi), H.wr W hi (S.wrA W)⟩).step k
theorem gLastore (E : oE fb p l e R s m args below meth c Z bytes own nm maxL ret) (X : oX p l e R s m args below meth c Z T V cells slots fk) {i jn : Nat} {a : Addr} {vs : List Value} {j : Int32} {x x' : Int64} (hd : decode bytes pc = .ok (.lastore, 1))
    (hi : V[i]? = some (a, .inr (.long, vs))) (hj : ¬ j < 0) (hjn : j.toNatClampNeg = jn) (hlt : jn < vs.length) (hx' : x = x') (hV : V.set i (a, .inr (.long, vs.set jn (.long x'))) = V') (hp : pc + 1 = q)
    (G : ∀ T', oX p l e R s m args below meth c Z T' V' cells slots fk → oG fb p e below s Z R Ret T' (mkF m q Ls st)) : oG fb p e below s Z R Ret T (mkF m pc Ls (.long x :: .int j :: .ref a :: st)) := by
  subst hp hV hjn hx'; obtain ⟨locs, c', s', q1, q2, ⟨vm0, k0, Y, hS, hk, hJ⟩, N, H⟩ := X
  have S := H.sat hi
  obtain ⟨cl, A, r1, r2⟩ := id S
  have hin : ¬ (j < 0 ∨ cl.slots.size ≤ j.toNatClampNeg) := fun z => z.elim hj fun y => by
    have r1' : cl.slots.toList = vs := r1
    rw [← r1', Array.length_toList] at hlt; omega
  obtain ⟨T', h', Y', e', W, k⟩ := stJ Y E.1 (oWm E hS) rfl A hin (g := mkF m pc Ls (.long x :: .int j :: .ref a :: st)) rfl rfl (hb E.2.2.2.1 hd)
  subst e'
  exact (G T' ⟨_, c', s', q1, q2, ⟨vm0, k0, Y', hS, by rw [W.size]; exact hk, hJ⟩, Fr.snoc Y' N (H.ge hi), H.wr W hi (S.wrA W)⟩).step k
theorem gCastore (E : oE fb p l e R s m args below meth c Z bytes own nm maxL ret) (X : oX p l e R s m args below meth c Z T V cells slots fk) {i jn : Nat} {a : Addr} {vs : List Value} {j : Int32} {x x' : Int32} (hd : decode bytes pc = .ok (.castore, 1))
    (hi : V[i]? = some (a, .inr (.char, vs))) (hj : ¬ j < 0) (hjn : j.toNatClampNeg = jn) (hlt : jn < vs.length) (hx' : nar .char x = x') (hV : V.set i (a, .inr (.char, vs.set jn (.int x'))) = V') (hp : pc + 1 = q)
    (G : ∀ T', oX p l e R s m args below meth c Z T' V' cells slots fk → oG fb p e below s Z R Ret T' (mkF m q Ls st)) : oG fb p e below s Z R Ret T (mkF m pc Ls (.int x :: .int j :: .ref a :: st)) := by
  subst hp hV hjn hx'; obtain ⟨locs, c', s', q1, q2, ⟨vm0, k0, Y, hS, hk, hJ⟩, N, H⟩ := X
  have S := H.sat hi
  obtain ⟨cl, A, r1, r2⟩ := id S
  have hin : ¬ (j < 0 ∨ cl.slots.size ≤ j.toNatClampNeg) := fun z => z.elim hj fun y => by
    have r1' : cl.slots.toList = vs := r1
    rw [← r1', Array.length_toList] at hlt; omega
  obtain ⟨T', h', Y', e', W, k⟩ := stC Y E.1 (oWm E hS) rfl A hin (g := mkF m pc Ls (.int x :: .int j :: .ref a :: st)) rfl rfl (hb E.2.2.2.1 hd)
  subst e'
  exact (G T' ⟨_, c', s', q1, q2, ⟨vm0, k0, Y', hS, by rw [W.size]; exact hk, hJ⟩, Fr.snoc Y' N (H.ge hi), H.wr W hi (S.wrA W)⟩).step k
/-! 7. calls -/
theorem oBack {y : MethodName} {bs : ByteArray} {mx : Nat} {rt : Option FieldType} {rm : Room} {as' : Array Value} {Ret' : Option Value → oVw → Prop} {W len k0 : Nat} {vm0 : Vm} (E : oE fb p l e R s m args below meth c Z bytes own nm maxL ret) (K : oCon fc l Z y bs mx rt rm as' V Ret') {h : Heap} (H : oHv Z h V) (hS : s.Since vm0 k0)
    (wc : (Jvm.Cond.code y bs mx rt).before a0 Z = true) (wz : (Jvm.Cond.initialized y.cls).before a0 Z = true) (hf : rm.frames + 1 ≤ R.frames) (hl : W + (mx + 11) + rm.locals ≤ R.locals) :
    BackS l R p e below (s.setVm vm0) args y len W (fun A a => a = as' ∧ A.U.heap = h ∧ A.cells + rm.cells ≤ R.cells ∧ A.slots + rm.slots ≤ R.slots ∧ (fc = true → A.U.vm.interned = Z.vm.interned)) (fun A _ v B => ∃ L, (Fr Z.heap.size L ∧ ∃ V', Ret' v V' ∧ oHv Z B.U.heap V') ∧ B.locs = A.locs ++ L ∧ B.cells = A.cells + rm.cells ∧ B.slots = A.slots + rm.slots ∧ (fc = false → B.U.vm.interned = A.U.vm.interned)) :=
  BackS.of_freeW (bytes := bs) (maxL := mx) (ret := rt) (E := fun _ first o t L k n => k = rm.cells ∧ n = rm.slots ∧ (∃ v, o = .returned v ∧ (Fr Z.heap.size L ∧ ∃ V', Ret' v V' ∧ oHv Z t.heap V')) ∧ (fc = false → t.vm.interned = first.vm.interned)) (K [] h H) hf hl
    (fun m meth c A a Y hp => have hU : Z.Warmed39 A.U.vm := wtrans (s := s.setVm vm0) (oWm E hS) Y.warmed
      ⟨by show (Jvm.Cond.and _ .tt).before a A.U = true; rw [Cond.before_and, mv hU wc]; rfl, mv hU wc, mv hU wz, hp.2.2.1, hp.2.2.2.1⟩)
    (fun m meth c A a g mk Y hp => ⟨hp.1, wtrans (s := s.setVm vm0) (oWm E hS) Y.warmed, hp.2.1, hp.2.2.2.2⟩) (fun _ _ _ _ _ _ _ _ _ => trivial)
    (fun _ _ _ _ ⟨v, L, h1, h2, h3, h4⟩ => ⟨L, _, _, h3, rfl, rfl, ⟨v, h1, h2⟩, h4⟩)
    (fun m meth c A a g mk v t L k n Y hp _ _ ⟨e1, e2, ⟨v', e3, e4⟩, e5⟩ => by cases e3; subst e1 e2; exact ⟨L, e4, rfl, rfl, rfl, e5⟩)
theorem gCallS (E : oE fb p l e R s m args below meth c Z bytes own nm maxL ret) (X : oX p l e R s m args below meth c Z T V cells slots fk) {y : MethodName} {index : Nat} {bs : ByteArray} {mx : Nat} {rt : Option FieldType} {rm : Room} {Ret' : Option Value → oVw → Prop} {W : Nat} {ps : List FieldType} {r : Option FieldType} (argsL rest : List Value) (hd : decode bytes pc = .ok (.invokestatic index, 3))
    (w1 : (Jvm.Cond.methodLink own index y).before a0 Z = true) (w2 : (Jvm.Cond.static y).before a0 Z = true) (w3 : (Jvm.Cond.initialized y.cls).before a0 Z = true) (w4 : (Jvm.Cond.code y bs mx rt).before a0 Z = true) (hy : y.cls ≠ "java/lang/invoke/MethodHandle" ∧ y.cls ≠ "java/lang/invoke/VarHandle")
    (K : oCon fc l Z y bs mx rt rm argsL.toArray V Ret') (hds : parseMethodDescriptor y.desc = some ⟨ps, r⟩) (hlen : argsL.length = ps.length) (hst : st = argsL.reverse ++ rest) (hsz : Ls.size = maxL) (hf : rm.frames + 1 ≤ R.frames) (hW : (rest.map fun v => v.category).sum ≤ W) (hl : W + (mx + 11) + rm.locals ≤ R.locals)
    (hc : cells + rm.cells ≤ c2) (hs : slots + rm.slots ≤ s2) (hc2 : c2 ≤ R.cells) (hs2 : s2 ≤ R.slots) (hB : fc = true → fk = true ∧ fb = true) (hp : pc + 3 = q)
    (G : ∀ T' v V', Ret' v V' → oX p l e R s m args below meth c Z T' V' c2 s2 (fk && !fc) → oG fb p e below s Z R Ret T' (mkF m q Ls (v.toList ++ rest))) : oG fb p e below s Z R Ret T (mkF m pc Ls st) := by
  subst hp; obtain ⟨locs, c', s', q1, q2, ⟨vm0, k0, Y, hS, hk, hJ⟩, N, H⟩ := X
  obtain ⟨v, vm₁, ⟨T', L', k', n'⟩, hw1, Y', hS2, hg2, ⟨Lc, ⟨hN, V', hR, hV⟩, l', y', z', hJ2⟩, k⟩ := Jvm.RoadKit.callSS Y E.1 (y := y) (oOw E hS) (mvT (oWm E hS) w1) (mvT (oWm E hS) w2) (mvT (oWm E hS) w3) (mvT (oWm E hS) w4) hy (oBack (W := W) E K H hS w4 w3 hf hl) (g := mkF m pc Ls st) rfl (by rw [E.2.2.2.2.1]; exact hsz) (argsL := argsL) (rest := rest) (lenOf hds hlen) hst (by show 2 * 0 + _ ≤ _; omega) (hb E.2.2.2.1 hd) (fun vmq hwq => ⟨rfl, rfl, by dsimp only [Pt.cells]; omega, by dsimp only [Pt.slots]; omega, fun hq => hwq.interned_eq.trans ((hJ (hB hq).1).trans (E.2.2.2.2.2.2.2.2 (hB hq).2))⟩)
  dsimp only [Pt.U, Pt.locs, Pt.cells, Pt.slots] at Y' hS2 hg2 l' y' z' k hV hJ2
  subst l' y' z'
  exact (G T' v V' hR ⟨_, _, _, by omega, by omega, ⟨_, _, Y', hS.trans hS2 (Nat.le_trans hk hg2), Nat.le_refl _, fun hq => (hJ2 (by revert hq; cases fk <;> cases fc <;> simp)).trans (hw1.interned_eq.trans (hJ (by revert hq; cases fk <;> cases fc <;> simp)))⟩, Fr.app N hN, hV⟩).steps k
theorem gCallI (E : oE fb p l e R s m args below meth c Z bytes own nm maxL ret) (X : oX p l e R s m args below meth c Z T V cells slots fk) {y : MethodName} {index : Nat} {bs : ByteArray} {mx : Nat} {rm : Room} {Ret' : Option Value → oVw → Prop} {W : Nat} {ps : List FieldType} {r : Option FieldType} {a : Addr} (argsL rest : List Value) (hd : decode bytes pc = .ok (.invokespecial index, 3)) (hy1 : y.name = "<init>")
    (w1 : (Jvm.Cond.methodLink own index y).before a0 Z = true) (w2 : (Jvm.Cond.instanceMethod y).before a0 Z = true) (w3 : (Jvm.Cond.initialized y.cls).before a0 Z = true) (w4 : (Jvm.Cond.code y bs mx none).before a0 Z = true) (hy : y.cls ≠ "java/lang/invoke/MethodHandle" ∧ y.cls ≠ "java/lang/invoke/VarHandle")
    (K : oCon fc l Z y bs mx none rm (.ref a :: argsL).toArray V Ret') (hds : parseMethodDescriptor y.desc = some ⟨ps, r⟩) (hlen : argsL.length = ps.length) (hst : st = argsL.reverse ++ .ref a :: rest) (hsz : Ls.size = maxL) (hf : rm.frames + 1 ≤ R.frames) (hW : (rest.map fun v => v.category).sum ≤ W) (hl : W + (mx + 11) + rm.locals ≤ R.locals)
    (hc : cells + rm.cells ≤ c2) (hs : slots + rm.slots ≤ s2) (hc2 : c2 ≤ R.cells) (hs2 : s2 ≤ R.slots) (hB : fc = true → fk = true ∧ fb = true) (hp : pc + 3 = q)
    (G : ∀ T' v V', Ret' v V' → oX p l e R s m args below meth c Z T' V' c2 s2 (fk && !fc) → oG fb p e below s Z R Ret T' (mkF m q Ls (v.toList ++ rest))) : oG fb p e below s Z R Ret T (mkF m pc Ls st) := by
  subst hp; obtain ⟨locs, c', s', q1, q2, ⟨vm0, k0, Y, hS, hk, hJ⟩, N, H⟩ := X
  obtain ⟨v, vm₁, ⟨T', L', k', n'⟩, hw1, Y', hS2, hg2, ⟨Lc, ⟨hN, V', hR, hV⟩, l', y', z', hJ2⟩, k⟩ := Y.specialBackS E.1 (y := y) hy1 (oOw E hS) (mvT (oWm E hS) w1) (mvT (oWm E hS) w2) (mvT (oWm E hS) w4) hy (oBack (W := W) E K H hS w4 w3 hf hl) (g := mkF m pc Ls st) rfl (by rw [E.2.2.2.2.1]; exact hsz) (Steps.refl _) (a := a) (argsL := argsL) (rest := rest) (lenOf hds hlen) hst (by show 2 * 0 + _ ≤ _; omega) (hb E.2.2.2.1 hd) (fun vmq hwq => ⟨rfl, rfl, by dsimp only [Pt.cells]; omega, by dsimp only [Pt.slots]; omega, fun hq => hwq.interned_eq.trans ((hJ (hB hq).1).trans (E.2.2.2.2.2.2.2.2 (hB hq).2))⟩)
  dsimp only [Pt.U, Pt.locs, Pt.cells, Pt.slots] at Y' hS2 hg2 l' y' z' k hV hJ2
  subst l' y' z'
  exact (G T' v V' hR ⟨_, _, _, by omega, by omega, ⟨_, _, Y', hS.trans hS2 (Nat.le_trans hk hg2), Nat.le_refl _, fun hq => (hJ2 (by revert hq; cases fk <;> cases fc <;> simp)).trans (hw1.interned_eq.trans (hJ (by revert hq; cases fk <;> cases fc <;> simp)))⟩, Fr.app N hN, hV⟩).steps k
theorem gCallV (E : oE fb p l e R s m args below meth c Z bytes own nm maxL ret) (X : oX p l e R s m args below meth c Z T V cells slots fk) {y z : MethodName} {C : String} {index i : Nat} {bs : ByteArray} {mx : Nat} {rt : Option FieldType} {rm : Room} {Ret' : Option Value → oVw → Prop} {W : Nat} {ps : List FieldType} {r : Option FieldType} {a : Addr} {fs : List (String × String × String × Value)} (argsL rest : List Value) (hd : decode bytes pc = .ok (.invokevirtual index, 3)) (hi : V[i]? = some (a, .inl (C, fs)))
    (w1 : (Jvm.Cond.methodLink own index y).before a0 Z = true) (w2 : (Jvm.Cond.declares y).before a0 Z = true) (w5 : (Jvm.Cond.selects C y z).before a0 Z = true) (w6 : (Jvm.Cond.selects y.cls y y).before a0 Z = true) (w7 : (Jvm.Cond.instanceMethod z).before a0 Z = true) (w3 : (Jvm.Cond.initialized z.cls).before a0 Z = true) (w4 : (Jvm.Cond.code z bs mx rt).before a0 Z = true) (hy : y.cls ≠ "java/lang/invoke/MethodHandle" ∧ y.cls ≠ "java/lang/invoke/VarHandle")
    (K : oCon fc l Z z bs mx rt rm (.ref a :: argsL).toArray V Ret') (hds : parseMethodDescriptor y.desc = some ⟨ps, r⟩) (hlen : argsL.length = ps.length) (hst : st = argsL.reverse ++ .ref a :: rest) (hsz : Ls.size = maxL) (hf : rm.frames + 1 ≤ R.frames) (hW : (rest.map fun v => v.category).sum ≤ W) (hl : W + (mx + 11) + rm.locals ≤ R.locals)
    (hc : cells + rm.cells ≤ c2) (hs : slots + rm.slots ≤ s2) (hc2 : c2 ≤ R.cells) (hs2 : s2 ≤ R.slots) (hB : fc = true → fk = true ∧ fb = true) (hp : pc + 3 = q)
    (G : ∀ T' v V', Ret' v V' → oX p l e R s m args below meth c Z T' V' c2 s2 (fk && !fc) → oG fb p e below s Z R Ret T' (mkF m q Ls (v.toList ++ rest))) : oG fb p e below s Z R Ret T (mkF m pc Ls st) := by
  subst hp; obtain ⟨locs, c', s', q1, q2, ⟨vm0, k0, Y, hS, hk, hJ⟩, N, H⟩ := X
  obtain ⟨cq, kq, qa, qb, qc⟩ := isOf (oWm E hS) (T := T) rfl (H.sat hi).1
  obtain ⟨v, vm₁, ⟨T', L', k', n'⟩, hw1, Y', hS2, hg2, ⟨Lc, ⟨hN, V', hR, hV⟩, l', y', z', hJ2⟩, k⟩ := Y.virtualBackS E.1 (y := y) (z := z) (oOw E hS) (mvT (oWm E hS) w1) (mvT (oWm E hS) w2) (notFace_of_selects (args := #[]) (mvT (oWm E hS) w6)) (mvT (oWm E hS) w5) (mvT (oWm E hS) w7) hy (oBack (W := W) E K H hS w4 w3 hf hl) qa qc (g := mkF m pc Ls st) rfl (by rw [E.2.2.2.2.1]; exact hsz) (Steps.refl _) (argsL := argsL) (rest := rest) (lenOf hds hlen) hst (by show 2 * 0 + _ ≤ _; omega) (hb E.2.2.2.1 hd) (fun vmq hwq => ⟨rfl, rfl, by dsimp only [Pt.cells]; omega, by dsimp only [Pt.slots]; omega, fun hq => hwq.interned_eq.trans ((hJ (hB hq).1).trans (E.2.2.2.2.2.2.2.2 (hB hq).2))⟩)
  dsimp only [Pt.U, Pt.locs, Pt.cells, Pt.slots] at Y' hS2 hg2 l' y' z' k hV hJ2
  subst l' y' z'
  exact (G T' v V' hR ⟨_, _, _, by omega, by omega, ⟨_, _, Y', hS.trans hS2 (Nat.le_trans hk hg2), Nat.le_refl _, fun hq => (hJ2 (by revert hq; cases fk <;> cases fc <;> simp)).trans (hw1.interned_eq.trans (hJ (by revert hq; cases fk <;> cases fc <;> simp)))⟩, Fr.app N hN, hV⟩).steps k
theorem gCallF (E : oE fb p l e R s m args below meth c Z bytes own nm maxL ret) (X : oX p l e R s m args below meth c Z T V cells slots fk) {y z : MethodName} {C : String} {index i cnt : Nat} {bs : ByteArray} {mx : Nat} {rt : Option FieldType} {rm : Room} {Ret' : Option Value → oVw → Prop} {W : Nat} {ps : List FieldType} {r : Option FieldType} {a : Addr} {fs : List (String × String × String × Value)} (argsL rest : List Value) (hd : decode bytes pc = .ok (.invokeinterface index cnt, 5)) (hi : V[i]? = some (a, .inl (C, fs)))
    (w1 : (Jvm.Cond.methodLink own index y).before a0 Z = true) (w2 : (Jvm.Cond.declares y).before a0 Z = true) (w5 : (Jvm.Cond.selects C y z).before a0 Z = true) (w6 : (Jvm.Cond.interfaceMethod y.cls y.cls y.name y.desc).before a0 Z = true) (w8 : (Jvm.Cond.publicMethod z).before a0 Z = true) (w9 : (Jvm.Cond.unhidden C y.name y.desc).before a0 Z = true) (w10 : (Jvm.Cond.castable C y.cls).before a0 Z = true) (w7 : (Jvm.Cond.instanceMethod z).before a0 Z = true) (w3 : (Jvm.Cond.initialized z.cls).before a0 Z = true) (w4 : (Jvm.Cond.code z bs mx rt).before a0 Z = true) (hy : y.cls ≠ "java/lang/invoke/MethodHandle" ∧ y.cls ≠ "java/lang/invoke/VarHandle")
    (K : oCon fc l Z z bs mx rt rm (.ref a :: argsL).toArray V Ret') (hds : parseMethodDescriptor y.desc = some ⟨ps, r⟩) (hlen : argsL.length = ps.length) (hst : st = argsL.reverse ++ .ref a :: rest) (hsz : Ls.size = maxL) (hf : rm.frames + 1 ≤ R.frames) (hW : (rest.map fun v => v.category).sum ≤ W) (hl : W + (mx + 11) + rm.locals ≤ R.locals)
    (hc : cells + rm.cells ≤ c2) (hs : slots + rm.slots ≤ s2) (hc2 : c2 ≤ R.cells) (hs2 : s2 ≤ R.slots) (hB : fc = true → fk = true ∧ fb = true) (hp : pc + 5 = q)
    (G : ∀ T' v V', Ret' v V' → oX p l e R s m args below meth c Z T' V' c2 s2 (fk && !fc) → oG fb p e below s Z R Ret T' (mkF m q Ls (v.toList ++ rest))) : oG fb p e below s Z R Ret T (mkF m pc Ls st) := by
  subst hp; obtain ⟨locs, c', s', q1, q2, ⟨vm0, k0, Y, hS, hk, hJ⟩, N, H⟩ := X
  obtain ⟨cq, kq, qa, qb, qc⟩ := isOf (oWm E hS) (T := T) rfl (H.sat hi).1
  obtain ⟨v, vm₁, ⟨T', L', k', n'⟩, hw1, Y', hS2, hg2, ⟨Lc, ⟨hN, V', hR, hV⟩, l', y', z', hJ2⟩, k⟩ := Y.interfaceBackS E.1 (xi := y) (y := z) (oOw E hS) (mvT (oWm E hS) w1) (mvT (oWm E hS) w2) (mvT (oWm E hS) w6 (by simp [Cond.onTables, Cond.keepsFace, Cond.keeps, Cond.steady, Cond.faceAtom, hy.1, hy.2])) (mvT (oWm E hS) w5) (mvT (oWm E hS) w7) (mvT (oWm E hS) w8) (mvT (oWm E hS) w9) (mvT (oWm E hS) w10) hy (oBack (W := W) E K H hS w4 w3 hf hl) qa qb qc (g := mkF m pc Ls st) rfl (by rw [E.2.2.2.2.1]; exact hsz) (Steps.refl _) (argsL := argsL) (rest := rest) (lenOf hds hlen) hst (by show 2 * 0 + _ ≤ _; omega) (hb E.2.2.2.1 hd) (fun vmq hwq => ⟨rfl, rfl, by dsimp only [Pt.cells]; omega, by dsimp only [Pt.slots]; omega, fun hq => hwq.interned_eq.trans ((hJ (hB hq).1).trans (E.2.2.2.2.2.2.2.2 (hB hq).2))⟩)
  dsimp only [Pt.U, Pt.locs, Pt.cells, Pt.slots] at Y' hS2 hg2 l' y' z' k hV hJ2
  subst l' y' z'
  exact (G T' v V' hR ⟨_, _, _, by omega, by omega, ⟨_, _, Y', hS.trans hS2 (Nat.le_trans hk hg2), Nat.le_refl _, fun hq => (hJ2 (by revert hq; cases fk <;> cases fc <;> simp)).trans (hw1.interned_eq.trans (hJ (by revert hq; cases fk <;> cases fc <;> simp)))⟩, Fr.app N hN, hV⟩).steps k
theorem gCallV0 (E : oE fb p l e R s m args below meth c Z bytes own nm maxL ret) (X : oX p l e R s m args below meth c Z T V cells slots fk) {y z : MethodName} {C : String} {index : Nat} {bs : ByteArray} {mx : Nat} {rt : Option FieldType} {rm : Room} {Ret' : Option Value → oVw → Prop} {W : Nat} {ps : List FieldType} {r : Option FieldType} {a : Addr} (argsL rest : List Value) (hd : decode bytes pc = .ok (.invokevirtual index, 3)) (hE : Exa Z Z.heap a C)
    (w1 : (Jvm.Cond.methodLink own index y).before a0 Z = true) (w2 : (Jvm.Cond.declares y).before a0 Z = true) (w5 : (Jvm.Cond.selects C y z).before a0 Z = true) (w6 : (Jvm.Cond.selects y.cls y y).before a0 Z = true) (w7 : (Jvm.Cond.instanceMethod z).before a0 Z = true) (w3 : (Jvm.Cond.initialized z.cls).before a0 Z = true) (w4 : (Jvm.Cond.code z bs mx rt).before a0 Z = true) (hy : y.cls ≠ "java/lang/invoke/MethodHandle" ∧ y.cls ≠ "java/lang/invoke/VarHandle")
    (K : oCon fc l Z z bs mx rt rm (.ref a :: argsL).toArray V Ret') (hds : parseMethodDescriptor y.desc = some ⟨ps, r⟩) (hlen : argsL.length = ps.length) (hst : st = argsL.reverse ++ .ref a :: rest) (hsz : Ls.size = maxL) (hf : rm.frames + 1 ≤ R.frames) (hW : (rest.map fun v => v.category).sum ≤ W) (hl : W + (mx + 11) + rm.locals ≤ R.locals)
    (hc : cells + rm.cells ≤ c2) (hs : slots + rm.slots ≤ s2) (hc2 : c2 ≤ R.cells) (hs2 : s2 ≤ R.slots) (hB : fc = true → fk = true ∧ fb = true) (hp : pc + 3 = q)
    (G : ∀ T' v V', Ret' v V' → oX p l e R s m args below meth c Z T' V' c2 s2 (fk && !fc) → oG fb p e below s Z R Ret T' (mkF m q Ls (v.toList ++ rest))) : oG fb p e below s Z R Ret T (mkF m pc Ls st) := by
  subst hp; obtain ⟨locs, c', s', q1, q2, ⟨vm0, k0, Y, hS, hk, hJ⟩, N, H⟩ := X
  obtain ⟨cq, kq, qa, qb, qc⟩ := isOf (oWm E hS) (T := T) rfl (hE.ext H.1)
  obtain ⟨v, vm₁, ⟨T', L', k', n'⟩, hw1, Y', hS2, hg2, ⟨Lc, ⟨hN, V', hR, hV⟩, l', y', z', hJ2⟩, k⟩ := Y.virtualBackS E.1 (y := y) (z := z) (oOw E hS) (mvT (oWm E hS) w1) (mvT (oWm E hS) w2) (notFace_of_selects (args := #[]) (mvT (oWm E hS) w6)) (mvT (oWm E hS) w5) (mvT (oWm E hS) w7) hy (oBack (W := W) E K H hS w4 w3 hf hl) qa qc (g := mkF m pc Ls st) rfl (by rw [E.2.2.2.2.1]; exact hsz) (Steps.refl _) (argsL := argsL) (rest := rest) (lenOf hds hlen) hst (by show 2 * 0 + _ ≤ _; omega) (hb E.2.2.2.1 hd) (fun vmq hwq => ⟨rfl, rfl, by dsimp only [Pt.cells]; omega, by dsimp only [Pt.slots]; omega, fun hq => hwq.interned_eq.trans ((hJ (hB hq).1).trans (E.2.2.2.2.2.2.2.2 (hB hq).2))⟩)
  dsimp only [Pt.U, Pt.locs, Pt.cells, Pt.slots] at Y' hS2 hg2 l' y' z' k hV hJ2
  subst l' y' z'
  exact (G T' v V' hR ⟨_, _, _, by omega, by omega, ⟨_, _, Y', hS.trans hS2 (Nat.le_trans hk hg2), Nat.le_refl _, fun hq => (hJ2 (by revert hq; cases fk <;> cases fc <;> simp)).trans (hw1.interned_eq.trans (hJ (by revert hq; cases fk <;> cases fc <;> simp)))⟩, Fr.app N hN, hV⟩).steps k
theorem oHv.ext {Z : State} {h h' : Heap} {V : oVw} (H : oHv Z h V) (E : Ext h h') : oHv Z h' V := ⟨⟨Nat.le_trans H.1.1 E.1, fun a c q => E.2 _ _ (H.1.2 _ _ q)⟩, H.2.1, fun x hx => ⟨(H.2.2 x hx).1, (H.2.2 x hx).2.ext E⟩⟩
/-- the first load of "", its field value read, and written into the object at i -/
theorem gEmpty1 (E : oE true p l e R s m args below meth c Z bytes own nm maxL ret) (X : oX p l e R s m args below meth c Z T V cells slots true) {index ix2 i j kz : Nat} {a : Addr} {fs : List (String × String × String × Value)} {C : String} (hd : decode bytes pc = .ok (.ldc index, 2)) (hd2 : decode bytes (pc + 2) = .ok (.getfield ix2, 3)) (hd3 : decode bytes (pc + 2 + 3) = .ok (.putfield ix2, 3))
    (w : (Jvm.Cond.stringLink own index "").before a0 Z = true) (wS : ∀ a ∈ Bundle.stringAtoms, a.before a0 Z = true) (hh : Jvm.Lit.constHeld Z own index) (hcw : Jvm.Lit.compactW.before a0 Z = true)
    (w2 : (Jvm.Cond.fieldLink own ix2 "java/lang/String" "value" "[B").before a0 Z = true) (hi : V[i]? = some (a, .inl (C, fs))) (hj : fs[j]? = some ("java/lang/String", "value", "[B", .null)) (L : (Jvm.Cond.lays C "java/lang/String" "value" "[B").before a0 Z = true ∨ ((Jvm.Cond.laysFinal C "java/lang/String" "value" "[B").before a0 Z = true ∧ own = "java/lang/String" ∧ nm = "<init>")) (wi : (Jvm.Cond.instantiable C kz).before a0 Z = true) (hO : T.heap = s.heap)
    (hc : cells + 2 ≤ c2) (hs : slots + 4 ≤ s2) (hc2 : c2 ≤ R.cells) (hs2 : s2 ≤ R.slots) (hp : pc + 8 = q)
    (G : ∀ T' sa b, oX p l e R s m args below meth c Z T' (V.set i (a, .inl (C, fs.set j ("java/lang/String", "value", "[B", .ref b)))) c2 s2 false → Fld Z T'.heap sa "java/lang/String" "coder" "B" (.int 0) → Lit (s.setVm T'.vm) own index sa → oG true p e below s Z R Ret T' (mkF m q Ls st)) : oG true p e below s Z R Ret T (mkF m pc Ls (.ref a :: st)) := by
  subst hp; obtain ⟨locs, c', s', q1, q2, ⟨vm0, k0, Y, hS, hk, hJ⟩, N, H⟩ := X
  have Y0 : Stand p l e R (s.setVm vm0) m args below meth c T [] c' s' := { Y with same := ⟨Y.same.1, Y.same.2.1, Y.same.2.2.1, Y.same.2.2.2.1, Y.same.2.2.2.2.1, fun a cl q => ⟨cl, by show T.heap[a]? = some cl; rw [hO]; exact q, rfl, rfl, fun _ _ => rfl⟩⟩ }
  have I : IB Z vm0 [] := ⟨#[], by rw [hJ rfl, E.2.2.2.2.2.2.2.2 rfl]; simp, fun q hq => by simp at hq⟩
  obtain ⟨sa, T1, h1, k1, b, kb, Y1, e1, Ex, hS1, hk1, -, -, hE1, F1, F2, -, -, -, -, Lt, st1⟩ := ldcSVL Y0 E.1 (oWm E hS) (oOw E hS) w wS rfl hS hk (Fr.nil _) (fun b cl q => hO ▸ H.1.2 b cl q) I (by simp) hh hcw (vs := []) (z := 0) ⟨by simp, rfl⟩ (by decide) rfl (g := mkF m pc Ls (.ref a :: st)) rfl (hb E.2.2.2.1 hd) (n := 0) (by decide) (by decide) (by omega) (by omega)
  subst e1
  have H1 := H.ext Ex
  have S := H1.sat hi
  have Fa := S.2.2 _ (List.mem_of_getElem? hj)
  have ne : sa ≠ a := Fld.ne F2 Fa (by simp)
  have hZ1 : Z.Warmed39 (s.setVm T1.vm).vm := oWm E hS1
  have ho1 : (s.setVm T1.vm).vm.findClass own = some m.cls := oOw E hS1
  obtain ⟨T2, Y2, e2, st2⟩ := getF Y1 E.1 hZ1 ho1 (host := "") (Or.inl w2) Via.refl rfl F2 (g := mkF m (pc + 2) Ls (.ref sa :: .ref a :: st)) rfl rfl (hb E.2.2.2.1 hd2)
  obtain ⟨T3, h3, Y3, e3, W, st3⟩ := putF Y2 E.1 hZ1 ho1 (host := "") (Or.inl w2) Via.refl rfl (e2 ▸ Fa) (e2 ▸ S.1) (L.imp id fun z => ⟨z.1, z.2.1, E.2.2.2.2.2.2.1.trans z.2.2⟩) wi (ty := .array .byte) (v := .ref b) (by decide) rfl rfl (g := mkF m (pc + 2 + 3) Ls (.ref b :: .ref a :: st)) rfl rfl (hb E.2.2.2.1 hd3)
  subst e3
  have W' : Wr T1.heap T3.heap a (Jvm.RoadKit.slotOf Z "java/lang/String" "value" "[B") (.ref b) := e2 ▸ W
  refine ((((G T3 sa b ⟨_, _, _, by omega, by omega, ⟨_, _, Y3, hS1, by rw [W'.size]; exact hk1, fun z => by cases z⟩, Fr.snoc Y3 (Fr.nil _) (H.ge hi), H1.wr W' hi (S.wrF hj W')⟩ (F1.other W' (Or.inl ne)) (Lit.stays Lt Y3.warmed.wide)).step st3).step st2).step st1)
theorem gInitOH (E : oE fb p l e R s m args below meth c Z bytes own nm maxL ret) (X : oX p l e R s m args below meth c Z T V cells slots fk) {index : Nat} {a : Addr} {W : Nat} (hd : decode bytes pc = .ok (.invokespecial index, 3))
    (w1 : (Jvm.Cond.methodLink own index Lib.objectInit).before a0 Z = true) (w2 : (Jvm.Cond.instanceMethod Lib.objectInit).before a0 Z = true) (w3 : (Jvm.Cond.code Lib.objectInit ⟨#[0xb1]⟩ 1 none).before a0 Z = true) (hsz : Ls.size = maxL) (hf : 1 ≤ R.frames) (hW : (st.map fun v => v.category).sum ≤ W) (hl : W + 12 ≤ R.locals) (hp : pc + 3 = q)
    (G : ∀ T', oX p l e R s m args below meth c Z T' V cells slots fk → T'.heap = T.heap → oG fb p e below s Z R Ret T' (mkF m q Ls st)) : oG fb p e below s Z R Ret T (mkF m pc Ls (.ref a :: st)) := by
  subst hp; obtain ⟨locs, c', s', q1, q2, ⟨vm0, k0, Y, hS, hk, hJ⟩, N, H⟩ := X
  obtain ⟨T', Y', e', k⟩ := initO Y E.1 (oWm E hS) (oOw E hS) w1 w2 w3 rfl (g := mkF m pc Ls (.ref a :: st)) rfl (by rw [E.2.2.2.2.1]; exact hsz) rfl (hb E.2.2.2.1 hd) hf (W := W) (by show 2 * 0 + _ ≤ _; omega) hl
  exact (G T' ⟨locs, c', s', q1, q2, ⟨vm0, k0, Y', hS, by rw [e']; exact hk, hJ⟩, N, e' ▸ H⟩ e').step k
theorem gGetSN (E : oE fb p l e R s m args below meth c Z bytes own nm maxL ret) (X : oX p l e R s m args below meth c Z T V cells slots fk) {R0 O n d host : String} {index : Nat} {v : Value} (hd : decode bytes pc = .ok (.getstatic index, 3))
    (w : (Jvm.Cond.fieldLinkNest own index R0 n d host).before a0 Z = true) (via : Via Z R0 O n d) (F : Sta Z Z.heap O n d v) (hp : pc + 3 = q)
    (G : ∀ T', oX p l e R s m args below meth c Z T' V cells slots fk → oG fb p e below s Z R Ret T' (mkF m q Ls (v :: st))) : oG fb p e below s Z R Ret T (mkF m pc Ls st) := by
  subst hp; obtain ⟨locs, c', s', q1, q2, ⟨vm0, k0, Y, hS, hk, hJ⟩, N, H⟩ := X
  obtain ⟨T', Y', e', k⟩ := getS2 Y E.1 (oWm E hS) (oOw E hS) (host := host) (Or.inr w) via rfl (F.ext H.1) (g := mkF m pc Ls st) rfl (hb E.2.2.2.1 hd)
  exact (G T' ⟨locs, c', s', q1, q2, ⟨vm0, k0, Y', hS, by rw [e']; exact hk, hJ⟩, N, e' ▸ H⟩).step k
theorem oEnterH {y : MethodName} {as' : Array Value} {rm : Room} (hpl : plainFor y = true) (hent : ∀ m, entryFrame m as' maxL = mkF m 0 Ls [])
    (body : ∀ p e s m below meth c T, oE fb p l e rm s m as' below meth c Z bytes y.cls y.name maxL ret → oX p l e rm s m as' below meth c Z T V 0 0 true → T.heap = s.heap → oG fb p e below s Z rm Ret T (mkF m 0 Ls [])) :
    oCon fb l Z y bytes maxL ret rm as' V Ret := by
  intro ws h0 H
  refine MetFree.of_bodySF hpl hisR ?_
  intro p e s m args below meth c s₁ Bd hml0 hP hK
  obtain ⟨rfl, hZ, hh, hI⟩ := hP
  have e0 : s₁.heap = h0 := by rw [← hh, Bd.state]; rfl
  have G := body p e s m below meth c s₁ ⟨Bd.exec, hZ, findClass_of_methodNamed Bd.named, Bd.bytes, hml0, Bd.returns, (name_of_methodNamed Bd.named Bd.method).1, BodyLoose.notSynchronized Bd, hI⟩ ⟨[], 0, 0, Nat.le_refl _, Nat.le_refl _, ⟨s.vm, 0, (Stand.of_body Bd : Stand p l e rm (s.setVm s.vm) m _ below meth c s₁ [] 0 0), (State.WarmedH.refl s).since 0, Nat.zero_le _, fun _ => rfl⟩, Fr.nil _, e0 ▸ H⟩ (e0.trans hh.symm)
  obtain ⟨t, o, h1, r⟩ := G
  exact ⟨t, o, castTop (hent m) h1, r⟩
theorem gLdcA (E : oE fb p l e R s m args below meth c Z bytes own nm maxL ret) (X : oX p l e R s m args below meth c Z T V cells slots fk) {index : Nat} {sa : Addr} {text : String} (hd : decode bytes pc = .ok (.ldc index, 2)) (w : (Jvm.Cond.stringLink own index text).before a0 Z = true) (L : Lit (s.setVm T.vm) own index sa) (hp : pc + 2 = q)
    (G : oG fb p e below s Z R Ret T (mkF m q Ls (.ref sa :: st))) : oG fb p e below s Z R Ret T (mkF m pc Ls st) := by
  subst hp; obtain ⟨locs, c', s', q1, q2, ⟨vm0, k0, Y, hS, hk, hJ⟩, N, H⟩ := X
  have Y2 : Stand p l e R (s.setVm T.vm) m args below meth c T locs c' s' := Y.retabled Y.warmed.wide
  have hS2 : s.Since T.vm T.heap.size := hS.trans (Y.warmed.since _) hk
  have hZ2 : Z.Warmed39 (s.setVm T.vm).vm := oWm E hS2
  have ho2 : (s.setVm T.vm).vm.findClass own = some m.cls := oOw E hS2
  exact G.step (ldcAgain Y2 E.1 hZ2 ho2 w L (g := mkF m pc Ls st) rfl (hb E.2.2.2.1 hd))
theorem gGetFT (E : oE fb p l e R s m args below meth c Z bytes own nm maxL ret) (X : oX p l e R s m args below meth c Z T V cells slots fk) {R0 O n d : String} {index : Nat} {a : Addr} {v : Value} (hd : decode bytes pc = .ok (.getfield index, 3))
    (w : (Jvm.Cond.fieldLink own index R0 n d).before a0 Z = true) (via : Via Z R0 O n d) (F : Fld Z T.heap a O n d v) (hp : pc + 3 = q)
    (G : ∀ T', oX p l e R s m args below meth c Z T' V cells slots fk → oG fb p e below s Z R Ret T' (mkF m q Ls (v :: st))) : oG fb p e below s Z R Ret T (mkF m pc Ls (.ref a :: st)) := by
  subst hp; obtain ⟨locs, c', s', q1, q2, ⟨vm0, k0, Y, hS, hk, hJ⟩, N, H⟩ := X
  obtain ⟨T', Y', e', k⟩ := getF Y E.1 (oWm E hS) (oOw E hS) (host := "") (Or.inl w) via rfl F (g := mkF m pc Ls (.ref a :: st)) rfl rfl (hb E.2.2.2.1 hd)
  exact (G T' ⟨locs, c', s', q1, q2, ⟨vm0, k0, Y', hS, by rw [e']; exact hk, hJ⟩, N, e' ▸ H⟩).step k
end Walk

theorem oRemEq (x y : Int32) : x - x / y * y = x % y := by
  apply Int32.toInt_inj.mp
  rw [Int32.toInt_sub, Int32.toInt_mul, Int32.toInt_div, Int32.toInt_mod, Int.bmod_mul_bmod, Int.sub_bmod_bmod]
  have : x.toInt - x.toInt.tdiv y.toInt * y.toInt = x.toInt.tmod y.toInt := by rw [Int.tmod_def, Int.mul_comm]
  rw [this, ← Int32.toInt_mod]
  have h := rng32 (x % y)
  exact Int.bmod_eq_of_le (by omega) (by omega)
theorem oRemEqL (x y : Int64) : x - x / y * y = x % y := by
  apply Int64.toInt_inj.mp
  rw [Int64.toInt_sub, Int64.toInt_mul, Int64.toInt_div, Int64.toInt_mod, Int.bmod_mul_bmod, Int.sub_bmod_bmod]
  have : x.toInt - x.toInt.tdiv y.toInt * y.toInt = x.toInt.tmod y.toInt := by rw [Int.tmod_def, Int.mul_comm]
  rw [this, ← Int64.toInt_mod]
  have h := rng64 (x % y)
  exact Int.bmod_eq_of_le (by omega) (by omega)
theorem oBm32 {n : Int} (h : -2147483648 ≤ n ∧ n < 2147483648) : n.bmod (2 ^ 32) = n := Int.bmod_eq_of_le (by have := h.1; omega) (by have := h.2; omega)
theorem oBm64 {n : Int} (h : -9223372036854775808 ≤ n ∧ n < 9223372036854775808) : n.bmod (2 ^ 64) = n := Int.bmod_eq_of_le (by have := h.1; omega) (by have := h.2; omega)
theorem oAdd32 {x y : Int32} (h : -2147483648 ≤ (x.toInt + y.toInt) ∧ (x.toInt + y.toInt) < 2147483648) : (x + y).toInt = x.toInt + y.toInt := by rw [Int32.toInt_add, oBm32 h]
theorem oSub32 {x y : Int32} (h : -2147483648 ≤ (x.toInt - y.toInt) ∧ (x.toInt - y.toInt) < 2147483648) : (x - y).toInt = x.toInt - y.toInt := by rw [Int32.toInt_sub, oBm32 h]
theorem oMul32 {x y : Int32} (h : -2147483648 ≤ (x.toInt * y.toInt) ∧ (x.toInt * y.toInt) < 2147483648) : (x * y).toInt = x.toInt * y.toInt := by rw [Int32.toInt_mul, oBm32 h]
theorem oAdd64 {x y : Int64} (h : -9223372036854775808 ≤ (x.toInt + y.toInt) ∧ (x.toInt + y.toInt) < 9223372036854775808) : (x + y).toInt = x.toInt + y.toInt := by rw [Int64.toInt_add, oBm64 h]
theorem oSub64 {x y : Int64} (h : -9223372036854775808 ≤ (x.toInt - y.toInt) ∧ (x.toInt - y.toInt) < 9223372036854775808) : (x - y).toInt = x.toInt - y.toInt := by rw [Int64.toInt_sub, oBm64 h]
theorem oMul64 {x y : Int64} (h : -9223372036854775808 ≤ (x.toInt * y.toInt) ∧ (x.toInt * y.toInt) < 9223372036854775808) : (x * y).toInt = x.toInt * y.toInt := by rw [Int64.toInt_mul, oBm64 h]
theorem oRem32 {x y : Int32} (hx : 0 ≤ x.toInt) : (x % y).toInt = x.toInt % y.toInt := by rw [Int32.toInt_mod, Int.tmod_eq_emod_of_nonneg hx]
theorem oIx (x k : Int32) (hx : 0 ≤ x.toInt) (hk : 0 ≤ k.toInt) (h : x.toInt + k.toInt < 2147483648) : ¬ (x + k) < 0 ∧ (x + k).toNatClampNeg = x.toNatClampNeg + k.toNatClampNeg := by
  have e : (x + k).toInt = x.toInt + k.toInt := XT.add32 ⟨by omega, by omega⟩
  refine ⟨by rw [XT.negI32]; omega, ?_⟩
  simp only [Int32.toNatClampNeg, e]; omega
theorem oSto {l l' : Array Slot} {i : Nat} {v : Value} {o : Slot} (hold : l[i]? = some o) (ho : One o) (hv : v.category = 1) (e : l.setIfInBounds i (.val v) = l') : storeLocals l i v = some l' := by rw [XS.store1 hold ho hv, e]
theorem oEqI {t : Term} {n : Int32} {args : Array Value} {s : State} (h : (Jvm.Cond.eq t (.int n)).value args s none s [] = some true) : t.eval args s none [] s = some (.int n) := by
  simp only [Cond.value, Term.eval] at h
  cases ht : t.eval args s none [] s with
  | none => simp [ht] at h
  | some x => cases x <;> simp [ht] at h ⊢ <;> exact h
theorem oEqR {t u : Term} {b : Addr} {args : Array Value} {s : State} (h : (Jvm.Cond.eq t u).value args s none s [] = some true) (hu : u.eval args s none [] s = some (.ref b)) : t.eval args s none [] s = some (.ref b) := by
  simp only [Cond.value, hu] at h
  cases ht : t.eval args s none [] s with
  | none => simp [ht] at h
  | some x => cases x <;> simp [ht] at h ⊢ <;> exact h
theorem oN0 {x : Int32} (hx : 0 ≤ x.toInt) : ¬ x < 0 := by rw [XT.negI32]; omega
theorem oB8 (x : Int32) : nar .byte x.toInt8.toInt32 = x.toInt8.toInt32 := by simp [nar]
theorem oLt {α : Type} {l : List α} {i : Nat} {x : α} (h : l[i]? = some x) : i < l.length := (List.getElem?_eq_some_iff.mp h).1
theorem oNarR {t : FieldType} {v : Value} (h : v.isRef = true) : narrow t v = v := by cases v <;> simp [Value.isRef] at h <;> cases t <;> rfl
theorem oFitR {t : FieldType} {v : Value} (ht : t.isReference = true) (h : v.isRef = true) : fits t v = true := by cases v <;> simp [Value.isRef] at h <;> cases t <;> first | rfl | cases ht
def oPre (V W : oVw) : Prop := ∃ tl, W = V ++ tl
theorem oPre.rfl {V : oVw} : oPre V V := ⟨[], by simp⟩
theorem oPre.app {V W r : oVw} (P : oPre V W) : oPre V (W ++ r) := by obtain ⟨tl, h⟩ := P; exact ⟨tl ++ r, by rw [h, List.append_assoc]⟩
theorem oPre.set {V W : oVw} {i : Nat} {x : Addr × oOb} (P : oPre V W) (h : V.length ≤ i) : oPre V (W.set i x) := by obtain ⟨tl, e⟩ := P; exact ⟨tl.set (i - V.length) x, by rw [e, List.set_append_right _ _ h]⟩
theorem oPre.get {V W : oVw} {i : Nat} {x : Addr × oOb} (P : oPre V W) (h : V[i]? = some x) : W[i]? = some x := by obtain ⟨tl, e⟩ := P; rw [e]; exact oAppGet h
theorem oPre.trans {U V W : oVw} (P : oPre U V) (Q : oPre V W) : oPre U W := by obtain ⟨t1, e1⟩ := P; obtain ⟨t2, e2⟩ := Q; exact ⟨t1 ++ t2, by rw [e2, e1, List.append_assoc]⟩
theorem own_ff (u : Int32) : 0 ≤ (u &&& (255 : Int32)).toInt ∧ (u &&& (255 : Int32)).toInt ≤ 255 := by
  have h := c_mask u 255 8 (by decide) (by decide)
  omega
theorem own_ch {y : Int32} (h : 0 ≤ y.toInt ∧ y.toInt ≤ 255) : y.toUInt32.toUInt16.toUInt32.toInt32 = y := by
  have e1 : y.toUInt32.toNat = y.toInt.toNat := by
    have q : y.toInt = y.toBitVec.toInt := rfl
    have r : y.toUInt32.toNat = y.toBitVec.toNat := rfl
    have z := BitVec.toInt_eq_toNat_cond y.toBitVec
    have lt := y.toBitVec.isLt
    rw [q] at h ⊢; rw [r]
    split at z <;> omega
  apply Int32.toInt_inj.mp
  have e2 : y.toUInt32.toUInt16.toUInt32.toNat = y.toInt.toNat := by
    simp only [UInt16.toNat_toUInt32, UInt32.toNat_toUInt16, e1]; omega
  have q : y.toUInt32.toUInt16.toUInt32.toInt32.toInt = y.toUInt32.toUInt16.toUInt32.toBitVec.toInt := rfl
  have r : y.toUInt32.toUInt16.toUInt32.toNat = y.toUInt32.toUInt16.toUInt32.toBitVec.toNat := rfl
  have z := BitVec.toInt_eq_toNat_cond y.toUInt32.toUInt16.toUInt32.toBitVec
  rw [q]; rw [r] at e2
  split at z <;> omega
theorem own_nc {y : Int32} (h : 0 ≤ y.toInt ∧ y.toInt ≤ 255) : nar .char y = y := own_ch h
theorem own_le {y : Int32} (h : 0 ≤ y.toInt ∧ y.toInt ≤ 255) : ¬ (255 : Int32) < y := by
  rw [Int32.lt_iff_toInt_lt]; have e : (255 : Int32).toInt = 255 := rfl; omega
theorem own_str {Z : State} {a0 : Array Value} (hw : ∀ d ∈ tables_1, d.before a0 Z = true) : ∀ a ∈ Bundle.stringAtoms, a.before a0 Z = true := fun a ha => by
  simp only [Bundle.stringAtoms, List.mem_cons, List.not_mem_nil, or_false] at ha
  rcases ha with rfl | rfl | rfl | rfl | rfl | rfl | rfl
  · exact (hw _ (List.mem_of_getElem? (i := 7) rfl))
  · exact (hw _ (List.mem_of_getElem? (i := 6) rfl))
  · exact (hw _ (List.mem_of_getElem? (i := 23) rfl))
  · exact (hw _ (List.mem_of_getElem? (i := 33) rfl))
  · exact (hw _ (List.mem_of_getElem? (i := 31) rfl))
  · exact (hw _ (List.mem_of_getElem? (i := 35) rfl))
  · exact (hw _ (List.mem_of_getElem? (i := 36) rfl))
theorem d6_0 : decode jdk_52_method_21_code 0 = .ok (.iconst 0, 1) := by decide +kernel
theorem d6_1 : decode jdk_52_method_21_code 1 = .ok (.istore 5, 2) := by decide +kernel
theorem d6_3 : decode jdk_52_method_21_code 3 = .ok (.iload 5, 2) := by decide +kernel
theorem d6_5 : decode jdk_52_method_21_code 5 = .ok (.iload 4, 2) := by decide +kernel
theorem d6_7 : decode jdk_52_method_21_code 7 = .ok (.if_icmp .ge 37, 3) := by decide +kernel
theorem d6_10 : decode jdk_52_method_21_code 10 = .ok (.aload_n 0, 1) := by decide +kernel
theorem d6_11 : decode jdk_52_method_21_code 11 = .ok (.iload_n 1, 1) := by decide +kernel
theorem d6_12 : decode jdk_52_method_21_code 12 = .ok (.caload, 1) := by decide +kernel
theorem d6_13 : decode jdk_52_method_21_code 13 = .ok (.istore 6, 2) := by decide +kernel
theorem d6_15 : decode jdk_52_method_21_code 15 = .ok (.iload 6, 2) := by decide +kernel
theorem d6_17 : decode jdk_52_method_21_code 17 = .ok (.sipush 255, 3) := by decide +kernel
theorem d6_20 : decode jdk_52_method_21_code 20 = .ok (.if_icmp .le 6, 3) := by decide +kernel
theorem d6_26 : decode jdk_52_method_21_code 26 = .ok (.aload_n 2, 1) := by decide +kernel
theorem d6_27 : decode jdk_52_method_21_code 27 = .ok (.iload_n 3, 1) := by decide +kernel
theorem d6_28 : decode jdk_52_method_21_code 28 = .ok (.iload 6, 2) := by decide +kernel
theorem d6_30 : decode jdk_52_method_21_code 30 = .ok (.i2b, 1) := by decide +kernel
theorem d6_31 : decode jdk_52_method_21_code 31 = .ok (.bastore, 1) := by decide +kernel
theorem d6_32 : decode jdk_52_method_21_code 32 = .ok (.iinc 1 1, 3) := by decide +kernel
theorem d6_35 : decode jdk_52_method_21_code 35 = .ok (.iinc 3 1, 3) := by decide +kernel
theorem d6_38 : decode jdk_52_method_21_code 38 = .ok (.iinc 5 1, 3) := by decide +kernel
theorem d6_41 : decode jdk_52_method_21_code 41 = .ok (.goto (-38), 3) := by decide +kernel
theorem d6_44 : decode jdk_52_method_21_code 44 = .ok (.iload 4, 2) := by decide +kernel
theorem d6_46 : decode jdk_52_method_21_code 46 = .ok (.ireturn, 1) := by decide +kernel
theorem pn_java_lang_StringUTF16 : plainName "java/lang/StringUTF16" = true := by first | (simp [plainName, overriddenIn]; done) | decide +kernel
set_option maxRecDepth 65536 in
set_option maxHeartbeats 40000000 in
theorem cC1 (l : Launch) (Z : State) (a0 : Array Value) (hw : ∀ d ∈ tables_1, d.before a0 Z = true) {V : oVw} (a : Addr) (b : Addr) (w0 : Int32) {i : Nat} (hi : V[i]? = some (a, (.inr (.char, [(.int w0)])))) {k : Nat} (hk : V[k]? = some (b, (.inr (.byte, [(.int (0 : Int32))])))) (hik : k ≠ i) (b0 : 0 ≤ w0.toInt ∧ w0.toInt ≤ 255) :
    oCon false l Z (⟨"java/lang/StringUTF16", "compress", "([CI[BII)I"⟩ : MethodName) jdk_52_method_21_code 7 (some .int) ({ frames := 0, cells := 0, slots := 0, locals := 0 } : Room) #[(.ref a), (.int (0 : Int32)), (.ref b), (.int (0 : Int32)), (.int (1 : Int32))] V (fun v V' => v = some (.int (1 : Int32)) ∧ V' = V.set k (b, .inr (.byte, [(.int w0.toInt8.toInt32)]))) := by
  refine oEnter (plainFor_of_name pn_java_lang_StringUTF16) (Ls := #[.val (.ref a), .val (.int (0 : Int32)), .val (.ref b), .val (.int (0 : Int32)), .val (.int (1 : Int32)), .unset, .unset]) (fun m => by first | (simp [entryFrame, mkF, argsToLocals, Value.category]; done) | rfl) ?_
  intro p e s m below meth c T E X
  refine gIconst E X d6_0 (v := (0 : Int32)) (by decide) (q := 1) rfl ?_
  refine gIstore E X d6_1 (l' := #[.val (.ref a), .val (.int (0 : Int32)), .val (.ref b), .val (.int (0 : Int32)), .val (.int (1 : Int32)), .val (.int (0 : Int32)), .unset]) rfl (q := 3) rfl ?_
  refine gIload E X d6_3 rfl (q := 5) rfl ?_
  refine gIload E X d6_5 rfl (q := 7) rfl ?_
  refine gIc_ge E X d6_7 (by decide) (q := 44) (by decide) (q' := 10) rfl (fun h7 => by exfalso; exact absurd h7 (by decide)) (fun h7 => ?_)
  refine gAloadN E X d6_10 rfl rfl (q := 11) rfl ?_
  refine gIloadN E X d6_11 rfl (q := 12) rfl ?_
  refine gCaload E X (i := i) (v := (.int w0)) d6_12 hi (by decide) rfl (q := 13) rfl ?_
  refine gIstore E X d6_13 (l' := #[.val (.ref a), .val (.int (0 : Int32)), .val (.ref b), .val (.int (0 : Int32)), .val (.int (1 : Int32)), .val (.int (0 : Int32)), .val (.int w0)]) rfl (q := 15) rfl ?_
  refine gIload E X d6_15 rfl (q := 17) rfl ?_
  refine gSipush E X d6_17 (v := (255 : Int32)) (by decide) (q := 20) rfl ?_
  refine gIc_le E X d6_20 (by decide) (q := 26) (by decide) (q' := 23) rfl (fun h20 => ?_) (fun h20 => by exfalso; exact own_le b0 h20)
  refine gAloadN E X d6_26 rfl rfl (q := 27) rfl ?_
  refine gIloadN E X d6_27 rfl (q := 28) rfl ?_
  refine gIload E X d6_28 rfl (q := 30) rfl ?_
  refine gI2b E X d6_30 (z := w0.toInt8.toInt32) rfl (q := 31) rfl ?_
  refine gBastore E X (i := k) (jn := 0) (x' := w0.toInt8.toInt32) (V' := (V.set k (b, (.inr (.byte, [(.int w0.toInt8.toInt32)]))))) d6_31 hk (by decide) rfl (by show 0 < 1; decide) (oB8 _) rfl (q := 32) rfl ?_
  intro T1 X1
  obtain ⟨V1, eV1⟩ : ∃ z, z = (V.set k (b, (.inr (.byte, [(.int w0.toInt8.toInt32)])))) := ⟨_, rfl⟩
  rw [← eV1] at X1
  have i1_0 := (eV1 ▸ oSetNe hik hi : V1[i]? = some (a, (.inr (.char, [(.int w0)]))))
  have i1_1 := (eV1 ▸ oSetGet hk : V1[k]? = some (b, (.inr (.byte, [(.int w0.toInt8.toInt32)]))))
  refine gIincV E X1 (1 : Int32) (1 : Int32) d6_32 (by decide) rfl (by decide) (l' := #[.val (.ref a), .val (.int (1 : Int32)), .val (.ref b), .val (.int (0 : Int32)), .val (.int (1 : Int32)), .val (.int (0 : Int32)), .val (.int w0)]) rfl (q := 35) rfl ?_
  refine gIincV E X1 (1 : Int32) (1 : Int32) d6_35 (by decide) rfl (by decide) (l' := #[.val (.ref a), .val (.int (1 : Int32)), .val (.ref b), .val (.int (1 : Int32)), .val (.int (1 : Int32)), .val (.int (0 : Int32)), .val (.int w0)]) rfl (q := 38) rfl ?_
  refine gIincV E X1 (1 : Int32) (1 : Int32) d6_38 (by decide) rfl (by decide) (l' := #[.val (.ref a), .val (.int (1 : Int32)), .val (.ref b), .val (.int (1 : Int32)), .val (.int (1 : Int32)), .val (.int (1 : Int32)), .val (.int w0)]) rfl (q := 41) rfl ?_
  refine gGoto E X1 d6_41 (by decide) (q := 3) (by decide) ?_
  refine gIload E X1 d6_3 rfl (q := 5) rfl ?_
  refine gIload E X1 d6_5 rfl (q := 7) rfl ?_
  refine gIc_ge E X1 d6_7 (by decide) (q := 44) (by decide) (q' := 10) rfl (fun h7 => ?_) (fun h7 => by exfalso; exact absurd h7 (by decide))
  refine gIload E X1 d6_44 rfl (q := 46) rfl ?_
  exact gRetI E X1 d6_46 (by decide) (by decide) (by decide) (⟨rfl, by simp only [eV1, List.set_set]⟩)
theorem pd_0 : parseMethodDescriptor "([CI[BII)I" = some ⟨[(.array .char), .int, (.array .byte), .int, .int], some .int⟩ := by decide +kernel
theorem d5_0 : decode jdk_52_method_16_code 0 = .ok (.iload_n 2, 1) := by decide +kernel
theorem d5_1 : decode jdk_52_method_16_code 1 = .ok (.newarray .byte, 2) := by decide +kernel
theorem d5_3 : decode jdk_52_method_16_code 3 = .ok (.astore_n 3, 1) := by decide +kernel
theorem d5_4 : decode jdk_52_method_16_code 4 = .ok (.aload_n 0, 1) := by decide +kernel
theorem d5_5 : decode jdk_52_method_16_code 5 = .ok (.iload_n 1, 1) := by decide +kernel
theorem d5_6 : decode jdk_52_method_16_code 6 = .ok (.aload_n 3, 1) := by decide +kernel
theorem d5_7 : decode jdk_52_method_16_code 7 = .ok (.iconst 0, 1) := by decide +kernel
theorem d5_8 : decode jdk_52_method_16_code 8 = .ok (.iload_n 2, 1) := by decide +kernel
theorem d5_9 : decode jdk_52_method_16_code 9 = .ok (.invokestatic 115, 3) := by decide +kernel
theorem d5_12 : decode jdk_52_method_16_code 12 = .ok (.istore 4, 2) := by decide +kernel
theorem d5_14 : decode jdk_52_method_16_code 14 = .ok (.iload 4, 2) := by decide +kernel
theorem d5_16 : decode jdk_52_method_16_code 16 = .ok (.iload_n 2, 1) := by decide +kernel
theorem d5_17 : decode jdk_52_method_16_code 17 = .ok (.if_icmp .eq 40, 3) := by decide +kernel
theorem d5_57 : decode jdk_52_method_16_code 57 = .ok (.aload_n 3, 1) := by decide +kernel
theorem d5_58 : decode jdk_52_method_16_code 58 = .ok (.areturn, 1) := by decide +kernel
set_option maxRecDepth 65536 in
set_option maxHeartbeats 40000000 in
theorem cB1 (l : Launch) (Z : State) (a0 : Array Value) (hw : ∀ d ∈ tables_1, d.before a0 Z = true) {V : oVw} (a : Addr) (w0 : Int32) {i : Nat} (hi : V[i]? = some (a, (.inr (.char, [(.int w0)])))) (b0 : 0 ≤ w0.toInt ∧ w0.toInt ≤ 255) :
    oCon false l Z (⟨"java/lang/StringUTF16", "compress", "([CII)[B"⟩ : MethodName) jdk_52_method_16_code 6 (some (.array .byte)) ({ frames := 1, cells := 1, slots := 1, locals := 18 } : Room) #[(.ref a), (.int (0 : Int32)), (.int (1 : Int32))] V (fun v V' => ∃ b, v = some (.ref b) ∧ V' = V ++ [(b, .inr (.byte, [(.int w0.toInt8.toInt32)]))]) := by
  refine oEnter (plainFor_of_name pn_java_lang_StringUTF16) (Ls := #[.val (.ref a), .val (.int (0 : Int32)), .val (.int (1 : Int32)), .unset, .unset, .unset]) (fun m => by first | (simp [entryFrame, mkF, argsToLocals, Value.category]; done) | rfl) ?_
  intro p e s m below meth c T E X
  refine gIloadN E X d5_0 rfl (q := 1) rfl ?_
  refine gNewA E X (c2 := 1) (s2 := 1) (cap := 1) (vs := [(.int (0 : Int32))]) (ty := .byte) rfl d5_1 (hw _ (List.mem_of_getElem? (i := 23) rfl)) (by decide) (by decide) (by decide) rfl (by decide) (by decide) (by decide) (by decide) (q := 3) rfl ?_
  intro T1 a1 X1
  obtain ⟨V1, eV1⟩ : ∃ z, z = V ++ [(a1, (.inr (.byte, [(.int (0 : Int32))])))] := ⟨_, rfl⟩
  rw [← eV1] at X1
  have i1_0 := (eV1 ▸ oAppGet hi : V1[i]? = some (a, (.inr (.char, [(.int w0)]))))
  have i1_1 := (eV1 ▸ oAppLast : V1[V.length]? = some (a1, (.inr (.byte, [(.int (0 : Int32))]))))
  refine gAstoreN E X1 d5_3 rfl (l' := #[.val (.ref a), .val (.int (0 : Int32)), .val (.int (1 : Int32)), .val (.ref a1), .unset, .unset]) rfl (q := 4) rfl ?_
  refine gAloadN E X1 d5_4 rfl rfl (q := 5) rfl ?_
  refine gIloadN E X1 d5_5 rfl (q := 6) rfl ?_
  refine gAloadN E X1 d5_6 rfl rfl (q := 7) rfl ?_
  refine gIconst E X1 d5_7 (v := (0 : Int32)) (by decide) (q := 8) rfl ?_
  refine gIloadN E X1 d5_8 rfl (q := 9) rfl ?_
  refine gCallS E X1 (W := 0) (c2 := 1) (s2 := 1) [(.ref a), (.int (0 : Int32)), (.ref a1), (.int (0 : Int32)), (.int (1 : Int32))] [] d5_9 (hw _ (List.mem_of_getElem? (i := 24) rfl)) (hw _ (List.mem_of_getElem? (i := 25) rfl)) (hw _ (List.mem_of_getElem? (i := 21) rfl)) (hw _ (List.mem_of_getElem? (i := 26) rfl)) (by decide) (cC1 l Z a0 hw a a1 w0 (i := i) i1_0 (k := V.length) i1_1 (Ne.symm (Nat.ne_of_lt (oLt hi))) b0) pd_0 rfl rfl rfl (by decide) (Nat.le_of_eq rfl) (by decide) (by decide) (by decide) (by decide) (by decide) (by decide) (q := 12) rfl ?_
  intro T2 v2 V2 R2 X2
  obtain ⟨rfl, eV2⟩ := R2
  have i2_0 := (eV2 ▸ oSetNe (Ne.symm (Nat.ne_of_lt (oLt hi))) i1_0 : V2[i]? = some (a, (.inr (.char, [(.int w0)]))))
  have i2_1 := (eV2 ▸ oSetGet i1_1 : V2[V.length]? = some (a1, (.inr (.byte, [(.int w0.toInt8.toInt32)]))))
  show oG false p e below s Z ({ frames := 1, cells := 1, slots := 1, locals := 18 } : Room) (fun v V' => ∃ b, v = some (.ref b) ∧ V' = V ++ [(b, .inr (.byte, [(.int w0.toInt8.toInt32)]))]) T2 (mkF m 12 #[.val (.ref a), .val (.int (0 : Int32)), .val (.int (1 : Int32)), .val (.ref a1), .unset, .unset] [(.int (1 : Int32))])
  refine gIstore E X2 d5_12 (l' := #[.val (.ref a), .val (.int (0 : Int32)), .val (.int (1 : Int32)), .val (.ref a1), .val (.int (1 : Int32)), .unset]) rfl (q := 14) rfl ?_
  refine gIload E X2 d5_14 rfl (q := 16) rfl ?_
  refine gIloadN E X2 d5_16 rfl (q := 17) rfl ?_
  refine gIc_eq E X2 d5_17 (by decide) (q := 57) (by decide) (q' := 20) rfl (fun h17 => ?_) (fun h17 => by exfalso; exact absurd h17 (by decide))
  refine gAloadN E X2 d5_57 rfl rfl (q := 58) rfl ?_
  exact gRetA E X2 rfl d5_58 (by decide) (by decide) (by decide) rfl rfl (⟨a1, rfl, by rw [eV2, eV1, oAppSetLast]⟩)
theorem d7_0 : decode jdk_52_method_15_code 0 = .ok (.iload_n 1, 1) := by decide +kernel
theorem d7_1 : decode jdk_52_method_15_code 1 = .ok (.aload_n 0, 1) := by decide +kernel
theorem d7_2 : decode jdk_52_method_15_code 2 = .ok (.arraylength, 1) := by decide +kernel
theorem d7_3 : decode jdk_52_method_15_code 3 = .ok (.isub, 1) := by decide +kernel
theorem d7_4 : decode jdk_52_method_15_code 4 = .ok (.bipush 31, 2) := by decide +kernel
theorem d7_6 : decode jdk_52_method_15_code 6 = .ok (.iushr, 1) := by decide +kernel
theorem d7_7 : decode jdk_52_method_15_code 7 = .ok (.i2b, 1) := by decide +kernel
theorem d7_8 : decode jdk_52_method_15_code 8 = .ok (.ireturn, 1) := by decide +kernel
set_option maxRecDepth 65536 in
set_option maxHeartbeats 40000000 in
theorem cD1 (l : Launch) (Z : State) (a0 : Array Value) (hw : ∀ d ∈ tables_1, d.before a0 Z = true) {V : oVw} (a : Addr) (w0 : Int32) {i : Nat} (hi : V[i]? = some (a, (.inr (.byte, [(.int w0.toInt8.toInt32)]))))  :
    oCon false l Z (⟨"java/lang/StringUTF16", "coderFromArrayLen", "([BI)B"⟩ : MethodName) jdk_52_method_15_code 2 (some .byte) ({ frames := 0, cells := 0, slots := 0, locals := 0 } : Room) #[(.ref a), (.int (1 : Int32))] V (fun v V' => v = some (.int 0) ∧ V' = V) := by
  refine oEnter (plainFor_of_name pn_java_lang_StringUTF16) (Ls := #[.val (.ref a), .val (.int (1 : Int32))]) (fun m => by first | (simp [entryFrame, mkF, argsToLocals, Value.category]; done) | rfl) ?_
  intro p e s m below meth c T E X
  refine gIloadN E X d7_0 rfl (q := 1) rfl ?_
  refine gAloadN E X d7_1 rfl rfl (q := 2) rfl ?_
  refine gLen E X (i := i) (z := (1 : Int32)) d7_2 hi rfl (q := 3) rfl ?_
  refine gIsub E X d7_3 (z := (0 : Int32)) (by decide) (q := 4) rfl ?_
  refine gBipush E X d7_4 (v := (31 : Int32)) (by decide) (q := 6) rfl ?_
  refine gIushr E X d7_6 (z := (0 : Int32)) (by decide) (q := 7) rfl ?_
  refine gI2b E X d7_7 (z := (0 : Int32)) (by decide) (q := 8) rfl ?_
  exact gRetN E X (by simp) d7_8 (by decide) (by decide) (by decide) (⟨by decide, rfl⟩)
theorem pd_1 : parseMethodDescriptor "([CII)[B" = some ⟨[(.array .char), .int, .int], some (.array .byte)⟩ := by decide +kernel
theorem pd_2 : parseMethodDescriptor "([BI)B" = some ⟨[(.array .byte), .int], some .byte⟩ := by decide +kernel
theorem d3_0 : decode jdk_42_method_149_code 0 = .ok (.aload_n 0, 1) := by decide +kernel
theorem d3_1 : decode jdk_42_method_149_code 1 = .ok (.invokespecial 1, 3) := by decide +kernel
theorem d3_4 : decode jdk_42_method_149_code 4 = .ok (.iload_n 3, 1) := by decide +kernel
theorem d3_5 : decode jdk_42_method_149_code 5 = .ok (.ifCond .ne 22, 3) := by decide +kernel
theorem d3_27 : decode jdk_42_method_149_code 27 = .ok (.getstatic 38, 3) := by decide +kernel
theorem d3_30 : decode jdk_42_method_149_code 30 = .ok (.ifCond .eq 28, 3) := by decide +kernel
theorem d3_33 : decode jdk_42_method_149_code 33 = .ok (.aload_n 1, 1) := by decide +kernel
theorem d3_34 : decode jdk_42_method_149_code 34 = .ok (.iload_n 2, 1) := by decide +kernel
theorem d3_35 : decode jdk_42_method_149_code 35 = .ok (.iload_n 3, 1) := by decide +kernel
theorem d3_36 : decode jdk_42_method_149_code 36 = .ok (.invokestatic 177, 3) := by decide +kernel
theorem d3_39 : decode jdk_42_method_149_code 39 = .ok (.astore 5, 2) := by decide +kernel
theorem d3_41 : decode jdk_42_method_149_code 41 = .ok (.aload_n 0, 1) := by decide +kernel
theorem d3_42 : decode jdk_42_method_149_code 42 = .ok (.aload 5, 2) := by decide +kernel
theorem d3_44 : decode jdk_42_method_149_code 44 = .ok (.iload_n 3, 1) := by decide +kernel
theorem d3_45 : decode jdk_42_method_149_code 45 = .ok (.invokestatic 47, 3) := by decide +kernel
theorem d3_48 : decode jdk_42_method_149_code 48 = .ok (.putfield 15, 3) := by decide +kernel
theorem d3_51 : decode jdk_42_method_149_code 51 = .ok (.aload_n 0, 1) := by decide +kernel
theorem d3_52 : decode jdk_42_method_149_code 52 = .ok (.aload 5, 2) := by decide +kernel
theorem d3_54 : decode jdk_42_method_149_code 54 = .ok (.putfield 9, 3) := by decide +kernel
theorem d3_57 : decode jdk_42_method_149_code 57 = .ok (.return_, 1) := by decide +kernel
theorem pn_java_lang_String : plainName "java/lang/String" = true := by first | (simp [plainName, overriddenIn]; done) | decide +kernel
set_option maxRecDepth 65536 in
set_option maxHeartbeats 40000000 in
theorem cS1 (l : Launch) (Z : State) (a0 : Array Value) (hw : ∀ d ∈ tables_1, d.before a0 Z = true) {V : oVw} (a : Addr) (b : Addr) (w0 : Int32) (cs : Int32) {i : Nat} (hi : V[i]? = some (a, (.inl ("java/lang/String", [("java/lang/String", "coder", "B", (.int (0 : Int32))), ("java/lang/String", "value", "[B", .null)])))) {k : Nat} (hk : V[k]? = some (b, (.inr (.char, [(.int w0)])))) (hik : k ≠ i) (SC : Sta Z Z.heap "java/lang/String" "COMPACT_STRINGS" "Z" (.int cs)) (hcs : ¬ cs = 0) (b0 : 0 ≤ w0.toInt ∧ w0.toInt ≤ 255) :
    oCon false l Z (⟨"java/lang/String", "<init>", "([CIILjava/lang/Void;)V"⟩ : MethodName) jdk_42_method_149_code 6 none ({ frames := 2, cells := 1, slots := 1, locals := 35 } : Room) #[(.ref a), (.ref b), (.int (0 : Int32)), (.int (1 : Int32)), .null] V (fun v V' => ∃ b', v = none ∧ V' = V.set i (a, (.inl ("java/lang/String", [("java/lang/String", "coder", "B", (.int (0 : Int32))), ("java/lang/String", "value", "[B", (.ref b'))]))) ++ [(b', .inr (.byte, [(.int w0.toInt8.toInt32)]))]) := by
  refine oEnter (plainFor_of_name pn_java_lang_String) (Ls := #[.val (.ref a), .val (.ref b), .val (.int (0 : Int32)), .val (.int (1 : Int32)), .val .null, .unset]) (fun m => by first | (simp [entryFrame, mkF, argsToLocals, Value.category]; done) | rfl) ?_
  intro p e s m below meth c T E X
  refine gAloadN E X d3_0 rfl rfl (q := 1) rfl ?_
  refine gInitO E X (W := 0) d3_1 (hw _ (List.mem_of_getElem? (i := 15) rfl)) (hw _ (List.mem_of_getElem? (i := 16) rfl)) (hw _ (List.mem_of_getElem? (i := 17) rfl)) rfl (by decide) (Nat.le_of_eq rfl) (by decide) (q := 4) rfl ?_
  intro T1 X1
  refine gIloadN E X1 d3_4 rfl (q := 5) rfl ?_
  refine gIf_ne E X1 d3_5 (by decide) (q := 27) (by decide) (q' := 8) rfl (fun h5 => ?_) (fun h5 => by exfalso; exact absurd h5 (by decide))
  refine gGetS E X1 d3_27 (hw _ (List.mem_of_getElem? (i := 18) rfl)) Via.refl SC (q := 30) rfl ?_
  intro T2 X2
  refine gIf_eq E X2 d3_30 (by decide) (q := 58) (by decide) (q' := 33) rfl (fun h30 => by exfalso; exact hcs h30) (fun h30 => ?_)
  refine gAloadN E X2 d3_33 rfl rfl (q := 34) rfl ?_
  refine gIloadN E X2 d3_34 rfl (q := 35) rfl ?_
  refine gIloadN E X2 d3_35 rfl (q := 36) rfl ?_
  refine gCallS E X2 (W := 0) (c2 := 1) (s2 := 1) [(.ref b), (.int (0 : Int32)), (.int (1 : Int32))] [] d3_36 (hw _ (List.mem_of_getElem? (i := 19) rfl)) (hw _ (List.mem_of_getElem? (i := 20) rfl)) (hw _ (List.mem_of_getElem? (i := 21) rfl)) (hw _ (List.mem_of_getElem? (i := 22) rfl)) (by decide) (cB1 l Z a0 hw b w0 (i := k) hk b0) pd_1 rfl rfl rfl (by decide) (Nat.le_of_eq rfl) (by decide) (by decide) (by decide) (by decide) (by decide) (by decide) (q := 39) rfl ?_
  intro T3 v3 V3 R3 X3
  obtain ⟨b3', rfl, eV3⟩ := R3
  have i3_0 := (eV3 ▸ oAppGet hi : V3[i]? = some (a, (.inl ("java/lang/String", [("java/lang/String", "coder", "B", (.int (0 : Int32))), ("java/lang/String", "value", "[B", .null)]))))
  have i3_1 := (eV3 ▸ oAppGet hk : V3[k]? = some (b, (.inr (.char, [(.int w0)]))))
  have i3_2 := (eV3 ▸ oAppLast : V3[V.length]? = some (b3', (.inr (.byte, [(.int w0.toInt8.toInt32)]))))
  show oG false p e below s Z ({ frames := 2, cells := 1, slots := 1, locals := 35 } : Room) (fun v V' => ∃ b', v = none ∧ V' = V.set i (a, (.inl ("java/lang/String", [("java/lang/String", "coder", "B", (.int (0 : Int32))), ("java/lang/String", "value", "[B", (.ref b'))]))) ++ [(b', .inr (.byte, [(.int w0.toInt8.toInt32)]))]) T3 (mkF m 39 #[.val (.ref a), .val (.ref b), .val (.int (0 : Int32)), .val (.int (1 : Int32)), .val .null, .unset] [(.ref b3')])
  refine gAstore E X3 d3_39 rfl (l' := #[.val (.ref a), .val (.ref b), .val (.int (0 : Int32)), .val (.int (1 : Int32)), .val .null, .val (.ref b3')]) rfl (q := 41) rfl ?_
  refine gAloadN E X3 d3_41 rfl rfl (q := 42) rfl ?_
  refine gAload E X3 d3_42 rfl rfl (q := 44) rfl ?_
  refine gIloadN E X3 d3_44 rfl (q := 45) rfl ?_
  refine gCallS E X3 (W := 1) (c2 := 1) (s2 := 1) [(.ref b3'), (.int (1 : Int32))] [(.ref a)] d3_45 (hw _ (List.mem_of_getElem? (i := 27) rfl)) (hw _ (List.mem_of_getElem? (i := 28) rfl)) (hw _ (List.mem_of_getElem? (i := 21) rfl)) (hw _ (List.mem_of_getElem? (i := 29) rfl)) (by decide) (cD1 l Z a0 hw b3' w0 (i := V.length) i3_2) pd_2 rfl rfl rfl (by decide) (Nat.le_of_eq rfl) (by decide) (by decide) (by decide) (by decide) (by decide) (by decide) (q := 48) rfl ?_
  intro T4 v4 V4 R4 X4
  obtain ⟨rfl, eQ4⟩ := R4
  rw [eQ4] at X4
  show oG false p e below s Z ({ frames := 2, cells := 1, slots := 1, locals := 35 } : Room) (fun v V' => ∃ b', v = none ∧ V' = V.set i (a, (.inl ("java/lang/String", [("java/lang/String", "coder", "B", (.int (0 : Int32))), ("java/lang/String", "value", "[B", (.ref b'))]))) ++ [(b', .inr (.byte, [(.int w0.toInt8.toInt32)]))]) T4 (mkF m 48 #[.val (.ref a), .val (.ref b), .val (.int (0 : Int32)), .val (.int (1 : Int32)), .val .null, .val (.ref b3')] [(.int (0 : Int32)), (.ref a)])
  refine gPutF E X4 d3_48 (hw _ (List.mem_of_getElem? (i := 30) rfl)) Via.refl (i := i) i3_0 (j := 0) rfl (Or.inr ⟨(hw _ (List.mem_of_getElem? (i := 31) rfl)), rfl, rfl⟩) (hw _ (List.mem_of_getElem? (i := 6) rfl)) (ty := .byte) (by decide) rfl rfl (V' := (V3.set i (a, (.inl ("java/lang/String", [("java/lang/String", "coder", "B", (.int (0 : Int32))), ("java/lang/String", "value", "[B", .null)]))))) rfl (q := 51) rfl ?_
  intro T5 X5
  obtain ⟨V5, eV5⟩ : ∃ z, z = (V3.set i (a, (.inl ("java/lang/String", [("java/lang/String", "coder", "B", (.int (0 : Int32))), ("java/lang/String", "value", "[B", .null)])))) := ⟨_, rfl⟩
  rw [← eV5] at X5
  have i5_0 := (eV5 ▸ oSetGet i3_0 : V5[i]? = some (a, (.inl ("java/lang/String", [("java/lang/String", "coder", "B", (.int (0 : Int32))), ("java/lang/String", "value", "[B", .null)]))))
  have i5_1 := (eV5 ▸ oSetNe (Ne.symm hik) i3_1 : V5[k]? = some (b, (.inr (.char, [(.int w0)]))))
  have i5_2 := (eV5 ▸ oSetNe (Nat.ne_of_lt (oLt hi)) i3_2 : V5[V.length]? = some (b3', (.inr (.byte, [(.int w0.toInt8.toInt32)]))))
  refine gAloadN E X5 d3_51 rfl rfl (q := 52) rfl ?_
  refine gAload E X5 d3_52 rfl rfl (q := 54) rfl ?_
  refine gPutF E X5 d3_54 (hw _ (List.mem_of_getElem? (i := 32) rfl)) Via.refl (i := i) i5_0 (j := 1) rfl (Or.inr ⟨(hw _ (List.mem_of_getElem? (i := 33) rfl)), rfl, rfl⟩) (hw _ (List.mem_of_getElem? (i := 6) rfl)) (ty := (.array .byte)) (by decide) rfl rfl (V' := (V5.set i (a, (.inl ("java/lang/String", [("java/lang/String", "coder", "B", (.int (0 : Int32))), ("java/lang/String", "value", "[B", (.ref b3'))]))))) rfl (q := 57) rfl ?_
  intro T6 X6
  obtain ⟨V6, eV6⟩ : ∃ z, z = (V5.set i (a, (.inl ("java/lang/String", [("java/lang/String", "coder", "B", (.int (0 : Int32))), ("java/lang/String", "value", "[B", (.ref b3'))])))) := ⟨_, rfl⟩
  rw [← eV6] at X6
  have i6_0 := (eV6 ▸ oSetGet i5_0 : V6[i]? = some (a, (.inl ("java/lang/String", [("java/lang/String", "coder", "B", (.int (0 : Int32))), ("java/lang/String", "value", "[B", (.ref b3'))]))))
  have i6_1 := (eV6 ▸ oSetNe (Ne.symm hik) i5_1 : V6[k]? = some (b, (.inr (.char, [(.int w0)]))))
  have i6_2 := (eV6 ▸ oSetNe (Nat.ne_of_lt (oLt hi)) i5_2 : V6[V.length]? = some (b3', (.inr (.byte, [(.int w0.toInt8.toInt32)]))))
  exact gRetV E X6 d3_57 (by decide) (by decide) (by decide) (⟨b3', rfl, by rw [eV6, eV5, List.set_set, eV3, oAppSet hi]⟩)
theorem pd_3 : parseMethodDescriptor "([CIILjava/lang/Void;)V" = some ⟨[(.array .char), .int, .int, (.object "java/lang/Void")], none⟩ := by decide +kernel
theorem d2_0 : decode jdk_42_method_3_code 0 = .ok (.aload_n 0, 1) := by decide +kernel
theorem d2_1 : decode jdk_42_method_3_code 1 = .ok (.aload_n 1, 1) := by decide +kernel
theorem d2_2 : decode jdk_42_method_3_code 2 = .ok (.iconst 0, 1) := by decide +kernel
theorem d2_3 : decode jdk_42_method_3_code 3 = .ok (.aload_n 1, 1) := by decide +kernel
theorem d2_4 : decode jdk_42_method_3_code 4 = .ok (.arraylength, 1) := by decide +kernel
theorem d2_5 : decode jdk_42_method_3_code 5 = .ok (.aconst_null, 1) := by decide +kernel
theorem d2_6 : decode jdk_42_method_3_code 6 = .ok (.invokespecial 27, 3) := by decide +kernel
theorem d2_9 : decode jdk_42_method_3_code 9 = .ok (.return_, 1) := by decide +kernel
set_option maxRecDepth 65536 in
set_option maxHeartbeats 40000000 in
theorem cN1 (l : Launch) (Z : State) (a0 : Array Value) (hw : ∀ d ∈ tables_1, d.before a0 Z = true) {V : oVw} (a : Addr) (b : Addr) (w0 : Int32) (cs : Int32) {i : Nat} (hi : V[i]? = some (a, (.inl ("java/lang/String", [("java/lang/String", "coder", "B", (.int (0 : Int32))), ("java/lang/String", "value", "[B", .null)])))) {k : Nat} (hk : V[k]? = some (b, (.inr (.char, [(.int w0)])))) (hik : k ≠ i) (SC : Sta Z Z.heap "java/lang/String" "COMPACT_STRINGS" "Z" (.int cs)) (hcs : ¬ cs = 0) (b0 : 0 ≤ w0.toInt ∧ w0.toInt ≤ 255) :
    oCon false l Z (⟨"java/lang/String", "<init>", "([C)V"⟩ : MethodName) jdk_42_method_3_code 2 none ({ frames := 3, cells := 1, slots := 1, locals := 52 } : Room) #[(.ref a), (.ref b)] V (fun v V' => ∃ b', v = none ∧ V' = V.set i (a, (.inl ("java/lang/String", [("java/lang/String", "coder", "B", (.int (0 : Int32))), ("java/lang/String", "value", "[B", (.ref b'))]))) ++ [(b', .inr (.byte, [(.int w0.toInt8.toInt32)]))]) := by
  refine oEnter (plainFor_of_name pn_java_lang_String) (Ls := #[.val (.ref a), .val (.ref b)]) (fun m => by first | (simp [entryFrame, mkF, argsToLocals, Value.category]; done) | rfl) ?_
  intro p e s m below meth c T E X
  refine gAloadN E X d2_0 rfl rfl (q := 1) rfl ?_
  refine gAloadN E X d2_1 rfl rfl (q := 2) rfl ?_
  refine gIconst E X d2_2 (v := (0 : Int32)) (by decide) (q := 3) rfl ?_
  refine gAloadN E X d2_3 rfl rfl (q := 4) rfl ?_
  refine gLen E X (i := k) (z := (1 : Int32)) d2_4 hk rfl (q := 5) rfl ?_
  refine gNull E X d2_5 (q := 6) rfl ?_
  refine gCallI E X (W := 0) (c2 := 1) (s2 := 1) (a := a) [(.ref b), (.int (0 : Int32)), (.int (1 : Int32)), .null] [] d2_6 rfl (hw _ (List.mem_of_getElem? (i := 11) rfl)) (hw _ (List.mem_of_getElem? (i := 12) rfl)) (hw _ (List.mem_of_getElem? (i := 7) rfl)) (hw _ (List.mem_of_getElem? (i := 14) rfl)) (by decide) (cS1 l Z a0 hw a b w0 cs (i := i) hi (k := k) hk hik SC hcs b0) pd_3 rfl rfl rfl (by decide) (Nat.le_of_eq rfl) (by decide) (by decide) (by decide) (by decide) (by decide) (by decide) (q := 9) rfl ?_
  intro T1 v1 V1 R1 X1
  obtain ⟨b1', rfl, eV1⟩ := R1
  have i1_0 := (eV1 ▸ oAppGet (oSetGet hi) : V1[i]? = some (a, (.inl ("java/lang/String", [("java/lang/String", "coder", "B", (.int (0 : Int32))), ("java/lang/String", "value", "[B", (.ref b1'))]))))
  have i1_1 := (eV1 ▸ oAppGet (oSetNe (Ne.symm hik) hk) : V1[k]? = some (b, (.inr (.char, [(.int w0)]))))
  show oG false p e below s Z ({ frames := 3, cells := 1, slots := 1, locals := 52 } : Room) (fun v V' => ∃ b', v = none ∧ V' = V.set i (a, (.inl ("java/lang/String", [("java/lang/String", "coder", "B", (.int (0 : Int32))), ("java/lang/String", "value", "[B", (.ref b'))]))) ++ [(b', .inr (.byte, [(.int w0.toInt8.toInt32)]))]) T1 (mkF m 9 #[.val (.ref a), .val (.ref b)] [])
  exact gRetV E X1 d2_9 (by decide) (by decide) (by decide) (⟨b1', rfl, eV1⟩)
set_option maxRecDepth 65536 in
set_option maxHeartbeats 40000000 in
theorem cC2 (l : Launch) (Z : State) (a0 : Array Value) (hw : ∀ d ∈ tables_1, d.before a0 Z = true) {V : oVw} (a : Addr) (b : Addr) (w0 : Int32) (w1 : Int32) {i : Nat} (hi : V[i]? = some (a, (.inr (.char, [(.int w0), (.int w1)])))) {k : Nat} (hk : V[k]? = some (b, (.inr (.byte, [(.int (0 : Int32)), (.int (0 : Int32))])))) (hik : k ≠ i) (b0 : 0 ≤ w0.toInt ∧ w0.toInt ≤ 255) (b1 : 0 ≤ w1.toInt ∧ w1.toInt ≤ 255) :
    oCon false l Z (⟨"java/lang/StringUTF16", "compress", "([CI[BII)I"⟩ : MethodName) jdk_52_method_21_code 7 (some .int) ({ frames := 0, cells := 0, slots := 0, locals := 0 } : Room) #[(.ref a), (.int (0 : Int32)), (.ref b), (.int (0 : Int32)), (.int (2 : Int32))] V (fun v V' => v = some (.int (2 : Int32)) ∧ V' = V.set k (b, .inr (.byte, [(.int w0.toInt8.toInt32), (.int w1.toInt8.toInt32)]))) := by
  refine oEnter (plainFor_of_name pn_java_lang_StringUTF16) (Ls := #[.val (.ref a), .val (.int (0 : Int32)), .val (.ref b), .val (.int (0 : Int32)), .val (.int (2 : Int32)), .unset, .unset]) (fun m => by first | (simp [entryFrame, mkF, argsToLocals, Value.category]; done) | rfl) ?_
  intro p e s m below meth c T E X
  refine gIconst E X d6_0 (v := (0 : Int32)) (by decide) (q := 1) rfl ?_
  refine gIstore E X d6_1 (l' := #[.val (.ref a), .val (.int (0 : Int32)), .val (.ref b), .val (.int (0 : Int32)), .val (.int (2 : Int32)), .val (.int (0 : Int32)), .unset]) rfl (q := 3) rfl ?_
  refine gIload E X d6_3 rfl (q := 5) rfl ?_
  refine gIload E X d6_5 rfl (q := 7) rfl ?_
  refine gIc_ge E X d6_7 (by decide) (q := 44) (by decide) (q' := 10) rfl (fun h7 => by exfalso; exact absurd h7 (by decide)) (fun h7 => ?_)
  refine gAloadN E X d6_10 rfl rfl (q := 11) rfl ?_
  refine gIloadN E X d6_11 rfl (q := 12) rfl ?_
  refine gCaload E X (i := i) (v := (.int w0)) d6_12 hi (by decide) rfl (q := 13) rfl ?_
  refine gIstore E X d6_13 (l' := #[.val (.ref a), .val (.int (0 : Int32)), .val (.ref b), .val (.int (0 : Int32)), .val (.int (2 : Int32)), .val (.int (0 : Int32)), .val (.int w0)]) rfl (q := 15) rfl ?_
  refine gIload E X d6_15 rfl (q := 17) rfl ?_
  refine gSipush E X d6_17 (v := (255 : Int32)) (by decide) (q := 20) rfl ?_
  refine gIc_le E X d6_20 (by decide) (q := 26) (by decide) (q' := 23) rfl (fun h20 => ?_) (fun h20 => by exfalso; exact own_le b0 h20)
  refine gAloadN E X d6_26 rfl rfl (q := 27) rfl ?_
  refine gIloadN E X d6_27 rfl (q := 28) rfl ?_
  refine gIload E X d6_28 rfl (q := 30) rfl ?_
  refine gI2b E X d6_30 (z := w0.toInt8.toInt32) rfl (q := 31) rfl ?_
  refine gBastore E X (i := k) (jn := 0) (x' := w0.toInt8.toInt32) (V' := (V.set k (b, (.inr (.byte, [(.int w0.toInt8.toInt32), (.int (0 : Int32))]))))) d6_31 hk (by decide) rfl (by show 0 < 2; decide) (oB8 _) rfl (q := 32) rfl ?_
  intro T1 X1
  obtain ⟨V1, eV1⟩ : ∃ z, z = (V.set k (b, (.inr (.byte, [(.int w0.toInt8.toInt32), (.int (0 : Int32))])))) := ⟨_, rfl⟩
  rw [← eV1] at X1
  have i1_0 := (eV1 ▸ oSetNe hik hi : V1[i]? = some (a, (.inr (.char, [(.int w0), (.int w1)]))))
  have i1_1 := (eV1 ▸ oSetGet hk : V1[k]? = some (b, (.inr (.byte, [(.int w0.toInt8.toInt32), (.int (0 : Int32))]))))
  refine gIincV E X1 (1 : Int32) (1 : Int32) d6_32 (by decide) rfl (by decide) (l' := #[.val (.ref a), .val (.int (1 : Int32)), .val (.ref b), .val (.int (0 : Int32)), .val (.int (2 : Int32)), .val (.int (0 : Int32)), .val (.int w0)]) rfl (q := 35) rfl ?_
  refine gIincV E X1 (1 : Int32) (1 : Int32) d6_35 (by decide) rfl (by decide) (l' := #[.val (.ref a), .val (.int (1 : Int32)), .val (.ref b), .val (.int (1 : Int32)), .val (.int (2 : Int32)), .val (.int (0 : Int32)), .val (.int w0)]) rfl (q := 38) rfl ?_
  refine gIincV E X1 (1 : Int32) (1 : Int32) d6_38 (by decide) rfl (by decide) (l' := #[.val (.ref a), .val (.int (1 : Int32)), .val (.ref b), .val (.int (1 : Int32)), .val (.int (2 : Int32)), .val (.int (1 : Int32)), .val (.int w0)]) rfl (q := 41) rfl ?_
  refine gGoto E X1 d6_41 (by decide) (q := 3) (by decide) ?_
  refine gIload E X1 d6_3 rfl (q := 5) rfl ?_
  refine gIload E X1 d6_5 rfl (q := 7) rfl ?_
  refine gIc_ge E X1 d6_7 (by decide) (q := 44) (by decide) (q' := 10) rfl (fun h7 => by exfalso; exact absurd h7 (by decide)) (fun h7 => ?_)
  refine gAloadN E X1 d6_10 rfl rfl (q := 11) rfl ?_
  refine gIloadN E X1 d6_11 rfl (q := 12) rfl ?_
  refine gCaload E X1 (i := i) (v := (.int w1)) d6_12 i1_0 (by decide) rfl (q := 13) rfl ?_
  refine gIstore E X1 d6_13 (l' := #[.val (.ref a), .val (.int (1 : Int32)), .val (.ref b), .val (.int (1 : Int32)), .val (.int (2 : Int32)), .val (.int (1 : Int32)), .val (.int w1)]) rfl (q := 15) rfl ?_
  refine gIload E X1 d6_15 rfl (q := 17) rfl ?_
  refine gSipush E X1 d6_17 (v := (255 : Int32)) (by decide) (q := 20) rfl ?_
  refine gIc_le E X1 d6_20 (by decide) (q := 26) (by decide) (q' := 23) rfl (fun h20 => ?_) (fun h20 => by exfalso; exact own_le b1 h20)
  refine gAloadN E X1 d6_26 rfl rfl (q := 27) rfl ?_
  refine gIloadN E X1 d6_27 rfl (q := 28) rfl ?_
  refine gIload E X1 d6_28 rfl (q := 30) rfl ?_
  refine gI2b E X1 d6_30 (z := w1.toInt8.toInt32) rfl (q := 31) rfl ?_
  refine gBastore E X1 (i := k) (jn := 1) (x' := w1.toInt8.toInt32) (V' := (V1.set k (b, (.inr (.byte, [(.int w0.toInt8.toInt32), (.int w1.toInt8.toInt32)]))))) d6_31 i1_1 (by decide) rfl (by show 1 < 2; decide) (oB8 _) rfl (q := 32) rfl ?_
  intro T2 X2
  obtain ⟨V2, eV2⟩ : ∃ z, z = (V1.set k (b, (.inr (.byte, [(.int w0.toInt8.toInt32), (.int w1.toInt8.toInt32)])))) := ⟨_, rfl⟩
  rw [← eV2] at X2
  have i2_0 := (eV2 ▸ oSetNe hik i1_0 : V2[i]? = some (a, (.inr (.char, [(.int w0), (.int w1)]))))
  have i2_1 := (eV2 ▸ oSetGet i1_1 : V2[k]? = some (b, (.inr (.byte, [(.int w0.toInt8.toInt32), (.int w1.toInt8.toInt32)]))))
  refine gIincV E X2 (1 : Int32) (2 : Int32) d6_32 (by decide) rfl (by decide) (l' := #[.val (.ref a), .val (.int (2 : Int32)), .val (.ref b), .val (.int (1 : Int32)), .val (.int (2 : Int32)), .val (.int (1 : Int32)), .val (.int w1)]) rfl (q := 35) rfl ?_
  refine gIincV E X2 (1 : Int32) (2 : Int32) d6_35 (by decide) rfl (by decide) (l' := #[.val (.ref a), .val (.int (2 : Int32)), .val (.ref b), .val (.int (2 : Int32)), .val (.int (2 : Int32)), .val (.int (1 : Int32)), .val (.int w1)]) rfl (q := 38) rfl ?_
  refine gIincV E X2 (1 : Int32) (2 : Int32) d6_38 (by decide) rfl (by decide) (l' := #[.val (.ref a), .val (.int (2 : Int32)), .val (.ref b), .val (.int (2 : Int32)), .val (.int (2 : Int32)), .val (.int (2 : Int32)), .val (.int w1)]) rfl (q := 41) rfl ?_
  refine gGoto E X2 d6_41 (by decide) (q := 3) (by decide) ?_
  refine gIload E X2 d6_3 rfl (q := 5) rfl ?_
  refine gIload E X2 d6_5 rfl (q := 7) rfl ?_
  refine gIc_ge E X2 d6_7 (by decide) (q := 44) (by decide) (q' := 10) rfl (fun h7 => ?_) (fun h7 => by exfalso; exact absurd h7 (by decide))
  refine gIload E X2 d6_44 rfl (q := 46) rfl ?_
  exact gRetI E X2 d6_46 (by decide) (by decide) (by decide) (⟨rfl, by simp only [eV2, eV1, List.set_set]⟩)
set_option maxRecDepth 65536 in
set_option maxHeartbeats 40000000 in
theorem cB2 (l : Launch) (Z : State) (a0 : Array Value) (hw : ∀ d ∈ tables_1, d.before a0 Z = true) {V : oVw} (a : Addr) (w0 : Int32) (w1 : Int32) {i : Nat} (hi : V[i]? = some (a, (.inr (.char, [(.int w0), (.int w1)])))) (b0 : 0 ≤ w0.toInt ∧ w0.toInt ≤ 255) (b1 : 0 ≤ w1.toInt ∧ w1.toInt ≤ 255) :
    oCon false l Z (⟨"java/lang/StringUTF16", "compress", "([CII)[B"⟩ : MethodName) jdk_52_method_16_code 6 (some (.array .byte)) ({ frames := 1, cells := 1, slots := 2, locals := 18 } : Room) #[(.ref a), (.int (0 : Int32)), (.int (2 : Int32))] V (fun v V' => ∃ b, v = some (.ref b) ∧ V' = V ++ [(b, .inr (.byte, [(.int w0.toInt8.toInt32), (.int w1.toInt8.toInt32)]))]) := by
  refine oEnter (plainFor_of_name pn_java_lang_StringUTF16) (Ls := #[.val (.ref a), .val (.int (0 : Int32)), .val (.int (2 : Int32)), .unset, .unset, .unset]) (fun m => by first | (simp [entryFrame, mkF, argsToLocals, Value.category]; done) | rfl) ?_
  intro p e s m below meth c T E X
  refine gIloadN E X d5_0 rfl (q := 1) rfl ?_
  refine gNewA E X (c2 := 1) (s2 := 2) (cap := 2) (vs := [(.int (0 : Int32)), (.int (0 : Int32))]) (ty := .byte) rfl d5_1 (hw _ (List.mem_of_getElem? (i := 23) rfl)) (by decide) (by decide) (by decide) rfl (by decide) (by decide) (by decide) (by decide) (q := 3) rfl ?_
  intro T1 a1 X1
  obtain ⟨V1, eV1⟩ : ∃ z, z = V ++ [(a1, (.inr (.byte, [(.int (0 : Int32)), (.int (0 : Int32))])))] := ⟨_, rfl⟩
  rw [← eV1] at X1
  have i1_0 := (eV1 ▸ oAppGet hi : V1[i]? = some (a, (.inr (.char, [(.int w0), (.int w1)]))))
  have i1_1 := (eV1 ▸ oAppLast : V1[V.length]? = some (a1, (.inr (.byte, [(.int (0 : Int32)), (.int (0 : Int32))]))))
  refine gAstoreN E X1 d5_3 rfl (l' := #[.val (.ref a), .val (.int (0 : Int32)), .val (.int (2 : Int32)), .val (.ref a1), .unset, .unset]) rfl (q := 4) rfl ?_
  refine gAloadN E X1 d5_4 rfl rfl (q := 5) rfl ?_
  refine gIloadN E X1 d5_5 rfl (q := 6) rfl ?_
  refine gAloadN E X1 d5_6 rfl rfl (q := 7) rfl ?_
  refine gIconst E X1 d5_7 (v := (0 : Int32)) (by decide) (q := 8) rfl ?_
  refine gIloadN E X1 d5_8 rfl (q := 9) rfl ?_
  refine gCallS E X1 (W := 0) (c2 := 1) (s2 := 2) [(.ref a), (.int (0 : Int32)), (.ref a1), (.int (0 : Int32)), (.int (2 : Int32))] [] d5_9 (hw _ (List.mem_of_getElem? (i := 24) rfl)) (hw _ (List.mem_of_getElem? (i := 25) rfl)) (hw _ (List.mem_of_getElem? (i := 21) rfl)) (hw _ (List.mem_of_getElem? (i := 26) rfl)) (by decide) (cC2 l Z a0 hw a a1 w0 w1 (i := i) i1_0 (k := V.length) i1_1 (Ne.symm (Nat.ne_of_lt (oLt hi))) b0 b1) pd_0 rfl rfl rfl (by decide) (Nat.le_of_eq rfl) (by decide) (by decide) (by decide) (by decide) (by decide) (by decide) (q := 12) rfl ?_
  intro T2 v2 V2 R2 X2
  obtain ⟨rfl, eV2⟩ := R2
  have i2_0 := (eV2 ▸ oSetNe (Ne.symm (Nat.ne_of_lt (oLt hi))) i1_0 : V2[i]? = some (a, (.inr (.char, [(.int w0), (.int w1)]))))
  have i2_1 := (eV2 ▸ oSetGet i1_1 : V2[V.length]? = some (a1, (.inr (.byte, [(.int w0.toInt8.toInt32), (.int w1.toInt8.toInt32)]))))
  show oG false p e below s Z ({ frames := 1, cells := 1, slots := 2, locals := 18 } : Room) (fun v V' => ∃ b, v = some (.ref b) ∧ V' = V ++ [(b, .inr (.byte, [(.int w0.toInt8.toInt32), (.int w1.toInt8.toInt32)]))]) T2 (mkF m 12 #[.val (.ref a), .val (.int (0 : Int32)), .val (.int (2 : Int32)), .val (.ref a1), .unset, .unset] [(.int (2 : Int32))])
  refine gIstore E X2 d5_12 (l' := #[.val (.ref a), .val (.int (0 : Int32)), .val (.int (2 : Int32)), .val (.ref a1), .val (.int (2 : Int32)), .unset]) rfl (q := 14) rfl ?_
  refine gIload E X2 d5_14 rfl (q := 16) rfl ?_
  refine gIloadN E X2 d5_16 rfl (q := 17) rfl ?_
  refine gIc_eq E X2 d5_17 (by decide) (q := 57) (by decide) (q' := 20) rfl (fun h17 => ?_) (fun h17 => by exfalso; exact absurd h17 (by decide))
  refine gAloadN E X2 d5_57 rfl rfl (q := 58) rfl ?_
  exact gRetA E X2 rfl d5_58 (by decide) (by decide) (by decide) rfl rfl (⟨a1, rfl, by rw [eV2, eV1, oAppSetLast]⟩)
set_option maxRecDepth 65536 in
set_option maxHeartbeats 40000000 in
theorem cD2 (l : Launch) (Z : State) (a0 : Array Value) (hw : ∀ d ∈ tables_1, d.before a0 Z = true) {V : oVw} (a : Addr) (w0 : Int32) (w1 : Int32) {i : Nat} (hi : V[i]? = some (a, (.inr (.byte, [(.int w0.toInt8.toInt32), (.int w1.toInt8.toInt32)]))))  :
    oCon false l Z (⟨"java/lang/StringUTF16", "coderFromArrayLen", "([BI)B"⟩ : MethodName) jdk_52_method_15_code 2 (some .byte) ({ frames := 0, cells := 0, slots := 0, locals := 0 } : Room) #[(.ref a), (.int (2 : Int32))] V (fun v V' => v = some (.int 0) ∧ V' = V) := by
  refine oEnter (plainFor_of_name pn_java_lang_StringUTF16) (Ls := #[.val (.ref a), .val (.int (2 : Int32))]) (fun m => by first | (simp [entryFrame, mkF, argsToLocals, Value.category]; done) | rfl) ?_
  intro p e s m below meth c T E X
  refine gIloadN E X d7_0 rfl (q := 1) rfl ?_
  refine gAloadN E X d7_1 rfl rfl (q := 2) rfl ?_
  refine gLen E X (i := i) (z := (2 : Int32)) d7_2 hi rfl (q := 3) rfl ?_
  refine gIsub E X d7_3 (z := (0 : Int32)) (by decide) (q := 4) rfl ?_
  refine gBipush E X d7_4 (v := (31 : Int32)) (by decide) (q := 6) rfl ?_
  refine gIushr E X d7_6 (z := (0 : Int32)) (by decide) (q := 7) rfl ?_
  refine gI2b E X d7_7 (z := (0 : Int32)) (by decide) (q := 8) rfl ?_
  exact gRetN E X (by simp) d7_8 (by decide) (by decide) (by decide) (⟨by decide, rfl⟩)
set_option maxRecDepth 65536 in
set_option maxHeartbeats 40000000 in
theorem cS2 (l : Launch) (Z : State) (a0 : Array Value) (hw : ∀ d ∈ tables_1, d.before a0 Z = true) {V : oVw} (a : Addr) (b : Addr) (w0 : Int32) (w1 : Int32) (cs : Int32) {i : Nat} (hi : V[i]? = some (a, (.inl ("java/lang/String", [("java/lang/String", "coder", "B", (.int (0 : Int32))), ("java/lang/String", "value", "[B", .null)])))) {k : Nat} (hk : V[k]? = some (b, (.inr (.char, [(.int w0), (.int w1)])))) (hik : k ≠ i) (SC : Sta Z Z.heap "java/lang/String" "COMPACT_STRINGS" "Z" (.int cs)) (hcs : ¬ cs = 0) (b0 : 0 ≤ w0.toInt ∧ w0.toInt ≤ 255) (b1 : 0 ≤ w1.toInt ∧ w1.toInt ≤ 255) :
    oCon false l Z (⟨"java/lang/String", "<init>", "([CIILjava/lang/Void;)V"⟩ : MethodName) jdk_42_method_149_code 6 none ({ frames := 2, cells := 1, slots := 2, locals := 35 } : Room) #[(.ref a), (.ref b), (.int (0 : Int32)), (.int (2 : Int32)), .null] V (fun v V' => ∃ b', v = none ∧ V' = V.set i (a, (.inl ("java/lang/String", [("java/lang/String", "coder", "B", (.int (0 : Int32))), ("java/lang/String", "value", "[B", (.ref b'))]))) ++ [(b', .inr (.byte, [(.int w0.toInt8.toInt32), (.int w1.toInt8.toInt32)]))]) := by
  refine oEnter (plainFor_of_name pn_java_lang_String) (Ls := #[.val (.ref a), .val (.ref b), .val (.int (0 : Int32)), .val (.int (2 : Int32)), .val .null, .unset]) (fun m => by first | (simp [entryFrame, mkF, argsToLocals, Value.category]; done) | rfl) ?_
  intro p e s m below meth c T E X
  refine gAloadN E X d3_0 rfl rfl (q := 1) rfl ?_
  refine gInitO E X (W := 0) d3_1 (hw _ (List.mem_of_getElem? (i := 15) rfl)) (hw _ (List.mem_of_getElem? (i := 16) rfl)) (hw _ (List.mem_of_getElem? (i := 17) rfl)) rfl (by decide) (Nat.le_of_eq rfl) (by decide) (q := 4) rfl ?_
  intro T1 X1
  refine gIloadN E X1 d3_4 rfl (q := 5) rfl ?_
  refine gIf_ne E X1 d3_5 (by decide) (q := 27) (by decide) (q' := 8) rfl (fun h5 => ?_) (fun h5 => by exfalso; exact absurd h5 (by decide))
  refine gGetS E X1 d3_27 (hw _ (List.mem_of_getElem? (i := 18) rfl)) Via.refl SC (q := 30) rfl ?_
  intro T2 X2
  refine gIf_eq E X2 d3_30 (by decide) (q := 58) (by decide) (q' := 33) rfl (fun h30 => by exfalso; exact hcs h30) (fun h30 => ?_)
  refine gAloadN E X2 d3_33 rfl rfl (q := 34) rfl ?_
  refine gIloadN E X2 d3_34 rfl (q := 35) rfl ?_
  refine gIloadN E X2 d3_35 rfl (q := 36) rfl ?_
  refine gCallS E X2 (W := 0) (c2 := 1) (s2 := 2) [(.ref b), (.int (0 : Int32)), (.int (2 : Int32))] [] d3_36 (hw _ (List.mem_of_getElem? (i := 19) rfl)) (hw _ (List.mem_of_getElem? (i := 20) rfl)) (hw _ (List.mem_of_getElem? (i := 21) rfl)) (hw _ (List.mem_of_getElem? (i := 22) rfl)) (by decide) (cB2 l Z a0 hw b w0 w1 (i := k) hk b0 b1) pd_1 rfl rfl rfl (by decide) (Nat.le_of_eq rfl) (by decide) (by decide) (by decide) (by decide) (by decide) (by decide) (q := 39) rfl ?_
  intro T3 v3 V3 R3 X3
  obtain ⟨b3', rfl, eV3⟩ := R3
  have i3_0 := (eV3 ▸ oAppGet hi : V3[i]? = some (a, (.inl ("java/lang/String", [("java/lang/String", "coder", "B", (.int (0 : Int32))), ("java/lang/String", "value", "[B", .null)]))))
  have i3_1 := (eV3 ▸ oAppGet hk : V3[k]? = some (b, (.inr (.char, [(.int w0), (.int w1)]))))
  have i3_2 := (eV3 ▸ oAppLast : V3[V.length]? = some (b3', (.inr (.byte, [(.int w0.toInt8.toInt32), (.int w1.toInt8.toInt32)]))))
  show oG false p e below s Z ({ frames := 2, cells := 1, slots := 2, locals := 35 } : Room) (fun v V' => ∃ b', v = none ∧ V' = V.set i (a, (.inl ("java/lang/String", [("java/lang/String", "coder", "B", (.int (0 : Int32))), ("java/lang/String", "value", "[B", (.ref b'))]))) ++ [(b', .inr (.byte, [(.int w0.toInt8.toInt32), (.int w1.toInt8.toInt32)]))]) T3 (mkF m 39 #[.val (.ref a), .val (.ref b), .val (.int (0 : Int32)), .val (.int (2 : Int32)), .val .null, .unset] [(.ref b3')])
  refine gAstore E X3 d3_39 rfl (l' := #[.val (.ref a), .val (.ref b), .val (.int (0 : Int32)), .val (.int (2 : Int32)), .val .null, .val (.ref b3')]) rfl (q := 41) rfl ?_
  refine gAloadN E X3 d3_41 rfl rfl (q := 42) rfl ?_
  refine gAload E X3 d3_42 rfl rfl (q := 44) rfl ?_
  refine gIloadN E X3 d3_44 rfl (q := 45) rfl ?_
  refine gCallS E X3 (W := 1) (c2 := 1) (s2 := 2) [(.ref b3'), (.int (2 : Int32))] [(.ref a)] d3_45 (hw _ (List.mem_of_getElem? (i := 27) rfl)) (hw _ (List.mem_of_getElem? (i := 28) rfl)) (hw _ (List.mem_of_getElem? (i := 21) rfl)) (hw _ (List.mem_of_getElem? (i := 29) rfl)) (by decide) (cD2 l Z a0 hw b3' w0 w1 (i := V.length) i3_2) pd_2 rfl rfl rfl (by decide) (Nat.le_of_eq rfl) (by decide) (by decide) (by decide) (by decide) (by decide) (by decide) (q := 48) rfl ?_
  intro T4 v4 V4 R4 X4
  obtain ⟨rfl, eQ4⟩ := R4
  rw [eQ4] at X4
  show oG false p e below s Z ({ frames := 2, cells := 1, slots := 2, locals := 35 } : Room) (fun v V' => ∃ b', v = none ∧ V' = V.set i (a, (.inl ("java/lang/String", [("java/lang/String", "coder", "B", (.int (0 : Int32))), ("java/lang/String", "value", "[B", (.ref b'))]))) ++ [(b', .inr (.byte, [(.int w0.toInt8.toInt32), (.int w1.toInt8.toInt32)]))]) T4 (mkF m 48 #[.val (.ref a), .val (.ref b), .val (.int (0 : Int32)), .val (.int (2 : Int32)), .val .null, .val (.ref b3')] [(.int (0 : Int32)), (.ref a)])
  refine gPutF E X4 d3_48 (hw _ (List.mem_of_getElem? (i := 30) rfl)) Via.refl (i := i) i3_0 (j := 0) rfl (Or.inr ⟨(hw _ (List.mem_of_getElem? (i := 31) rfl)), rfl, rfl⟩) (hw _ (List.mem_of_getElem? (i := 6) rfl)) (ty := .byte) (by decide) rfl rfl (V' := (V3.set i (a, (.inl ("java/lang/String", [("java/lang/String", "coder", "B", (.int (0 : Int32))), ("java/lang/String", "value", "[B", .null)]))))) rfl (q := 51) rfl ?_
  intro T5 X5
  obtain ⟨V5, eV5⟩ : ∃ z, z = (V3.set i (a, (.inl ("java/lang/String", [("java/lang/String", "coder", "B", (.int (0 : Int32))), ("java/lang/String", "value", "[B", .null)])))) := ⟨_, rfl⟩
  rw [← eV5] at X5
  have i5_0 := (eV5 ▸ oSetGet i3_0 : V5[i]? = some (a, (.inl ("java/lang/String", [("java/lang/String", "coder", "B", (.int (0 : Int32))), ("java/lang/String", "value", "[B", .null)]))))
  have i5_1 := (eV5 ▸ oSetNe (Ne.symm hik) i3_1 : V5[k]? = some (b, (.inr (.char, [(.int w0), (.int w1)]))))
  have i5_2 := (eV5 ▸ oSetNe (Nat.ne_of_lt (oLt hi)) i3_2 : V5[V.length]? = some (b3', (.inr (.byte, [(.int w0.toInt8.toInt32), (.int w1.toInt8.toInt32)]))))
  refine gAloadN E X5 d3_51 rfl rfl (q := 52) rfl ?_
  refine gAload E X5 d3_52 rfl rfl (q := 54) rfl ?_
  refine gPutF E X5 d3_54 (hw _ (List.mem_of_getElem? (i := 32) rfl)) Via.refl (i := i) i5_0 (j := 1) rfl (Or.inr ⟨(hw _ (List.mem_of_getElem? (i := 33) rfl)), rfl, rfl⟩) (hw _ (List.mem_of_getElem? (i := 6) rfl)) (ty := (.array .byte)) (by decide) rfl rfl (V' := (V5.set i (a, (.inl ("java/lang/String", [("java/lang/String", "coder", "B", (.int (0 : Int32))), ("java/lang/String", "value", "[B", (.ref b3'))]))))) rfl (q := 57) rfl ?_
  intro T6 X6
  obtain ⟨V6, eV6⟩ : ∃ z, z = (V5.set i (a, (.inl ("java/lang/String", [("java/lang/String", "coder", "B", (.int (0 : Int32))), ("java/lang/String", "value", "[B", (.ref b3'))])))) := ⟨_, rfl⟩
  rw [← eV6] at X6
  have i6_0 := (eV6 ▸ oSetGet i5_0 : V6[i]? = some (a, (.inl ("java/lang/String", [("java/lang/String", "coder", "B", (.int (0 : Int32))), ("java/lang/String", "value", "[B", (.ref b3'))]))))
  have i6_1 := (eV6 ▸ oSetNe (Ne.symm hik) i5_1 : V6[k]? = some (b, (.inr (.char, [(.int w0), (.int w1)]))))
  have i6_2 := (eV6 ▸ oSetNe (Nat.ne_of_lt (oLt hi)) i5_2 : V6[V.length]? = some (b3', (.inr (.byte, [(.int w0.toInt8.toInt32), (.int w1.toInt8.toInt32)]))))
  exact gRetV E X6 d3_57 (by decide) (by decide) (by decide) (⟨b3', rfl, by rw [eV6, eV5, List.set_set, eV3, oAppSet hi]⟩)
set_option maxRecDepth 65536 in
set_option maxHeartbeats 40000000 in
theorem cN2 (l : Launch) (Z : State) (a0 : Array Value) (hw : ∀ d ∈ tables_1, d.before a0 Z = true) {V : oVw} (a : Addr) (b : Addr) (w0 : Int32) (w1 : Int32) (cs : Int32) {i : Nat} (hi : V[i]? = some (a, (.inl ("java/lang/String", [("java/lang/String", "coder", "B", (.int (0 : Int32))), ("java/lang/String", "value", "[B", .null)])))) {k : Nat} (hk : V[k]? = some (b, (.inr (.char, [(.int w0), (.int w1)])))) (hik : k ≠ i) (SC : Sta Z Z.heap "java/lang/String" "COMPACT_STRINGS" "Z" (.int cs)) (hcs : ¬ cs = 0) (b0 : 0 ≤ w0.toInt ∧ w0.toInt ≤ 255) (b1 : 0 ≤ w1.toInt ∧ w1.toInt ≤ 255) :
    oCon false l Z (⟨"java/lang/String", "<init>", "([C)V"⟩ : MethodName) jdk_42_method_3_code 2 none ({ frames := 3, cells := 1, slots := 2, locals := 52 } : Room) #[(.ref a), (.ref b)] V (fun v V' => ∃ b', v = none ∧ V' = V.set i (a, (.inl ("java/lang/String", [("java/lang/String", "coder", "B", (.int (0 : Int32))), ("java/lang/String", "value", "[B", (.ref b'))]))) ++ [(b', .inr (.byte, [(.int w0.toInt8.toInt32), (.int w1.toInt8.toInt32)]))]) := by
  refine oEnter (plainFor_of_name pn_java_lang_String) (Ls := #[.val (.ref a), .val (.ref b)]) (fun m => by first | (simp [entryFrame, mkF, argsToLocals, Value.category]; done) | rfl) ?_
  intro p e s m below meth c T E X
  refine gAloadN E X d2_0 rfl rfl (q := 1) rfl ?_
  refine gAloadN E X d2_1 rfl rfl (q := 2) rfl ?_
  refine gIconst E X d2_2 (v := (0 : Int32)) (by decide) (q := 3) rfl ?_
  refine gAloadN E X d2_3 rfl rfl (q := 4) rfl ?_
  refine gLen E X (i := k) (z := (2 : Int32)) d2_4 hk rfl (q := 5) rfl ?_
  refine gNull E X d2_5 (q := 6) rfl ?_
  refine gCallI E X (W := 0) (c2 := 1) (s2 := 2) (a := a) [(.ref b), (.int (0 : Int32)), (.int (2 : Int32)), .null] [] d2_6 rfl (hw _ (List.mem_of_getElem? (i := 11) rfl)) (hw _ (List.mem_of_getElem? (i := 12) rfl)) (hw _ (List.mem_of_getElem? (i := 7) rfl)) (hw _ (List.mem_of_getElem? (i := 14) rfl)) (by decide) (cS2 l Z a0 hw a b w0 w1 cs (i := i) hi (k := k) hk hik SC hcs b0 b1) pd_3 rfl rfl rfl (by decide) (Nat.le_of_eq rfl) (by decide) (by decide) (by decide) (by decide) (by decide) (by decide) (q := 9) rfl ?_
  intro T1 v1 V1 R1 X1
  obtain ⟨b1', rfl, eV1⟩ := R1
  have i1_0 := (eV1 ▸ oAppGet (oSetGet hi) : V1[i]? = some (a, (.inl ("java/lang/String", [("java/lang/String", "coder", "B", (.int (0 : Int32))), ("java/lang/String", "value", "[B", (.ref b1'))]))))
  have i1_1 := (eV1 ▸ oAppGet (oSetNe (Ne.symm hik) hk) : V1[k]? = some (b, (.inr (.char, [(.int w0), (.int w1)]))))
  show oG false p e below s Z ({ frames := 3, cells := 1, slots := 2, locals := 52 } : Room) (fun v V' => ∃ b', v = none ∧ V' = V.set i (a, (.inl ("java/lang/String", [("java/lang/String", "coder", "B", (.int (0 : Int32))), ("java/lang/String", "value", "[B", (.ref b'))]))) ++ [(b', .inr (.byte, [(.int w0.toInt8.toInt32), (.int w1.toInt8.toInt32)]))]) T1 (mkF m 9 #[.val (.ref a), .val (.ref b)] [])
  exact gRetV E X1 d2_9 (by decide) (by decide) (by decide) (⟨b1', rfl, eV1⟩)
set_option maxRecDepth 65536 in
set_option maxHeartbeats 40000000 in
theorem cC3 (l : Launch) (Z : State) (a0 : Array Value) (hw : ∀ d ∈ tables_1, d.before a0 Z = true) {V : oVw} (a : Addr) (b : Addr) (w0 : Int32) (w1 : Int32) (w2 : Int32) {i : Nat} (hi : V[i]? = some (a, (.inr (.char, [(.int w0), (.int w1), (.int w2)])))) {k : Nat} (hk : V[k]? = some (b, (.inr (.byte, [(.int (0 : Int32)), (.int (0 : Int32)), (.int (0 : Int32))])))) (hik : k ≠ i) (b0 : 0 ≤ w0.toInt ∧ w0.toInt ≤ 255) (b1 : 0 ≤ w1.toInt ∧ w1.toInt ≤ 255) (b2 : 0 ≤ w2.toInt ∧ w2.toInt ≤ 255) :
    oCon false l Z (⟨"java/lang/StringUTF16", "compress", "([CI[BII)I"⟩ : MethodName) jdk_52_method_21_code 7 (some .int) ({ frames := 0, cells := 0, slots := 0, locals := 0 } : Room) #[(.ref a), (.int (0 : Int32)), (.ref b), (.int (0 : Int32)), (.int (3 : Int32))] V (fun v V' => v = some (.int (3 : Int32)) ∧ V' = V.set k (b, .inr (.byte, [(.int w0.toInt8.toInt32), (.int w1.toInt8.toInt32), (.int w2.toInt8.toInt32)]))) := by
  refine oEnter (plainFor_of_name pn_java_lang_StringUTF16) (Ls := #[.val (.ref a), .val (.int (0 : Int32)), .val (.ref b), .val (.int (0 : Int32)), .val (.int (3 : Int32)), .unset, .unset]) (fun m => by first | (simp [entryFrame, mkF, argsToLocals, Value.category]; done) | rfl) ?_
  intro p e s m below meth c T E X
  refine gIconst E X d6_0 (v := (0 : Int32)) (by decide) (q := 1) rfl ?_
  refine gIstore E X d6_1 (l' := #[.val (.ref a), .val (.int (0 : Int32)), .val (.ref b), .val (.int (0 : Int32)), .val (.int (3 : Int32)), .val (.int (0 : Int32)), .unset]) rfl (q := 3) rfl ?_
  refine gIload E X d6_3 rfl (q := 5) rfl ?_
  refine gIload E X d6_5 rfl (q := 7) rfl ?_
  refine gIc_ge E X d6_7 (by decide) (q := 44) (by decide) (q' := 10) rfl (fun h7 => by exfalso; exact absurd h7 (by decide)) (fun h7 => ?_)
  refine gAloadN E X d6_10 rfl rfl (q := 11) rfl ?_
  refine gIloadN E X d6_11 rfl (q := 12) rfl ?_
  refine gCaload E X (i := i) (v := (.int w0)) d6_12 hi (by decide) rfl (q := 13) rfl ?_
  refine gIstore E X d6_13 (l' := #[.val (.ref a), .val (.int (0 : Int32)), .val (.ref b), .val (.int (0 : Int32)), .val (.int (3 : Int32)), .val (.int (0 : Int32)), .val (.int w0)]) rfl (q := 15) rfl ?_
  refine gIload E X d6_15 rfl (q := 17) rfl ?_
  refine gSipush E X d6_17 (v := (255 : Int32)) (by decide) (q := 20) rfl ?_
  refine gIc_le E X d6_20 (by decide) (q := 26) (by decide) (q' := 23) rfl (fun h20 => ?_) (fun h20 => by exfalso; exact own_le b0 h20)
  refine gAloadN E X d6_26 rfl rfl (q := 27) rfl ?_
  refine gIloadN E X d6_27 rfl (q := 28) rfl ?_
  refine gIload E X d6_28 rfl (q := 30) rfl ?_
  refine gI2b E X d6_30 (z := w0.toInt8.toInt32) rfl (q := 31) rfl ?_
  refine gBastore E X (i := k) (jn := 0) (x' := w0.toInt8.toInt32) (V' := (V.set k (b, (.inr (.byte, [(.int w0.toInt8.toInt32), (.int (0 : Int32)), (.int (0 : Int32))]))))) d6_31 hk (by decide) rfl (by show 0 < 3; decide) (oB8 _) rfl (q := 32) rfl ?_
  intro T1 X1
  obtain ⟨V1, eV1⟩ : ∃ z, z = (V.set k (b, (.inr (.byte, [(.int w0.toInt8.toInt32), (.int (0 : Int32)), (.int (0 : Int32))])))) := ⟨_, rfl⟩
  rw [← eV1] at X1
  have i1_0 := (eV1 ▸ oSetNe hik hi : V1[i]? = some (a, (.inr (.char, [(.int w0), (.int w1), (.int w2)]))))
  have i1_1 := (eV1 ▸ oSetGet hk : V1[k]? = some (b, (.inr (.byte, [(.int w0.toInt8.toInt32), (.int (0 : Int32)), (.int (0 : Int32))]))))
  refine gIincV E X1 (1 : Int32) (1 : Int32) d6_32 (by decide) rfl (by decide) (l' := #[.val (.ref a), .val (.int (1 : Int32)), .val (.ref b), .val (.int (0 : Int32)), .val (.int (3 : Int32)), .val (.int (0 : Int32)), .val (.int w0)]) rfl (q := 35) rfl ?_
  refine gIincV E X1 (1 : Int32) (1 : Int32) d6_35 (by decide) rfl (by decide) (l' := #[.val (.ref a), .val (.int (1 : Int32)), .val (.ref b), .val (.int (1 : Int32)), .val (.int (3 : Int32)), .val (.int (0 : Int32)), .val (.int w0)]) rfl (q := 38) rfl ?_
  refine gIincV E X1 (1 : Int32) (1 : Int32) d6_38 (by decide) rfl (by decide) (l' := #[.val (.ref a), .val (.int (1 : Int32)), .val (.ref b), .val (.int (1 : Int32)), .val (.int (3 : Int32)), .val (.int (1 : Int32)), .val (.int w0)]) rfl (q := 41) rfl ?_
  refine gGoto E X1 d6_41 (by decide) (q := 3) (by decide) ?_
  refine gIload E X1 d6_3 rfl (q := 5) rfl ?_
  refine gIload E X1 d6_5 rfl (q := 7) rfl ?_
  refine gIc_ge E X1 d6_7 (by decide) (q := 44) (by decide) (q' := 10) rfl (fun h7 => by exfalso; exact absurd h7 (by decide)) (fun h7 => ?_)
  refine gAloadN E X1 d6_10 rfl rfl (q := 11) rfl ?_
  refine gIloadN E X1 d6_11 rfl (q := 12) rfl ?_
  refine gCaload E X1 (i := i) (v := (.int w1)) d6_12 i1_0 (by decide) rfl (q := 13) rfl ?_
  refine gIstore E X1 d6_13 (l' := #[.val (.ref a), .val (.int (1 : Int32)), .val (.ref b), .val (.int (1 : Int32)), .val (.int (3 : Int32)), .val (.int (1 : Int32)), .val (.int w1)]) rfl (q := 15) rfl ?_
  refine gIload E X1 d6_15 rfl (q := 17) rfl ?_
  refine gSipush E X1 d6_17 (v := (255 : Int32)) (by decide) (q := 20) rfl ?_
  refine gIc_le E X1 d6_20 (by decide) (q := 26) (by decide) (q' := 23) rfl (fun h20 => ?_) (fun h20 => by exfalso; exact own_le b1 h20)
  refine gAloadN E X1 d6_26 rfl rfl (q := 27) rfl ?_
  refine gIloadN E X1 d6_27 rfl (q := 28) rfl ?_
  refine gIload E X1 d6_28 rfl (q := 30) rfl ?_
  refine gI2b E X1 d6_30 (z := w1.toInt8.toInt32) rfl (q := 31) rfl ?_
  refine gBastore E X1 (i := k) (jn := 1) (x' := w1.toInt8.toInt32) (V' := (V1.set k (b, (.inr (.byte, [(.int w0.toInt8.toInt32), (.int w1.toInt8.toInt32), (.int (0 : Int32))]))))) d6_31 i1_1 (by decide) rfl (by show 1 < 3; decide) (oB8 _) rfl (q := 32) rfl ?_
  intro T2 X2
  obtain ⟨V2, eV2⟩ : ∃ z, z = (V1.set k (b, (.inr (.byte, [(.int w0.toInt8.toInt32), (.int w1.toInt8.toInt32), (.int (0 : Int32))])))) := ⟨_, rfl⟩
  rw [← eV2] at X2
  have i2_0 := (eV2 ▸ oSetNe hik i1_0 : V2[i]? = some (a, (.inr (.char, [(.int w0), (.int w1), (.int w2)]))))
  have i2_1 := (eV2 ▸ oSetGet i1_1 : V2[k]? = some (b, (.inr (.byte, [(.int w0.toInt8.toInt32), (.int w1.toInt8.toInt32), (.int (0 : Int32))]))))
  refine gIincV E X2 (1 : Int32) (2 : Int32) d6_32 (by decide) rfl (by decide) (l' := #[.val (.ref a), .val (.int (2 : Int32)), .val (.ref b), .val (.int (1 : Int32)), .val (.int (3 : Int32)), .val (.int (1 : Int32)), .val (.int w1)]) rfl (q := 35) rfl ?_
  refine gIincV E X2 (1 : Int32) (2 : Int32) d6_35 (by decide) rfl (by decide) (l' := #[.val (.ref a), .val (.int (2 : Int32)), .val (.ref b), .val (.int (2 : Int32)), .val (.int (3 : Int32)), .val (.int (1 : Int32)), .val (.int w1)]) rfl (q := 38) rfl ?_
  refine gIincV E X2 (1 : Int32) (2 : Int32) d6_38 (by decide) rfl (by decide) (l' := #[.val (.ref a), .val (.int (2 : Int32)), .val (.ref b), .val (.int (2 : Int32)), .val (.int (3 : Int32)), .val (.int (2 : Int32)), .val (.int w1)]) rfl (q := 41) rfl ?_
  refine gGoto E X2 d6_41 (by decide) (q := 3) (by decide) ?_
  refine gIload E X2 d6_3 rfl (q := 5) rfl ?_
  refine gIload E X2 d6_5 rfl (q := 7) rfl ?_
  refine gIc_ge E X2 d6_7 (by decide) (q := 44) (by decide) (q' := 10) rfl (fun h7 => by exfalso; exact absurd h7 (by decide)) (fun h7 => ?_)
  refine gAloadN E X2 d6_10 rfl rfl (q := 11) rfl ?_
  refine gIloadN E X2 d6_11 rfl (q := 12) rfl ?_
  refine gCaload E X2 (i := i) (v := (.int w2)) d6_12 i2_0 (by decide) rfl (q := 13) rfl ?_
  refine gIstore E X2 d6_13 (l' := #[.val (.ref a), .val (.int (2 : Int32)), .val (.ref b), .val (.int (2 : Int32)), .val (.int (3 : Int32)), .val (.int (2 : Int32)), .val (.int w2)]) rfl (q := 15) rfl ?_
  refine gIload E X2 d6_15 rfl (q := 17) rfl ?_
  refine gSipush E X2 d6_17 (v := (255 : Int32)) (by decide) (q := 20) rfl ?_
  refine gIc_le E X2 d6_20 (by decide) (q := 26) (by decide) (q' := 23) rfl (fun h20 => ?_) (fun h20 => by exfalso; exact own_le b2 h20)
  refine gAloadN E X2 d6_26 rfl rfl (q := 27) rfl ?_
  refine gIloadN E X2 d6_27 rfl (q := 28) rfl ?_
  refine gIload E X2 d6_28 rfl (q := 30) rfl ?_
  refine gI2b E X2 d6_30 (z := w2.toInt8.toInt32) rfl (q := 31) rfl ?_
  refine gBastore E X2 (i := k) (jn := 2) (x' := w2.toInt8.toInt32) (V' := (V2.set k (b, (.inr (.byte, [(.int w0.toInt8.toInt32), (.int w1.toInt8.toInt32), (.int w2.toInt8.toInt32)]))))) d6_31 i2_1 (by decide) rfl (by show 2 < 3; decide) (oB8 _) rfl (q := 32) rfl ?_
  intro T3 X3
  obtain ⟨V3, eV3⟩ : ∃ z, z = (V2.set k (b, (.inr (.byte, [(.int w0.toInt8.toInt32), (.int w1.toInt8.toInt32), (.int w2.toInt8.toInt32)])))) := ⟨_, rfl⟩
  rw [← eV3] at X3
  have i3_0 := (eV3 ▸ oSetNe hik i2_0 : V3[i]? = some (a, (.inr (.char, [(.int w0), (.int w1), (.int w2)]))))
  have i3_1 := (eV3 ▸ oSetGet i2_1 : V3[k]? = some (b, (.inr (.byte, [(.int w0.toInt8.toInt32), (.int w1.toInt8.toInt32), (.int w2.toInt8.toInt32)]))))
  refine gIincV E X3 (1 : Int32) (3 : Int32) d6_32 (by decide) rfl (by decide) (l' := #[.val (.ref a), .val (.int (3 : Int32)), .val (.ref b), .val (.int (2 : Int32)), .val (.int (3 : Int32)), .val (.int (2 : Int32)), .val (.int w2)]) rfl (q := 35) rfl ?_
  refine gIincV E X3 (1 : Int32) (3 : Int32) d6_35 (by decide) rfl (by decide) (l' := #[.val (.ref a), .val (.int (3 : Int32)), .val (.ref b), .val (.int (3 : Int32)), .val (.int (3 : Int32)), .val (.int (2 : Int32)), .val (.int w2)]) rfl (q := 38) rfl ?_
  refine gIincV E X3 (1 : Int32) (3 : Int32) d6_38 (by decide) rfl (by decide) (l' := #[.val (.ref a), .val (.int (3 : Int32)), .val (.ref b), .val (.int (3 : Int32)), .val (.int (3 : Int32)), .val (.int (3 : Int32)), .val (.int w2)]) rfl (q := 41) rfl ?_
  refine gGoto E X3 d6_41 (by decide) (q := 3) (by decide) ?_
  refine gIload E X3 d6_3 rfl (q := 5) rfl ?_
  refine gIload E X3 d6_5 rfl (q := 7) rfl ?_
  refine gIc_ge E X3 d6_7 (by decide) (q := 44) (by decide) (q' := 10) rfl (fun h7 => ?_) (fun h7 => by exfalso; exact absurd h7 (by decide))
  refine gIload E X3 d6_44 rfl (q := 46) rfl ?_
  exact gRetI E X3 d6_46 (by decide) (by decide) (by decide) (⟨rfl, by simp only [eV3, eV2, eV1, List.set_set]⟩)
set_option maxRecDepth 65536 in
set_option maxHeartbeats 40000000 in
theorem cB3 (l : Launch) (Z : State) (a0 : Array Value) (hw : ∀ d ∈ tables_1, d.before a0 Z = true) {V : oVw} (a : Addr) (w0 : Int32) (w1 : Int32) (w2 : Int32) {i : Nat} (hi : V[i]? = some (a, (.inr (.char, [(.int w0), (.int w1), (.int w2)])))) (b0 : 0 ≤ w0.toInt ∧ w0.toInt ≤ 255) (b1 : 0 ≤ w1.toInt ∧ w1.toInt ≤ 255) (b2 : 0 ≤ w2.toInt ∧ w2.toInt ≤ 255) :
    oCon false l Z (⟨"java/lang/StringUTF16", "compress", "([CII)[B"⟩ : MethodName) jdk_52_method_16_code 6 (some (.array .byte)) ({ frames := 1, cells := 1, slots := 3, locals := 18 } : Room) #[(.ref a), (.int (0 : Int32)), (.int (3 : Int32))] V (fun v V' => ∃ b, v = some (.ref b) ∧ V' = V ++ [(b, .inr (.byte, [(.int w0.toInt8.toInt32), (.int w1.toInt8.toInt32), (.int w2.toInt8.toInt32)]))]) := by
  refine oEnter (plainFor_of_name pn_java_lang_StringUTF16) (Ls := #[.val (.ref a), .val (.int (0 : Int32)), .val (.int (3 : Int32)), .unset, .unset, .unset]) (fun m => by first | (simp [entryFrame, mkF, argsToLocals, Value.category]; done) | rfl) ?_
  intro p e s m below meth c T E X
  refine gIloadN E X d5_0 rfl (q := 1) rfl ?_
  refine gNewA E X (c2 := 1) (s2 := 3) (cap := 3) (vs := [(.int (0 : Int32)), (.int (0 : Int32)), (.int (0 : Int32))]) (ty := .byte) rfl d5_1 (hw _ (List.mem_of_getElem? (i := 23) rfl)) (by decide) (by decide) (by decide) rfl (by decide) (by decide) (by decide) (by decide) (q := 3) rfl ?_
  intro T1 a1 X1
  obtain ⟨V1, eV1⟩ : ∃ z, z = V ++ [(a1, (.inr (.byte, [(.int (0 : Int32)), (.int (0 : Int32)), (.int (0 : Int32))])))] := ⟨_, rfl⟩
  rw [← eV1] at X1
  have i1_0 := (eV1 ▸ oAppGet hi : V1[i]? = some (a, (.inr (.char, [(.int w0), (.int w1), (.int w2)]))))
  have i1_1 := (eV1 ▸ oAppLast : V1[V.length]? = some (a1, (.inr (.byte, [(.int (0 : Int32)), (.int (0 : Int32)), (.int (0 : Int32))]))))
  refine gAstoreN E X1 d5_3 rfl (l' := #[.val (.ref a), .val (.int (0 : Int32)), .val (.int (3 : Int32)), .val (.ref a1), .unset, .unset]) rfl (q := 4) rfl ?_
  refine gAloadN E X1 d5_4 rfl rfl (q := 5) rfl ?_
  refine gIloadN E X1 d5_5 rfl (q := 6) rfl ?_
  refine gAloadN E X1 d5_6 rfl rfl (q := 7) rfl ?_
  refine gIconst E X1 d5_7 (v := (0 : Int32)) (by decide) (q := 8) rfl ?_
  refine gIloadN E X1 d5_8 rfl (q := 9) rfl ?_
  refine gCallS E X1 (W := 0) (c2 := 1) (s2 := 3) [(.ref a), (.int (0 : Int32)), (.ref a1), (.int (0 : Int32)), (.int (3 : Int32))] [] d5_9 (hw _ (List.mem_of_getElem? (i := 24) rfl)) (hw _ (List.mem_of_getElem? (i := 25) rfl)) (hw _ (List.mem_of_getElem? (i := 21) rfl)) (hw _ (List.mem_of_getElem? (i := 26) rfl)) (by decide) (cC3 l Z a0 hw a a1 w0 w1 w2 (i := i) i1_0 (k := V.length) i1_1 (Ne.symm (Nat.ne_of_lt (oLt hi))) b0 b1 b2) pd_0 rfl rfl rfl (by decide) (Nat.le_of_eq rfl) (by decide) (by decide) (by decide) (by decide) (by decide) (by decide) (q := 12) rfl ?_
  intro T2 v2 V2 R2 X2
  obtain ⟨rfl, eV2⟩ := R2
  have i2_0 := (eV2 ▸ oSetNe (Ne.symm (Nat.ne_of_lt (oLt hi))) i1_0 : V2[i]? = some (a, (.inr (.char, [(.int w0), (.int w1), (.int w2)]))))
  have i2_1 := (eV2 ▸ oSetGet i1_1 : V2[V.length]? = some (a1, (.inr (.byte, [(.int w0.toInt8.toInt32), (.int w1.toInt8.toInt32), (.int w2.toInt8.toInt32)]))))
  show oG false p e below s Z ({ frames := 1, cells := 1, slots := 3, locals := 18 } : Room) (fun v V' => ∃ b, v = some (.ref b) ∧ V' = V ++ [(b, .inr (.byte, [(.int w0.toInt8.toInt32), (.int w1.toInt8.toInt32), (.int w2.toInt8.toInt32)]))]) T2 (mkF m 12 #[.val (.ref a), .val (.int (0 : Int32)), .val (.int (3 : Int32)), .val (.ref a1), .unset, .unset] [(.int (3 : Int32))])
  refine gIstore E X2 d5_12 (l' := #[.val (.ref a), .val (.int (0 : Int32)), .val (.int (3 : Int32)), .val (.ref a1), .val (.int (3 : Int32)), .unset]) rfl (q := 14) rfl ?_
  refine gIload E X2 d5_14 rfl (q := 16) rfl ?_
  refine gIloadN E X2 d5_16 rfl (q := 17) rfl ?_
  refine gIc_eq E X2 d5_17 (by decide) (q := 57) (by decide) (q' := 20) rfl (fun h17 => ?_) (fun h17 => by exfalso; exact absurd h17 (by decide))
  refine gAloadN E X2 d5_57 rfl rfl (q := 58) rfl ?_
  exact gRetA E X2 rfl d5_58 (by decide) (by decide) (by decide) rfl rfl (⟨a1, rfl, by rw [eV2, eV1, oAppSetLast]⟩)
set_option maxRecDepth 65536 in
set_option maxHeartbeats 40000000 in
theorem cD3 (l : Launch) (Z : State) (a0 : Array Value) (hw : ∀ d ∈ tables_1, d.before a0 Z = true) {V : oVw} (a : Addr) (w0 : Int32) (w1 : Int32) (w2 : Int32) {i : Nat} (hi : V[i]? = some (a, (.inr (.byte, [(.int w0.toInt8.toInt32), (.int w1.toInt8.toInt32), (.int w2.toInt8.toInt32)]))))  :
    oCon false l Z (⟨"java/lang/StringUTF16", "coderFromArrayLen", "([BI)B"⟩ : MethodName) jdk_52_method_15_code 2 (some .byte) ({ frames := 0, cells := 0, slots := 0, locals := 0 } : Room) #[(.ref a), (.int (3 : Int32))] V (fun v V' => v = some (.int 0) ∧ V' = V) := by
  refine oEnter (plainFor_of_name pn_java_lang_StringUTF16) (Ls := #[.val (.ref a), .val (.int (3 : Int32))]) (fun m => by first | (simp [entryFrame, mkF, argsToLocals, Value.category]; done) | rfl) ?_
  intro p e s m below meth c T E X
  refine gIloadN E X d7_0 rfl (q := 1) rfl ?_
  refine gAloadN E X d7_1 rfl rfl (q := 2) rfl ?_
  refine gLen E X (i := i) (z := (3 : Int32)) d7_2 hi rfl (q := 3) rfl ?_
  refine gIsub E X d7_3 (z := (0 : Int32)) (by decide) (q := 4) rfl ?_
  refine gBipush E X d7_4 (v := (31 : Int32)) (by decide) (q := 6) rfl ?_
  refine gIushr E X d7_6 (z := (0 : Int32)) (by decide) (q := 7) rfl ?_
  refine gI2b E X d7_7 (z := (0 : Int32)) (by decide) (q := 8) rfl ?_
  exact gRetN E X (by simp) d7_8 (by decide) (by decide) (by decide) (⟨by decide, rfl⟩)
set_option maxRecDepth 65536 in
set_option maxHeartbeats 40000000 in
theorem cS3 (l : Launch) (Z : State) (a0 : Array Value) (hw : ∀ d ∈ tables_1, d.before a0 Z = true) {V : oVw} (a : Addr) (b : Addr) (w0 : Int32) (w1 : Int32) (w2 : Int32) (cs : Int32) {i : Nat} (hi : V[i]? = some (a, (.inl ("java/lang/String", [("java/lang/String", "coder", "B", (.int (0 : Int32))), ("java/lang/String", "value", "[B", .null)])))) {k : Nat} (hk : V[k]? = some (b, (.inr (.char, [(.int w0), (.int w1), (.int w2)])))) (hik : k ≠ i) (SC : Sta Z Z.heap "java/lang/String" "COMPACT_STRINGS" "Z" (.int cs)) (hcs : ¬ cs = 0) (b0 : 0 ≤ w0.toInt ∧ w0.toInt ≤ 255) (b1 : 0 ≤ w1.toInt ∧ w1.toInt ≤ 255) (b2 : 0 ≤ w2.toInt ∧ w2.toInt ≤ 255) :
    oCon false l Z (⟨"java/lang/String", "<init>", "([CIILjava/lang/Void;)V"⟩ : MethodName) jdk_42_method_149_code 6 none ({ frames := 2, cells := 1, slots := 3, locals := 35 } : Room) #[(.ref a), (.ref b), (.int (0 : Int32)), (.int (3 : Int32)), .null] V (fun v V' => ∃ b', v = none ∧ V' = V.set i (a, (.inl ("java/lang/String", [("java/lang/String", "coder", "B", (.int (0 : Int32))), ("java/lang/String", "value", "[B", (.ref b'))]))) ++ [(b', .inr (.byte, [(.int w0.toInt8.toInt32), (.int w1.toInt8.toInt32), (.int w2.toInt8.toInt32)]))]) := by
  refine oEnter (plainFor_of_name pn_java_lang_String) (Ls := #[.val (.ref a), .val (.ref b), .val (.int (0 : Int32)), .val (.int (3 : Int32)), .val .null, .unset]) (fun m => by first | (simp [entryFrame, mkF, argsToLocals, Value.category]; done) | rfl) ?_
  intro p e s m below meth c T E X
  refine gAloadN E X d3_0 rfl rfl (q := 1) rfl ?_
  refine gInitO E X (W := 0) d3_1 (hw _ (List.mem_of_getElem? (i := 15) rfl)) (hw _ (List.mem_of_getElem? (i := 16) rfl)) (hw _ (List.mem_of_getElem? (i := 17) rfl)) rfl (by decide) (Nat.le_of_eq rfl) (by decide) (q := 4) rfl ?_
  intro T1 X1
  refine gIloadN E X1 d3_4 rfl (q := 5) rfl ?_
  refine gIf_ne E X1 d3_5 (by decide) (q := 27) (by decide) (q' := 8) rfl (fun h5 => ?_) (fun h5 => by exfalso; exact absurd h5 (by decide))
  refine gGetS E X1 d3_27 (hw _ (List.mem_of_getElem? (i := 18) rfl)) Via.refl SC (q := 30) rfl ?_
  intro T2 X2
  refine gIf_eq E X2 d3_30 (by decide) (q := 58) (by decide) (q' := 33) rfl (fun h30 => by exfalso; exact hcs h30) (fun h30 => ?_)
  refine gAloadN E X2 d3_33 rfl rfl (q := 34) rfl ?_
  refine gIloadN E X2 d3_34 rfl (q := 35) rfl ?_
  refine gIloadN E X2 d3_35 rfl (q := 36) rfl ?_
  refine gCallS E X2 (W := 0) (c2 := 1) (s2 := 3) [(.ref b), (.int (0 : Int32)), (.int (3 : Int32))] [] d3_36 (hw _ (List.mem_of_getElem? (i := 19) rfl)) (hw _ (List.mem_of_getElem? (i := 20) rfl)) (hw _ (List.mem_of_getElem? (i := 21) rfl)) (hw _ (List.mem_of_getElem? (i := 22) rfl)) (by decide) (cB3 l Z a0 hw b w0 w1 w2 (i := k) hk b0 b1 b2) pd_1 rfl rfl rfl (by decide) (Nat.le_of_eq rfl) (by decide) (by decide) (by decide) (by decide) (by decide) (by decide) (q := 39) rfl ?_
  intro T3 v3 V3 R3 X3
  obtain ⟨b3', rfl, eV3⟩ := R3
  have i3_0 := (eV3 ▸ oAppGet hi : V3[i]? = some (a, (.inl ("java/lang/String", [("java/lang/String", "coder", "B", (.int (0 : Int32))), ("java/lang/String", "value", "[B", .null)]))))
  have i3_1 := (eV3 ▸ oAppGet hk : V3[k]? = some (b, (.inr (.char, [(.int w0), (.int w1), (.int w2)]))))
  have i3_2 := (eV3 ▸ oAppLast : V3[V.length]? = some (b3', (.inr (.byte, [(.int w0.toInt8.toInt32), (.int w1.toInt8.toInt32), (.int w2.toInt8.toInt32)]))))
  show oG false p e below s Z ({ frames := 2, cells := 1, slots := 3, locals := 35 } : Room) (fun v V' => ∃ b', v = none ∧ V' = V.set i (a, (.inl ("java/lang/String", [("java/lang/String", "coder", "B", (.int (0 : Int32))), ("java/lang/String", "value", "[B", (.ref b'))]))) ++ [(b', .inr (.byte, [(.int w0.toInt8.toInt32), (.int w1.toInt8.toInt32), (.int w2.toInt8.toInt32)]))]) T3 (mkF m 39 #[.val (.ref a), .val (.ref b), .val (.int (0 : Int32)), .val (.int (3 : Int32)), .val .null, .unset] [(.ref b3')])
  refine gAstore E X3 d3_39 rfl (l' := #[.val (.ref a), .val (.ref b), .val (.int (0 : Int32)), .val (.int (3 : Int32)), .val .null, .val (.ref b3')]) rfl (q := 41) rfl ?_
  refine gAloadN E X3 d3_41 rfl rfl (q := 42) rfl ?_
  refine gAload E X3 d3_42 rfl rfl (q := 44) rfl ?_
  refine gIloadN E X3 d3_44 rfl (q := 45) rfl ?_
  refine gCallS E X3 (W := 1) (c2 := 1) (s2 := 3) [(.ref b3'), (.int (3 : Int32))] [(.ref a)] d3_45 (hw _ (List.mem_of_getElem? (i := 27) rfl)) (hw _ (List.mem_of_getElem? (i := 28) rfl)) (hw _ (List.mem_of_getElem? (i := 21) rfl)) (hw _ (List.mem_of_getElem? (i := 29) rfl)) (by decide) (cD3 l Z a0 hw b3' w0 w1 w2 (i := V.length) i3_2) pd_2 rfl rfl rfl (by decide) (Nat.le_of_eq rfl) (by decide) (by decide) (by decide) (by decide) (by decide) (by decide) (q := 48) rfl ?_
  intro T4 v4 V4 R4 X4
  obtain ⟨rfl, eQ4⟩ := R4
  rw [eQ4] at X4
  show oG false p e below s Z ({ frames := 2, cells := 1, slots := 3, locals := 35 } : Room) (fun v V' => ∃ b', v = none ∧ V' = V.set i (a, (.inl ("java/lang/String", [("java/lang/String", "coder", "B", (.int (0 : Int32))), ("java/lang/String", "value", "[B", (.ref b'))]))) ++ [(b', .inr (.byte, [(.int w0.toInt8.toInt32), (.int w1.toInt8.toInt32), (.int w2.toInt8.toInt32)]))]) T4 (mkF m 48 #[.val (.ref a), .val (.ref b), .val (.int (0 : Int32)), .val (.int (3 : Int32)), .val .null, .val (.ref b3')] [(.int (0 : Int32)), (.ref a)])
  refine gPutF E X4 d3_48 (hw _ (List.mem_of_getElem? (i := 30) rfl)) Via.refl (i := i) i3_0 (j := 0) rfl (Or.inr ⟨(hw _ (List.mem_of_getElem? (i := 31) rfl)), rfl, rfl⟩) (hw _ (List.mem_of_getElem? (i := 6) rfl)) (ty := .byte) (by decide) rfl rfl (V' := (V3.set i (a, (.inl ("java/lang/String", [("java/lang/String", "coder", "B", (.int (0 : Int32))), ("java/lang/String", "value", "[B", .null)]))))) rfl (q := 51) rfl ?_
  intro T5 X5
  obtain ⟨V5, eV5⟩ : ∃ z, z = (V3.set i (a, (.inl ("java/lang/String", [("java/lang/String", "coder", "B", (.int (0 : Int32))), ("java/lang/String", "value", "[B", .null)])))) := ⟨_, rfl⟩
  rw [← eV5] at X5
  have i5_0 := (eV5 ▸ oSetGet i3_0 : V5[i]? = some (a, (.inl ("java/lang/String", [("java/lang/String", "coder", "B", (.int (0 : Int32))), ("java/lang/String", "value", "[B", .null)]))))
  have i5_1 := (eV5 ▸ oSetNe (Ne.symm hik) i3_1 : V5[k]? = some (b, (.inr (.char, [(.int w0), (.int w1), (.int w2)]))))
  have i5_2 := (eV5 ▸ oSetNe (Nat.ne_of_lt (oLt hi)) i3_2 : V5[V.length]? = some (b3', (.inr (.byte, [(.int w0.toInt8.toInt32), (.int w1.toInt8.toInt32), (.int w2.toInt8.toInt32)]))))
  refine gAloadN E X5 d3_51 rfl rfl (q := 52) rfl ?_
  refine gAload E X5 d3_52 rfl rfl (q := 54) rfl ?_
  refine gPutF E X5 d3_54 (hw _ (List.mem_of_getElem? (i := 32) rfl)) Via.refl (i := i) i5_0 (j := 1) rfl (Or.inr ⟨(hw _ (List.mem_of_getElem? (i := 33) rfl)), rfl, rfl⟩) (hw _ (List.mem_of_getElem? (i := 6) rfl)) (ty := (.array .byte)) (by decide) rfl rfl (V' := (V5.set i (a, (.inl ("java/lang/String", [("java/lang/String", "coder", "B", (.int (0 : Int32))), ("java/lang/String", "value", "[B", (.ref b3'))]))))) rfl (q := 57) rfl ?_
  intro T6 X6
  obtain ⟨V6, eV6⟩ : ∃ z, z = (V5.set i (a, (.inl ("java/lang/String", [("java/lang/String", "coder", "B", (.int (0 : Int32))), ("java/lang/String", "value", "[B", (.ref b3'))])))) := ⟨_, rfl⟩
  rw [← eV6] at X6
  have i6_0 := (eV6 ▸ oSetGet i5_0 : V6[i]? = some (a, (.inl ("java/lang/String", [("java/lang/String", "coder", "B", (.int (0 : Int32))), ("java/lang/String", "value", "[B", (.ref b3'))]))))
  have i6_1 := (eV6 ▸ oSetNe (Ne.symm hik) i5_1 : V6[k]? = some (b, (.inr (.char, [(.int w0), (.int w1), (.int w2)]))))
  have i6_2 := (eV6 ▸ oSetNe (Nat.ne_of_lt (oLt hi)) i5_2 : V6[V.length]? = some (b3', (.inr (.byte, [(.int w0.toInt8.toInt32), (.int w1.toInt8.toInt32), (.int w2.toInt8.toInt32)]))))
  exact gRetV E X6 d3_57 (by decide) (by decide) (by decide) (⟨b3', rfl, by rw [eV6, eV5, List.set_set, eV3, oAppSet hi]⟩)
set_option maxRecDepth 65536 in
set_option maxHeartbeats 40000000 in
theorem cN3 (l : Launch) (Z : State) (a0 : Array Value) (hw : ∀ d ∈ tables_1, d.before a0 Z = true) {V : oVw} (a : Addr) (b : Addr) (w0 : Int32) (w1 : Int32) (w2 : Int32) (cs : Int32) {i : Nat} (hi : V[i]? = some (a, (.inl ("java/lang/String", [("java/lang/String", "coder", "B", (.int (0 : Int32))), ("java/lang/String", "value", "[B", .null)])))) {k : Nat} (hk : V[k]? = some (b, (.inr (.char, [(.int w0), (.int w1), (.int w2)])))) (hik : k ≠ i) (SC : Sta Z Z.heap "java/lang/String" "COMPACT_STRINGS" "Z" (.int cs)) (hcs : ¬ cs = 0) (b0 : 0 ≤ w0.toInt ∧ w0.toInt ≤ 255) (b1 : 0 ≤ w1.toInt ∧ w1.toInt ≤ 255) (b2 : 0 ≤ w2.toInt ∧ w2.toInt ≤ 255) :
    oCon false l Z (⟨"java/lang/String", "<init>", "([C)V"⟩ : MethodName) jdk_42_method_3_code 2 none ({ frames := 3, cells := 1, slots := 3, locals := 52 } : Room) #[(.ref a), (.ref b)] V (fun v V' => ∃ b', v = none ∧ V' = V.set i (a, (.inl ("java/lang/String", [("java/lang/String", "coder", "B", (.int (0 : Int32))), ("java/lang/String", "value", "[B", (.ref b'))]))) ++ [(b', .inr (.byte, [(.int w0.toInt8.toInt32), (.int w1.toInt8.toInt32), (.int w2.toInt8.toInt32)]))]) := by
  refine oEnter (plainFor_of_name pn_java_lang_String) (Ls := #[.val (.ref a), .val (.ref b)]) (fun m => by first | (simp [entryFrame, mkF, argsToLocals, Value.category]; done) | rfl) ?_
  intro p e s m below meth c T E X
  refine gAloadN E X d2_0 rfl rfl (q := 1) rfl ?_
  refine gAloadN E X d2_1 rfl rfl (q := 2) rfl ?_
  refine gIconst E X d2_2 (v := (0 : Int32)) (by decide) (q := 3) rfl ?_
  refine gAloadN E X d2_3 rfl rfl (q := 4) rfl ?_
  refine gLen E X (i := k) (z := (3 : Int32)) d2_4 hk rfl (q := 5) rfl ?_
  refine gNull E X d2_5 (q := 6) rfl ?_
  refine gCallI E X (W := 0) (c2 := 1) (s2 := 3) (a := a) [(.ref b), (.int (0 : Int32)), (.int (3 : Int32)), .null] [] d2_6 rfl (hw _ (List.mem_of_getElem? (i := 11) rfl)) (hw _ (List.mem_of_getElem? (i := 12) rfl)) (hw _ (List.mem_of_getElem? (i := 7) rfl)) (hw _ (List.mem_of_getElem? (i := 14) rfl)) (by decide) (cS3 l Z a0 hw a b w0 w1 w2 cs (i := i) hi (k := k) hk hik SC hcs b0 b1 b2) pd_3 rfl rfl rfl (by decide) (Nat.le_of_eq rfl) (by decide) (by decide) (by decide) (by decide) (by decide) (by decide) (q := 9) rfl ?_
  intro T1 v1 V1 R1 X1
  obtain ⟨b1', rfl, eV1⟩ := R1
  have i1_0 := (eV1 ▸ oAppGet (oSetGet hi) : V1[i]? = some (a, (.inl ("java/lang/String", [("java/lang/String", "coder", "B", (.int (0 : Int32))), ("java/lang/String", "value", "[B", (.ref b1'))]))))
  have i1_1 := (eV1 ▸ oAppGet (oSetNe (Ne.symm hik) hk) : V1[k]? = some (b, (.inr (.char, [(.int w0), (.int w1), (.int w2)]))))
  show oG false p e below s Z ({ frames := 3, cells := 1, slots := 3, locals := 52 } : Room) (fun v V' => ∃ b', v = none ∧ V' = V.set i (a, (.inl ("java/lang/String", [("java/lang/String", "coder", "B", (.int (0 : Int32))), ("java/lang/String", "value", "[B", (.ref b'))]))) ++ [(b', .inr (.byte, [(.int w0.toInt8.toInt32), (.int w1.toInt8.toInt32), (.int w2.toInt8.toInt32)]))]) T1 (mkF m 9 #[.val (.ref a), .val (.ref b)] [])
  exact gRetV E X1 d2_9 (by decide) (by decide) (by decide) (⟨b1', rfl, eV1⟩)
theorem d3_8 : decode jdk_42_method_149_code 8 = .ok (.aload_n 0, 1) := by decide +kernel
theorem d3_9 : decode jdk_42_method_149_code 9 = .ok (.ldc 7, 2) := by decide +kernel
theorem d3_11 : decode jdk_42_method_149_code 11 = .ok (.getfield 9, 3) := by decide +kernel
theorem d3_14 : decode jdk_42_method_149_code 14 = .ok (.putfield 9, 3) := by decide +kernel
theorem d3_17 : decode jdk_42_method_149_code 17 = .ok (.aload_n 0, 1) := by decide +kernel
theorem d3_18 : decode jdk_42_method_149_code 18 = .ok (.ldc 7, 2) := by decide +kernel
theorem d3_20 : decode jdk_42_method_149_code 20 = .ok (.getfield 15, 3) := by decide +kernel
theorem d3_23 : decode jdk_42_method_149_code 23 = .ok (.putfield 15, 3) := by decide +kernel
theorem d3_26 : decode jdk_42_method_149_code 26 = .ok (.return_, 1) := by decide +kernel
set_option maxRecDepth 65536 in
set_option maxHeartbeats 40000000 in
theorem cS0 (l : Launch) (Z : State) (a0 : Array Value) (hw : ∀ d ∈ tables_1, d.before a0 Z = true) {V : oVw} (a : Addr) (b : Addr) {i : Nat} (hi : V[i]? = some (a, (.inl ("java/lang/String", [("java/lang/String", "coder", "B", (.int (0 : Int32))), ("java/lang/String", "value", "[B", .null)])))) (hh : Jvm.Lit.constHeld Z "java/lang/String" 7) (hcw : Jvm.Lit.compactW.before a0 Z = true) :
    oCon true l Z (⟨"java/lang/String", "<init>", "([CIILjava/lang/Void;)V"⟩ : MethodName) jdk_42_method_149_code 6 none ({ frames := 1, cells := 2, slots := 4, locals := 12 } : Room) #[(.ref a), (.ref b), (.int (0 : Int32)), (.int (0 : Int32)), .null] V (fun v V' => ∃ b', v = none ∧ V' = V.set i (a, (.inl ("java/lang/String", [("java/lang/String", "coder", "B", (.int (0 : Int32))), ("java/lang/String", "value", "[B", (.ref b'))])))) := by
  refine oEnterH (plainFor_of_name pn_java_lang_String) (Ls := #[.val (.ref a), .val (.ref b), .val (.int (0 : Int32)), .val (.int (0 : Int32)), .val .null, .unset]) (fun m => by first | (simp [entryFrame, mkF, argsToLocals, Value.category]; done) | rfl) ?_
  intro p e s m below meth c T E X hO
  refine gAloadN E X d3_0 rfl rfl (q := 1) rfl ?_
  refine gInitOH E X (W := 0) d3_1 (hw _ (List.mem_of_getElem? (i := 15) rfl)) (hw _ (List.mem_of_getElem? (i := 16) rfl)) (hw _ (List.mem_of_getElem? (i := 17) rfl)) rfl (by decide) (Nat.le_of_eq rfl) (by decide) (q := 4) rfl ?_
  intro T1 X1 hO1
  rw [hO] at hO1
  refine gIloadN E X1 d3_4 rfl (q := 5) rfl ?_
  refine gIf_ne E X1 d3_5 (by decide) (q := 27) (by decide) (q' := 8) rfl (fun h5 => by exfalso; exact absurd h5 (by decide)) (fun h5 => ?_)
  refine gAloadN E X1 d3_8 rfl rfl (q := 9) rfl ?_
  refine gEmpty1 E X1 (c2 := 2) (s2 := 4) d3_9 d3_11 d3_14 (hw _ (List.mem_of_getElem? (i := 34) rfl)) (own_str hw) hh hcw (hw _ (List.mem_of_getElem? (i := 32) rfl)) (i := i) hi (j := 1) rfl (Or.inr ⟨(hw _ (List.mem_of_getElem? (i := 33) rfl)), rfl, rfl⟩) (hw _ (List.mem_of_getElem? (i := 6) rfl)) hO1 (by decide) (by decide) (by decide) (by decide) (q := 17) rfl ?_
  intro T2 sa b2' X2 Fc2 Lt2
  replace X2 : oX p l e ({ frames := 1, cells := 2, slots := 4, locals := 12 } : Room) s m #[(.ref a), (.ref b), (.int (0 : Int32)), (.int (0 : Int32)), .null] below meth c Z T2 (V.set i (a, (.inl ("java/lang/String", [("java/lang/String", "coder", "B", (.int (0 : Int32))), ("java/lang/String", "value", "[B", (.ref b2'))])))) 2 4 _ := X2
  obtain ⟨V2, eV2⟩ : ∃ z, z = (V.set i (a, (.inl ("java/lang/String", [("java/lang/String", "coder", "B", (.int (0 : Int32))), ("java/lang/String", "value", "[B", (.ref b2'))])))) := ⟨_, rfl⟩
  rw [← eV2] at X2
  have i2_0 := (eV2 ▸ oSetGet hi : V2[i]? = some (a, (.inl ("java/lang/String", [("java/lang/String", "coder", "B", (.int (0 : Int32))), ("java/lang/String", "value", "[B", (.ref b2'))]))))
  refine gAloadN E X2 d3_17 rfl rfl (q := 18) rfl ?_
  refine gLdcA E X2 d3_18 (hw _ (List.mem_of_getElem? (i := 34) rfl)) Lt2 (q := 20) rfl ?_
  refine gGetFT E X2 d3_20 (hw _ (List.mem_of_getElem? (i := 30) rfl)) Via.refl Fc2 (q := 23) rfl ?_
  intro T3 X3
  refine gPutF E X3 d3_23 (hw _ (List.mem_of_getElem? (i := 30) rfl)) Via.refl (i := i) i2_0 (j := 0) rfl (Or.inr ⟨(hw _ (List.mem_of_getElem? (i := 31) rfl)), rfl, rfl⟩) (hw _ (List.mem_of_getElem? (i := 6) rfl)) (ty := .byte) (by decide) rfl rfl (V' := (V2.set i (a, (.inl ("java/lang/String", [("java/lang/String", "coder", "B", (.int (0 : Int32))), ("java/lang/String", "value", "[B", (.ref b2'))]))))) rfl (q := 26) rfl ?_
  intro T4 X4
  obtain ⟨V4, eV4⟩ : ∃ z, z = (V2.set i (a, (.inl ("java/lang/String", [("java/lang/String", "coder", "B", (.int (0 : Int32))), ("java/lang/String", "value", "[B", (.ref b2'))])))) := ⟨_, rfl⟩
  rw [← eV4] at X4
  have i4_0 := (eV4 ▸ oSetGet i2_0 : V4[i]? = some (a, (.inl ("java/lang/String", [("java/lang/String", "coder", "B", (.int (0 : Int32))), ("java/lang/String", "value", "[B", (.ref b2'))]))))
  exact gRetV E X4 d3_26 (by decide) (by decide) (by decide) (⟨b2', rfl, by rw [eV4, eV2, List.set_set]⟩)
set_option maxRecDepth 65536 in
set_option maxHeartbeats 40000000 in
theorem cN0 (l : Launch) (Z : State) (a0 : Array Value) (hw : ∀ d ∈ tables_1, d.before a0 Z = true) {V : oVw} (a : Addr) (b : Addr) {i : Nat} (hi : V[i]? = some (a, (.inl ("java/lang/String", [("java/lang/String", "coder", "B", (.int (0 : Int32))), ("java/lang/String", "value", "[B", .null)])))) {k : Nat} (hk : V[k]? = some (b, (.inr (.char, [])))) (hik : k ≠ i) (hh : Jvm.Lit.constHeld Z "java/lang/String" 7) (hcw : Jvm.Lit.compactW.before a0 Z = true) :
    oCon true l Z (⟨"java/lang/String", "<init>", "([C)V"⟩ : MethodName) jdk_42_method_3_code 2 none ({ frames := 2, cells := 2, slots := 4, locals := 30 } : Room) #[(.ref a), (.ref b)] V (fun v V' => ∃ b', v = none ∧ V' = V.set i (a, (.inl ("java/lang/String", [("java/lang/String", "coder", "B", (.int (0 : Int32))), ("java/lang/String", "value", "[B", (.ref b'))])))) := by
  refine oEnter (plainFor_of_name pn_java_lang_String) (Ls := #[.val (.ref a), .val (.ref b)]) (fun m => by first | (simp [entryFrame, mkF, argsToLocals, Value.category]; done) | rfl) ?_
  intro p e s m below meth c T E X
  refine gAloadN E X d2_0 rfl rfl (q := 1) rfl ?_
  refine gAloadN E X d2_1 rfl rfl (q := 2) rfl ?_
  refine gIconst E X d2_2 (v := (0 : Int32)) (by decide) (q := 3) rfl ?_
  refine gAloadN E X d2_3 rfl rfl (q := 4) rfl ?_
  refine gLen E X (i := k) (z := (0 : Int32)) d2_4 hk rfl (q := 5) rfl ?_
  refine gNull E X d2_5 (q := 6) rfl ?_
  refine gCallI E X (W := 0) (c2 := 2) (s2 := 4) (a := a) [(.ref b), (.int (0 : Int32)), (.int (0 : Int32)), .null] [] d2_6 rfl (hw _ (List.mem_of_getElem? (i := 11) rfl)) (hw _ (List.mem_of_getElem? (i := 12) rfl)) (hw _ (List.mem_of_getElem? (i := 7) rfl)) (hw _ (List.mem_of_getElem? (i := 14) rfl)) (by decide) (cS0 l Z a0 hw a b (i := i) hi hh hcw) pd_3 rfl rfl rfl (by decide) (Nat.le_of_eq rfl) (by decide) (by decide) (by decide) (by decide) (by decide) (by decide) (q := 9) rfl ?_
  intro T1 v1 V1 R1 X1
  obtain ⟨b1', rfl, eV1⟩ := R1
  have i1_0 := (eV1 ▸ (oSetGet hi) : V1[i]? = some (a, (.inl ("java/lang/String", [("java/lang/String", "coder", "B", (.int (0 : Int32))), ("java/lang/String", "value", "[B", (.ref b1'))]))))
  have i1_1 := (eV1 ▸ (oSetNe (Ne.symm hik) hk) : V1[k]? = some (b, (.inr (.char, []))))
  show oG true p e below s Z ({ frames := 2, cells := 2, slots := 4, locals := 30 } : Room) (fun v V' => ∃ b', v = none ∧ V' = V.set i (a, (.inl ("java/lang/String", [("java/lang/String", "coder", "B", (.int (0 : Int32))), ("java/lang/String", "value", "[B", (.ref b'))])))) T1 (mkF m 9 #[.val (.ref a), .val (.ref b)] [])
  exact gRetV E X1 d2_9 (by decide) (by decide) (by decide) (⟨b1', rfl, eV1⟩)
theorem lay_String (Z : State) (a0 : Array Value) (hw : ∀ d ∈ tables_1, d.before a0 Z = true) : oLay Z a0 "java/lang/String" [("java/lang/String", "coder", "B", (.int (0 : Int32))), ("java/lang/String", "value", "[B", .null)] := oLay.of (by decide) ⟨⟨Or.inr (hw _ (List.mem_of_getElem? (i := 31) rfl)), .byte, by decide, rfl⟩, ⟨Or.inr (hw _ (List.mem_of_getElem? (i := 33) rfl)), (.array .byte), by decide, rfl⟩, trivial⟩
theorem pd_4 : parseMethodDescriptor "([C)V" = some ⟨[(.array .char)], none⟩ := by decide +kernel
theorem d1_0 : decode method_3_code 0 = .ok (.iload_n 0, 1) := by decide +kernel
theorem d1_1 : decode method_3_code 1 = .ok (.ifCond .ne 14, 3) := by decide +kernel
theorem d1_15 : decode method_3_code 15 = .ok (.iload_n 0, 1) := by decide +kernel
theorem d1_16 : decode method_3_code 16 = .ok (.iconst 1, 1) := by decide +kernel
theorem d1_17 : decode method_3_code 17 = .ok (.if_icmp .ne 24, 3) := by decide +kernel
theorem d1_20 : decode method_3_code 20 = .ok (.iconst 1, 1) := by decide +kernel
theorem d1_21 : decode method_3_code 21 = .ok (.newarray .char, 2) := by decide +kernel
theorem d1_23 : decode method_3_code 23 = .ok (.astore 4, 2) := by decide +kernel
theorem d1_25 : decode method_3_code 25 = .ok (.aload 4, 2) := by decide +kernel
theorem d1_27 : decode method_3_code 27 = .ok (.iconst 0, 1) := by decide +kernel
theorem d1_28 : decode method_3_code 28 = .ok (.iload_n 1, 1) := by decide +kernel
theorem d1_29 : decode method_3_code 29 = .ok (.i2c, 1) := by decide +kernel
theorem d1_30 : decode method_3_code 30 = .ok (.castore, 1) := by decide +kernel
theorem d1_31 : decode method_3_code 31 = .ok (.new 28, 3) := by decide +kernel
theorem d1_34 : decode method_3_code 34 = .ok (.dup, 1) := by decide +kernel
theorem d1_35 : decode method_3_code 35 = .ok (.aload 4, 2) := by decide +kernel
theorem d1_37 : decode method_3_code 37 = .ok (.invokespecial 43, 3) := by decide +kernel
theorem d1_40 : decode method_3_code 40 = .ok (.areturn, 1) := by decide +kernel
theorem d1_41 : decode method_3_code 41 = .ok (.iload_n 0, 1) := by decide +kernel
theorem d1_42 : decode method_3_code 42 = .ok (.iconst 2, 1) := by decide +kernel
theorem d1_43 : decode method_3_code 43 = .ok (.if_icmp .ne 30, 3) := by decide +kernel
theorem d1_46 : decode method_3_code 46 = .ok (.iconst 2, 1) := by decide +kernel
theorem d1_47 : decode method_3_code 47 = .ok (.newarray .char, 2) := by decide +kernel
theorem d1_49 : decode method_3_code 49 = .ok (.astore 4, 2) := by decide +kernel
theorem d1_51 : decode method_3_code 51 = .ok (.aload 4, 2) := by decide +kernel
theorem d1_53 : decode method_3_code 53 = .ok (.iconst 0, 1) := by decide +kernel
theorem d1_54 : decode method_3_code 54 = .ok (.iload_n 1, 1) := by decide +kernel
theorem d1_55 : decode method_3_code 55 = .ok (.i2c, 1) := by decide +kernel
theorem d1_56 : decode method_3_code 56 = .ok (.castore, 1) := by decide +kernel
theorem d1_57 : decode method_3_code 57 = .ok (.aload 4, 2) := by decide +kernel
theorem d1_59 : decode method_3_code 59 = .ok (.iconst 1, 1) := by decide +kernel
theorem d1_60 : decode method_3_code 60 = .ok (.iload_n 2, 1) := by decide +kernel
theorem d1_61 : decode method_3_code 61 = .ok (.i2c, 1) := by decide +kernel
theorem d1_62 : decode method_3_code 62 = .ok (.castore, 1) := by decide +kernel
theorem d1_63 : decode method_3_code 63 = .ok (.new 28, 3) := by decide +kernel
theorem d1_66 : decode method_3_code 66 = .ok (.dup, 1) := by decide +kernel
theorem d1_67 : decode method_3_code 67 = .ok (.aload 4, 2) := by decide +kernel
theorem d1_69 : decode method_3_code 69 = .ok (.invokespecial 43, 3) := by decide +kernel
theorem d1_72 : decode method_3_code 72 = .ok (.areturn, 1) := by decide +kernel
theorem d1_73 : decode method_3_code 73 = .ok (.iconst 3, 1) := by decide +kernel
theorem d1_74 : decode method_3_code 74 = .ok (.newarray .char, 2) := by decide +kernel
theorem d1_76 : decode method_3_code 76 = .ok (.astore 4, 2) := by decide +kernel
theorem d1_78 : decode method_3_code 78 = .ok (.aload 4, 2) := by decide +kernel
theorem d1_80 : decode method_3_code 80 = .ok (.iconst 0, 1) := by decide +kernel
theorem d1_81 : decode method_3_code 81 = .ok (.iload_n 1, 1) := by decide +kernel
theorem d1_82 : decode method_3_code 82 = .ok (.i2c, 1) := by decide +kernel
theorem d1_83 : decode method_3_code 83 = .ok (.castore, 1) := by decide +kernel
theorem d1_84 : decode method_3_code 84 = .ok (.aload 4, 2) := by decide +kernel
theorem d1_86 : decode method_3_code 86 = .ok (.iconst 1, 1) := by decide +kernel
theorem d1_87 : decode method_3_code 87 = .ok (.iload_n 2, 1) := by decide +kernel
theorem d1_88 : decode method_3_code 88 = .ok (.i2c, 1) := by decide +kernel
theorem d1_89 : decode method_3_code 89 = .ok (.castore, 1) := by decide +kernel
theorem d1_90 : decode method_3_code 90 = .ok (.aload 4, 2) := by decide +kernel
theorem d1_92 : decode method_3_code 92 = .ok (.iconst 2, 1) := by decide +kernel
theorem d1_93 : decode method_3_code 93 = .ok (.iload_n 3, 1) := by decide +kernel
theorem d1_94 : decode method_3_code 94 = .ok (.i2c, 1) := by decide +kernel
theorem d1_95 : decode method_3_code 95 = .ok (.castore, 1) := by decide +kernel
theorem d1_96 : decode method_3_code 96 = .ok (.new 28, 3) := by decide +kernel
theorem d1_99 : decode method_3_code 99 = .ok (.dup, 1) := by decide +kernel
theorem d1_100 : decode method_3_code 100 = .ok (.aload 4, 2) := by decide +kernel
theorem d1_102 : decode method_3_code 102 = .ok (.invokespecial 43, 3) := by decide +kernel
theorem d1_105 : decode method_3_code 105 = .ok (.areturn, 1) := by decide +kernel
theorem pn_com_example_bunsan_bunsan_PartitionWholePinLaw : plainName "com/example/bunsan/bunsan/PartitionWholePinLaw" = true := by first | (simp [plainName, overriddenIn]; done) | decide +kernel
set_option maxRecDepth 65536 in
set_option maxHeartbeats 40000000 in
theorem cTN (l : Launch) (Z : State) (a0 : Array Value) (hw : ∀ d ∈ tables_1, d.before a0 Z = true) {V : oVw} (y0 : Int32) (y1 : Int32) (y2 : Int32) (y3 : Int32) (cs : Int32)  (g1 : 0 ≤ y1.toInt ∧ y1.toInt ≤ 255) (g2 : 0 ≤ y2.toInt ∧ y2.toInt ≤ 255) (g3 : 0 ≤ y3.toInt ∧ y3.toInt ≤ 255) (SC : Sta Z Z.heap "java/lang/String" "COMPACT_STRINGS" "Z" (.int cs)) (hcs : ¬ cs = 0) (hz : ¬ y0 = 0) :
    oCon false l Z (⟨"com/example/bunsan/bunsan/PartitionWholePinLaw", "str", "(IIII)Ljava/lang/String;"⟩ : MethodName) method_3_code 5 (some (.object "java/lang/String")) ({ frames := 4, cells := 5, slots := 12, locals := 66 } : Room) #[(.int y0), (.int y1), (.int y2), (.int y3)] V (fun v V' => ∃ (a : Addr) (n : Nat) (fs : List (String × String × String × Value)), v = some (.ref a) ∧ V'[n]? = some ((a, .inl ("java/lang/String", fs)) : Addr × oOb) ∧ oPre V V') := by
  refine oEnter (plainFor_of_name pn_com_example_bunsan_bunsan_PartitionWholePinLaw) (Ls := #[.val (.int y0), .val (.int y1), .val (.int y2), .val (.int y3), .unset]) (fun m => by first | (simp [entryFrame, mkF, argsToLocals, Value.category]; done) | rfl) ?_
  intro p e s m below meth c T E X
  refine gIloadN E X d1_0 rfl (q := 1) rfl ?_
  refine gIf_ne E X d1_1 (by decide) (q := 15) (by decide) (q' := 4) rfl (fun h1 => ?_) (fun h1 => by exfalso; exact hz h1)
  refine gIloadN E X d1_15 rfl (q := 16) rfl ?_
  refine gIconst E X d1_16 (v := (1 : Int32)) (by decide) (q := 17) rfl ?_
  refine gIc_ne E X d1_17 (by decide) (q := 41) (by decide) (q' := 20) rfl (fun h17 => ?_) (fun h17 => ?_)
  · refine gIloadN E X d1_41 rfl (q := 42) rfl ?_
    refine gIconst E X d1_42 (v := (2 : Int32)) (by decide) (q := 43) rfl ?_
    refine gIc_ne E X d1_43 (by decide) (q := 73) (by decide) (q' := 46) rfl (fun h43 => ?_) (fun h43 => ?_)
    · refine gIconst E X d1_73 (v := (3 : Int32)) (by decide) (q := 74) rfl ?_
      refine gNewA E X (c2 := 1) (s2 := 3) (cap := 3) (vs := [(.int (0 : Int32)), (.int (0 : Int32)), (.int (0 : Int32))]) (ty := .char) rfl d1_74 (hw _ (List.mem_of_getElem? (i := 4) rfl)) (by decide) (by decide) (by decide) rfl (by decide) (by decide) (by decide) (by decide) (q := 76) rfl ?_
      intro T1 a1 X1
      obtain ⟨V1, eV1⟩ : ∃ z, z = V ++ [(a1, (.inr (.char, [(.int (0 : Int32)), (.int (0 : Int32)), (.int (0 : Int32))])))] := ⟨_, rfl⟩
      rw [← eV1] at X1
      have i1_0 := (eV1 ▸ oAppLast : V1[V.length]? = some (a1, (.inr (.char, [(.int (0 : Int32)), (.int (0 : Int32)), (.int (0 : Int32))]))))
      refine gAstore E X1 d1_76 rfl (l' := #[.val (.int y0), .val (.int y1), .val (.int y2), .val (.int y3), .val (.ref a1)]) rfl (q := 78) rfl ?_
      refine gAload E X1 d1_78 rfl rfl (q := 80) rfl ?_
      refine gIconst E X1 d1_80 (v := (0 : Int32)) (by decide) (q := 81) rfl ?_
      refine gIloadN E X1 d1_81 rfl (q := 82) rfl ?_
      refine gI2c E X1 d1_82 (z := y1) (own_ch g1) (q := 83) rfl ?_
      refine gCastore E X1 (i := V.length) (jn := 0) (x' := y1) (V' := (V1.set V.length (a1, (.inr (.char, [(.int y1), (.int (0 : Int32)), (.int (0 : Int32))]))))) d1_83 i1_0 (by decide) rfl (by show 0 < 3; decide) (own_nc g1) rfl (q := 84) rfl ?_
      intro T2 X2
      obtain ⟨V2, eV2⟩ : ∃ z, z = (V1.set V.length (a1, (.inr (.char, [(.int y1), (.int (0 : Int32)), (.int (0 : Int32))])))) := ⟨_, rfl⟩
      rw [← eV2] at X2
      have i2_0 := (eV2 ▸ oSetGet i1_0 : V2[V.length]? = some (a1, (.inr (.char, [(.int y1), (.int (0 : Int32)), (.int (0 : Int32))]))))
      refine gAload E X2 d1_84 rfl rfl (q := 86) rfl ?_
      refine gIconst E X2 d1_86 (v := (1 : Int32)) (by decide) (q := 87) rfl ?_
      refine gIloadN E X2 d1_87 rfl (q := 88) rfl ?_
      refine gI2c E X2 d1_88 (z := y2) (own_ch g2) (q := 89) rfl ?_
      refine gCastore E X2 (i := V.length) (jn := 1) (x' := y2) (V' := (V2.set V.length (a1, (.inr (.char, [(.int y1), (.int y2), (.int (0 : Int32))]))))) d1_89 i2_0 (by decide) rfl (by show 1 < 3; decide) (own_nc g2) rfl (q := 90) rfl ?_
      intro T3 X3
      obtain ⟨V3, eV3⟩ : ∃ z, z = (V2.set V.length (a1, (.inr (.char, [(.int y1), (.int y2), (.int (0 : Int32))])))) := ⟨_, rfl⟩
      rw [← eV3] at X3
      have i3_0 := (eV3 ▸ oSetGet i2_0 : V3[V.length]? = some (a1, (.inr (.char, [(.int y1), (.int y2), (.int (0 : Int32))]))))
      refine gAload E X3 d1_90 rfl rfl (q := 92) rfl ?_
      refine gIconst E X3 d1_92 (v := (2 : Int32)) (by decide) (q := 93) rfl ?_
      refine gIloadN E X3 d1_93 rfl (q := 94) rfl ?_
      refine gI2c E X3 d1_94 (z := y3) (own_ch g3) (q := 95) rfl ?_
      refine gCastore E X3 (i := V.length) (jn := 2) (x' := y3) (V' := (V3.set V.length (a1, (.inr (.char, [(.int y1), (.int y2), (.int y3)]))))) d1_95 i3_0 (by decide) rfl (by show 2 < 3; decide) (own_nc g3) rfl (q := 96) rfl ?_
      intro T4 X4
      obtain ⟨V4, eV4⟩ : ∃ z, z = (V3.set V.length (a1, (.inr (.char, [(.int y1), (.int y2), (.int y3)])))) := ⟨_, rfl⟩
      rw [← eV4] at X4
      have i4_0 := (eV4 ▸ oSetGet i3_0 : V4[V.length]? = some (a1, (.inr (.char, [(.int y1), (.int y2), (.int y3)]))))
      refine gNew E X4 (c2 := 2) (s2 := 7) d1_96 (hw _ (List.mem_of_getElem? (i := 5) rfl)) (hw _ (List.mem_of_getElem? (i := 6) rfl)) (hw _ (List.mem_of_getElem? (i := 7) rfl)) (lay_String Z a0 hw) (by decide) (by decide) (by decide) (by decide) (q := 99) rfl ?_
      intro T5 a5 X5
      obtain ⟨V5, eV5⟩ : ∃ z, z = V4 ++ [(a5, (.inl ("java/lang/String", [("java/lang/String", "coder", "B", (.int (0 : Int32))), ("java/lang/String", "value", "[B", .null)])))] := ⟨_, rfl⟩
      rw [← eV5] at X5
      have i5_0 := (eV5 ▸ oAppGet i4_0 : V5[V.length]? = some (a1, (.inr (.char, [(.int y1), (.int y2), (.int y3)]))))
      have i5_1 := (eV5 ▸ oAppLast : V5[V4.length]? = some (a5, (.inl ("java/lang/String", [("java/lang/String", "coder", "B", (.int (0 : Int32))), ("java/lang/String", "value", "[B", .null)]))))
      refine gDup E X5 d1_99 rfl (q := 100) rfl ?_
      refine gAload E X5 d1_100 rfl rfl (q := 102) rfl ?_
      refine gCallI E X5 (W := 1) (c2 := 4) (s2 := 11) (a := a5) [(.ref a1)] [(.ref a5)] d1_102 rfl (hw _ (List.mem_of_getElem? (i := 8) rfl)) (hw _ (List.mem_of_getElem? (i := 9) rfl)) (hw _ (List.mem_of_getElem? (i := 7) rfl)) (hw _ (List.mem_of_getElem? (i := 10) rfl)) (by decide) (cN3 l Z a0 hw a5 a1 y1 y2 y3 cs (i := V4.length) i5_1 (k := V.length) i5_0 (Nat.ne_of_lt (oLt i4_0)) SC hcs g1 g2 g3) pd_4 rfl rfl rfl (by decide) (Nat.le_of_eq rfl) (by decide) (by decide) (by decide) (by decide) (by decide) (by decide) (q := 105) rfl ?_
      intro T6 v6 V6 R6 X6
      obtain ⟨b6', rfl, eV6⟩ := R6
      have i6_0 := (eV6 ▸ oAppGet (oSetNe (Ne.symm (Nat.ne_of_lt (oLt i4_0))) i5_0) : V6[V.length]? = some (a1, (.inr (.char, [(.int y1), (.int y2), (.int y3)]))))
      have i6_1 := (eV6 ▸ oAppGet (oSetGet i5_1) : V6[V4.length]? = some (a5, (.inl ("java/lang/String", [("java/lang/String", "coder", "B", (.int (0 : Int32))), ("java/lang/String", "value", "[B", (.ref b6'))]))))
      show oG false p e below s Z ({ frames := 4, cells := 5, slots := 12, locals := 66 } : Room) (fun v V' => ∃ (a : Addr) (n : Nat) (fs : List (String × String × String × Value)), v = some (.ref a) ∧ V'[n]? = some ((a, .inl ("java/lang/String", fs)) : Addr × oOb) ∧ oPre V V') T6 (mkF m 105 #[.val (.int y0), .val (.int y1), .val (.int y2), .val (.int y3), .val (.ref a1)] [(.ref a5)])
      exact gRetA E X6 rfl d1_105 (by decide) (by decide) (by decide) rfl rfl (⟨a5, _, _, rfl, i6_1, (by simp only [eV6, eV5, eV4, eV3, eV2, eV1]; repeat (first | exact oPre.rfl | refine oPre.app ?_ | refine oPre.set ?_ (by simp)))⟩)
    · refine gIconst E X d1_46 (v := (2 : Int32)) (by decide) (q := 47) rfl ?_
      refine gNewA E X (c2 := 1) (s2 := 2) (cap := 2) (vs := [(.int (0 : Int32)), (.int (0 : Int32))]) (ty := .char) rfl d1_47 (hw _ (List.mem_of_getElem? (i := 4) rfl)) (by decide) (by decide) (by decide) rfl (by decide) (by decide) (by decide) (by decide) (q := 49) rfl ?_
      intro T7 a7 X7
      obtain ⟨V7, eV7⟩ : ∃ z, z = V ++ [(a7, (.inr (.char, [(.int (0 : Int32)), (.int (0 : Int32))])))] := ⟨_, rfl⟩
      rw [← eV7] at X7
      have i7_0 := (eV7 ▸ oAppLast : V7[V.length]? = some (a7, (.inr (.char, [(.int (0 : Int32)), (.int (0 : Int32))]))))
      refine gAstore E X7 d1_49 rfl (l' := #[.val (.int y0), .val (.int y1), .val (.int y2), .val (.int y3), .val (.ref a7)]) rfl (q := 51) rfl ?_
      refine gAload E X7 d1_51 rfl rfl (q := 53) rfl ?_
      refine gIconst E X7 d1_53 (v := (0 : Int32)) (by decide) (q := 54) rfl ?_
      refine gIloadN E X7 d1_54 rfl (q := 55) rfl ?_
      refine gI2c E X7 d1_55 (z := y1) (own_ch g1) (q := 56) rfl ?_
      refine gCastore E X7 (i := V.length) (jn := 0) (x' := y1) (V' := (V7.set V.length (a7, (.inr (.char, [(.int y1), (.int (0 : Int32))]))))) d1_56 i7_0 (by decide) rfl (by show 0 < 2; decide) (own_nc g1) rfl (q := 57) rfl ?_
      intro T8 X8
      obtain ⟨V8, eV8⟩ : ∃ z, z = (V7.set V.length (a7, (.inr (.char, [(.int y1), (.int (0 : Int32))])))) := ⟨_, rfl⟩
      rw [← eV8] at X8
      have i8_0 := (eV8 ▸ oSetGet i7_0 : V8[V.length]? = some (a7, (.inr (.char, [(.int y1), (.int (0 : Int32))]))))
      refine gAload E X8 d1_57 rfl rfl (q := 59) rfl ?_
      refine gIconst E X8 d1_59 (v := (1 : Int32)) (by decide) (q := 60) rfl ?_
      refine gIloadN E X8 d1_60 rfl (q := 61) rfl ?_
      refine gI2c E X8 d1_61 (z := y2) (own_ch g2) (q := 62) rfl ?_
      refine gCastore E X8 (i := V.length) (jn := 1) (x' := y2) (V' := (V8.set V.length (a7, (.inr (.char, [(.int y1), (.int y2)]))))) d1_62 i8_0 (by decide) rfl (by show 1 < 2; decide) (own_nc g2) rfl (q := 63) rfl ?_
      intro T9 X9
      obtain ⟨V9, eV9⟩ : ∃ z, z = (V8.set V.length (a7, (.inr (.char, [(.int y1), (.int y2)])))) := ⟨_, rfl⟩
      rw [← eV9] at X9
      have i9_0 := (eV9 ▸ oSetGet i8_0 : V9[V.length]? = some (a7, (.inr (.char, [(.int y1), (.int y2)]))))
      refine gNew E X9 (c2 := 2) (s2 := 6) d1_63 (hw _ (List.mem_of_getElem? (i := 5) rfl)) (hw _ (List.mem_of_getElem? (i := 6) rfl)) (hw _ (List.mem_of_getElem? (i := 7) rfl)) (lay_String Z a0 hw) (by decide) (by decide) (by decide) (by decide) (q := 66) rfl ?_
      intro T10 a10 X10
      obtain ⟨V10, eV10⟩ : ∃ z, z = V9 ++ [(a10, (.inl ("java/lang/String", [("java/lang/String", "coder", "B", (.int (0 : Int32))), ("java/lang/String", "value", "[B", .null)])))] := ⟨_, rfl⟩
      rw [← eV10] at X10
      have i10_0 := (eV10 ▸ oAppGet i9_0 : V10[V.length]? = some (a7, (.inr (.char, [(.int y1), (.int y2)]))))
      have i10_1 := (eV10 ▸ oAppLast : V10[V9.length]? = some (a10, (.inl ("java/lang/String", [("java/lang/String", "coder", "B", (.int (0 : Int32))), ("java/lang/String", "value", "[B", .null)]))))
      refine gDup E X10 d1_66 rfl (q := 67) rfl ?_
      refine gAload E X10 d1_67 rfl rfl (q := 69) rfl ?_
      refine gCallI E X10 (W := 1) (c2 := 4) (s2 := 10) (a := a10) [(.ref a7)] [(.ref a10)] d1_69 rfl (hw _ (List.mem_of_getElem? (i := 8) rfl)) (hw _ (List.mem_of_getElem? (i := 9) rfl)) (hw _ (List.mem_of_getElem? (i := 7) rfl)) (hw _ (List.mem_of_getElem? (i := 10) rfl)) (by decide) (cN2 l Z a0 hw a10 a7 y1 y2 cs (i := V9.length) i10_1 (k := V.length) i10_0 (Nat.ne_of_lt (oLt i9_0)) SC hcs g1 g2) pd_4 rfl rfl rfl (by decide) (Nat.le_of_eq rfl) (by decide) (by decide) (by decide) (by decide) (by decide) (by decide) (q := 72) rfl ?_
      intro T11 v11 V11 R11 X11
      obtain ⟨b11', rfl, eV11⟩ := R11
      have i11_0 := (eV11 ▸ oAppGet (oSetNe (Ne.symm (Nat.ne_of_lt (oLt i9_0))) i10_0) : V11[V.length]? = some (a7, (.inr (.char, [(.int y1), (.int y2)]))))
      have i11_1 := (eV11 ▸ oAppGet (oSetGet i10_1) : V11[V9.length]? = some (a10, (.inl ("java/lang/String", [("java/lang/String", "coder", "B", (.int (0 : Int32))), ("java/lang/String", "value", "[B", (.ref b11'))]))))
      show oG false p e below s Z ({ frames := 4, cells := 5, slots := 12, locals := 66 } : Room) (fun v V' => ∃ (a : Addr) (n : Nat) (fs : List (String × String × String × Value)), v = some (.ref a) ∧ V'[n]? = some ((a, .inl ("java/lang/String", fs)) : Addr × oOb) ∧ oPre V V') T11 (mkF m 72 #[.val (.int y0), .val (.int y1), .val (.int y2), .val (.int y3), .val (.ref a7)] [(.ref a10)])
      exact gRetA E X11 rfl d1_72 (by decide) (by decide) (by decide) rfl rfl (⟨a10, _, _, rfl, i11_1, (by simp only [eV11, eV10, eV9, eV8, eV7]; repeat (first | exact oPre.rfl | refine oPre.app ?_ | refine oPre.set ?_ (by simp)))⟩)
  · refine gIconst E X d1_20 (v := (1 : Int32)) (by decide) (q := 21) rfl ?_
    refine gNewA E X (c2 := 1) (s2 := 1) (cap := 1) (vs := [(.int (0 : Int32))]) (ty := .char) rfl d1_21 (hw _ (List.mem_of_getElem? (i := 4) rfl)) (by decide) (by decide) (by decide) rfl (by decide) (by decide) (by decide) (by decide) (q := 23) rfl ?_
    intro T12 a12 X12
    obtain ⟨V12, eV12⟩ : ∃ z, z = V ++ [(a12, (.inr (.char, [(.int (0 : Int32))])))] := ⟨_, rfl⟩
    rw [← eV12] at X12
    have i12_0 := (eV12 ▸ oAppLast : V12[V.length]? = some (a12, (.inr (.char, [(.int (0 : Int32))]))))
    refine gAstore E X12 d1_23 rfl (l' := #[.val (.int y0), .val (.int y1), .val (.int y2), .val (.int y3), .val (.ref a12)]) rfl (q := 25) rfl ?_
    refine gAload E X12 d1_25 rfl rfl (q := 27) rfl ?_
    refine gIconst E X12 d1_27 (v := (0 : Int32)) (by decide) (q := 28) rfl ?_
    refine gIloadN E X12 d1_28 rfl (q := 29) rfl ?_
    refine gI2c E X12 d1_29 (z := y1) (own_ch g1) (q := 30) rfl ?_
    refine gCastore E X12 (i := V.length) (jn := 0) (x' := y1) (V' := (V12.set V.length (a12, (.inr (.char, [(.int y1)]))))) d1_30 i12_0 (by decide) rfl (by show 0 < 1; decide) (own_nc g1) rfl (q := 31) rfl ?_
    intro T13 X13
    obtain ⟨V13, eV13⟩ : ∃ z, z = (V12.set V.length (a12, (.inr (.char, [(.int y1)])))) := ⟨_, rfl⟩
    rw [← eV13] at X13
    have i13_0 := (eV13 ▸ oSetGet i12_0 : V13[V.length]? = some (a12, (.inr (.char, [(.int y1)]))))
    refine gNew E X13 (c2 := 2) (s2 := 5) d1_31 (hw _ (List.mem_of_getElem? (i := 5) rfl)) (hw _ (List.mem_of_getElem? (i := 6) rfl)) (hw _ (List.mem_of_getElem? (i := 7) rfl)) (lay_String Z a0 hw) (by decide) (by decide) (by decide) (by decide) (q := 34) rfl ?_
    intro T14 a14 X14
    obtain ⟨V14, eV14⟩ : ∃ z, z = V13 ++ [(a14, (.inl ("java/lang/String", [("java/lang/String", "coder", "B", (.int (0 : Int32))), ("java/lang/String", "value", "[B", .null)])))] := ⟨_, rfl⟩
    rw [← eV14] at X14
    have i14_0 := (eV14 ▸ oAppGet i13_0 : V14[V.length]? = some (a12, (.inr (.char, [(.int y1)]))))
    have i14_1 := (eV14 ▸ oAppLast : V14[V13.length]? = some (a14, (.inl ("java/lang/String", [("java/lang/String", "coder", "B", (.int (0 : Int32))), ("java/lang/String", "value", "[B", .null)]))))
    refine gDup E X14 d1_34 rfl (q := 35) rfl ?_
    refine gAload E X14 d1_35 rfl rfl (q := 37) rfl ?_
    refine gCallI E X14 (W := 1) (c2 := 4) (s2 := 9) (a := a14) [(.ref a12)] [(.ref a14)] d1_37 rfl (hw _ (List.mem_of_getElem? (i := 8) rfl)) (hw _ (List.mem_of_getElem? (i := 9) rfl)) (hw _ (List.mem_of_getElem? (i := 7) rfl)) (hw _ (List.mem_of_getElem? (i := 10) rfl)) (by decide) (cN1 l Z a0 hw a14 a12 y1 cs (i := V13.length) i14_1 (k := V.length) i14_0 (Nat.ne_of_lt (oLt i13_0)) SC hcs g1) pd_4 rfl rfl rfl (by decide) (Nat.le_of_eq rfl) (by decide) (by decide) (by decide) (by decide) (by decide) (by decide) (q := 40) rfl ?_
    intro T15 v15 V15 R15 X15
    obtain ⟨b15', rfl, eV15⟩ := R15
    have i15_0 := (eV15 ▸ oAppGet (oSetNe (Ne.symm (Nat.ne_of_lt (oLt i13_0))) i14_0) : V15[V.length]? = some (a12, (.inr (.char, [(.int y1)]))))
    have i15_1 := (eV15 ▸ oAppGet (oSetGet i14_1) : V15[V13.length]? = some (a14, (.inl ("java/lang/String", [("java/lang/String", "coder", "B", (.int (0 : Int32))), ("java/lang/String", "value", "[B", (.ref b15'))]))))
    show oG false p e below s Z ({ frames := 4, cells := 5, slots := 12, locals := 66 } : Room) (fun v V' => ∃ (a : Addr) (n : Nat) (fs : List (String × String × String × Value)), v = some (.ref a) ∧ V'[n]? = some ((a, .inl ("java/lang/String", fs)) : Addr × oOb) ∧ oPre V V') T15 (mkF m 40 #[.val (.int y0), .val (.int y1), .val (.int y2), .val (.int y3), .val (.ref a12)] [(.ref a14)])
    exact gRetA E X15 rfl d1_40 (by decide) (by decide) (by decide) rfl rfl (⟨a14, _, _, rfl, i15_1, (by simp only [eV15, eV14, eV13, eV12]; repeat (first | exact oPre.rfl | refine oPre.app ?_ | refine oPre.set ?_ (by simp)))⟩)
theorem d1_4 : decode method_3_code 4 = .ok (.new 28, 3) := by decide +kernel
theorem d1_7 : decode method_3_code 7 = .ok (.dup, 1) := by decide +kernel
theorem d1_8 : decode method_3_code 8 = .ok (.iconst 0, 1) := by decide +kernel
theorem d1_9 : decode method_3_code 9 = .ok (.newarray .char, 2) := by decide +kernel
theorem d1_11 : decode method_3_code 11 = .ok (.invokespecial 43, 3) := by decide +kernel
theorem d1_14 : decode method_3_code 14 = .ok (.areturn, 1) := by decide +kernel
set_option maxRecDepth 65536 in
set_option maxHeartbeats 40000000 in
theorem cTE (l : Launch) (Z : State) (a0 : Array Value) (hw : ∀ d ∈ tables_1, d.before a0 Z = true) {V : oVw} (y0 : Int32) (y1 : Int32) (y2 : Int32) (y3 : Int32) (cs : Int32)  (g1 : 0 ≤ y1.toInt ∧ y1.toInt ≤ 255) (g2 : 0 ≤ y2.toInt ∧ y2.toInt ≤ 255) (g3 : 0 ≤ y3.toInt ∧ y3.toInt ≤ 255) (SC : Sta Z Z.heap "java/lang/String" "COMPACT_STRINGS" "Z" (.int cs)) (hcs : ¬ cs = 0) (hh : Jvm.Lit.constHeld Z "java/lang/String" 7) (hcw : Jvm.Lit.compactW.before a0 Z = true) :
    oCon true l Z (⟨"com/example/bunsan/bunsan/PartitionWholePinLaw", "str", "(IIII)Ljava/lang/String;"⟩ : MethodName) method_3_code 5 (some (.object "java/lang/String")) ({ frames := 4, cells := 5, slots := 12, locals := 66 } : Room) #[(.int y0), (.int y1), (.int y2), (.int y3)] V (fun v V' => ∃ (a : Addr) (n : Nat) (fs : List (String × String × String × Value)), v = some (.ref a) ∧ V'[n]? = some ((a, .inl ("java/lang/String", fs)) : Addr × oOb) ∧ oPre V V') := by
  refine oEnter (plainFor_of_name pn_com_example_bunsan_bunsan_PartitionWholePinLaw) (Ls := #[.val (.int y0), .val (.int y1), .val (.int y2), .val (.int y3), .unset]) (fun m => by first | (simp [entryFrame, mkF, argsToLocals, Value.category]; done) | rfl) ?_
  intro p e s m below meth c T E X
  refine gIloadN E X d1_0 rfl (q := 1) rfl ?_
  refine gIf_ne E X d1_1 (by decide) (q := 15) (by decide) (q' := 4) rfl (fun h1 => ?_) (fun h1 => ?_)
  · refine gIloadN E X d1_15 rfl (q := 16) rfl ?_
    refine gIconst E X d1_16 (v := (1 : Int32)) (by decide) (q := 17) rfl ?_
    refine gIc_ne E X d1_17 (by decide) (q := 41) (by decide) (q' := 20) rfl (fun h17 => ?_) (fun h17 => ?_)
    · refine gIloadN E X d1_41 rfl (q := 42) rfl ?_
      refine gIconst E X d1_42 (v := (2 : Int32)) (by decide) (q := 43) rfl ?_
      refine gIc_ne E X d1_43 (by decide) (q := 73) (by decide) (q' := 46) rfl (fun h43 => ?_) (fun h43 => ?_)
      · refine gIconst E X d1_73 (v := (3 : Int32)) (by decide) (q := 74) rfl ?_
        refine gNewA E X (c2 := 1) (s2 := 3) (cap := 3) (vs := [(.int (0 : Int32)), (.int (0 : Int32)), (.int (0 : Int32))]) (ty := .char) rfl d1_74 (hw _ (List.mem_of_getElem? (i := 4) rfl)) (by decide) (by decide) (by decide) rfl (by decide) (by decide) (by decide) (by decide) (q := 76) rfl ?_
        intro T1 a1 X1
        obtain ⟨V1, eV1⟩ : ∃ z, z = V ++ [(a1, (.inr (.char, [(.int (0 : Int32)), (.int (0 : Int32)), (.int (0 : Int32))])))] := ⟨_, rfl⟩
        rw [← eV1] at X1
        have i1_0 := (eV1 ▸ oAppLast : V1[V.length]? = some (a1, (.inr (.char, [(.int (0 : Int32)), (.int (0 : Int32)), (.int (0 : Int32))]))))
        refine gAstore E X1 d1_76 rfl (l' := #[.val (.int y0), .val (.int y1), .val (.int y2), .val (.int y3), .val (.ref a1)]) rfl (q := 78) rfl ?_
        refine gAload E X1 d1_78 rfl rfl (q := 80) rfl ?_
        refine gIconst E X1 d1_80 (v := (0 : Int32)) (by decide) (q := 81) rfl ?_
        refine gIloadN E X1 d1_81 rfl (q := 82) rfl ?_
        refine gI2c E X1 d1_82 (z := y1) (own_ch g1) (q := 83) rfl ?_
        refine gCastore E X1 (i := V.length) (jn := 0) (x' := y1) (V' := (V1.set V.length (a1, (.inr (.char, [(.int y1), (.int (0 : Int32)), (.int (0 : Int32))]))))) d1_83 i1_0 (by decide) rfl (by show 0 < 3; decide) (own_nc g1) rfl (q := 84) rfl ?_
        intro T2 X2
        obtain ⟨V2, eV2⟩ : ∃ z, z = (V1.set V.length (a1, (.inr (.char, [(.int y1), (.int (0 : Int32)), (.int (0 : Int32))])))) := ⟨_, rfl⟩
        rw [← eV2] at X2
        have i2_0 := (eV2 ▸ oSetGet i1_0 : V2[V.length]? = some (a1, (.inr (.char, [(.int y1), (.int (0 : Int32)), (.int (0 : Int32))]))))
        refine gAload E X2 d1_84 rfl rfl (q := 86) rfl ?_
        refine gIconst E X2 d1_86 (v := (1 : Int32)) (by decide) (q := 87) rfl ?_
        refine gIloadN E X2 d1_87 rfl (q := 88) rfl ?_
        refine gI2c E X2 d1_88 (z := y2) (own_ch g2) (q := 89) rfl ?_
        refine gCastore E X2 (i := V.length) (jn := 1) (x' := y2) (V' := (V2.set V.length (a1, (.inr (.char, [(.int y1), (.int y2), (.int (0 : Int32))]))))) d1_89 i2_0 (by decide) rfl (by show 1 < 3; decide) (own_nc g2) rfl (q := 90) rfl ?_
        intro T3 X3
        obtain ⟨V3, eV3⟩ : ∃ z, z = (V2.set V.length (a1, (.inr (.char, [(.int y1), (.int y2), (.int (0 : Int32))])))) := ⟨_, rfl⟩
        rw [← eV3] at X3
        have i3_0 := (eV3 ▸ oSetGet i2_0 : V3[V.length]? = some (a1, (.inr (.char, [(.int y1), (.int y2), (.int (0 : Int32))]))))
        refine gAload E X3 d1_90 rfl rfl (q := 92) rfl ?_
        refine gIconst E X3 d1_92 (v := (2 : Int32)) (by decide) (q := 93) rfl ?_
        refine gIloadN E X3 d1_93 rfl (q := 94) rfl ?_
        refine gI2c E X3 d1_94 (z := y3) (own_ch g3) (q := 95) rfl ?_
        refine gCastore E X3 (i := V.length) (jn := 2) (x' := y3) (V' := (V3.set V.length (a1, (.inr (.char, [(.int y1), (.int y2), (.int y3)]))))) d1_95 i3_0 (by decide) rfl (by show 2 < 3; decide) (own_nc g3) rfl (q := 96) rfl ?_
        intro T4 X4
        obtain ⟨V4, eV4⟩ : ∃ z, z = (V3.set V.length (a1, (.inr (.char, [(.int y1), (.int y2), (.int y3)])))) := ⟨_, rfl⟩
        rw [← eV4] at X4
        have i4_0 := (eV4 ▸ oSetGet i3_0 : V4[V.length]? = some (a1, (.inr (.char, [(.int y1), (.int y2), (.int y3)]))))
        refine gNew E X4 (c2 := 2) (s2 := 7) d1_96 (hw _ (List.mem_of_getElem? (i := 5) rfl)) (hw _ (List.mem_of_getElem? (i := 6) rfl)) (hw _ (List.mem_of_getElem? (i := 7) rfl)) (lay_String Z a0 hw) (by decide) (by decide) (by decide) (by decide) (q := 99) rfl ?_
        intro T5 a5 X5
        obtain ⟨V5, eV5⟩ : ∃ z, z = V4 ++ [(a5, (.inl ("java/lang/String", [("java/lang/String", "coder", "B", (.int (0 : Int32))), ("java/lang/String", "value", "[B", .null)])))] := ⟨_, rfl⟩
        rw [← eV5] at X5
        have i5_0 := (eV5 ▸ oAppGet i4_0 : V5[V.length]? = some (a1, (.inr (.char, [(.int y1), (.int y2), (.int y3)]))))
        have i5_1 := (eV5 ▸ oAppLast : V5[V4.length]? = some (a5, (.inl ("java/lang/String", [("java/lang/String", "coder", "B", (.int (0 : Int32))), ("java/lang/String", "value", "[B", .null)]))))
        refine gDup E X5 d1_99 rfl (q := 100) rfl ?_
        refine gAload E X5 d1_100 rfl rfl (q := 102) rfl ?_
        refine gCallI E X5 (W := 1) (c2 := 4) (s2 := 11) (a := a5) [(.ref a1)] [(.ref a5)] d1_102 rfl (hw _ (List.mem_of_getElem? (i := 8) rfl)) (hw _ (List.mem_of_getElem? (i := 9) rfl)) (hw _ (List.mem_of_getElem? (i := 7) rfl)) (hw _ (List.mem_of_getElem? (i := 10) rfl)) (by decide) (cN3 l Z a0 hw a5 a1 y1 y2 y3 cs (i := V4.length) i5_1 (k := V.length) i5_0 (Nat.ne_of_lt (oLt i4_0)) SC hcs g1 g2 g3) pd_4 rfl rfl rfl (by decide) (Nat.le_of_eq rfl) (by decide) (by decide) (by decide) (by decide) (by decide) (by decide) (q := 105) rfl ?_
        intro T6 v6 V6 R6 X6
        obtain ⟨b6', rfl, eV6⟩ := R6
        have i6_0 := (eV6 ▸ oAppGet (oSetNe (Ne.symm (Nat.ne_of_lt (oLt i4_0))) i5_0) : V6[V.length]? = some (a1, (.inr (.char, [(.int y1), (.int y2), (.int y3)]))))
        have i6_1 := (eV6 ▸ oAppGet (oSetGet i5_1) : V6[V4.length]? = some (a5, (.inl ("java/lang/String", [("java/lang/String", "coder", "B", (.int (0 : Int32))), ("java/lang/String", "value", "[B", (.ref b6'))]))))
        show oG true p e below s Z ({ frames := 4, cells := 5, slots := 12, locals := 66 } : Room) (fun v V' => ∃ (a : Addr) (n : Nat) (fs : List (String × String × String × Value)), v = some (.ref a) ∧ V'[n]? = some ((a, .inl ("java/lang/String", fs)) : Addr × oOb) ∧ oPre V V') T6 (mkF m 105 #[.val (.int y0), .val (.int y1), .val (.int y2), .val (.int y3), .val (.ref a1)] [(.ref a5)])
        exact gRetA E X6 rfl d1_105 (by decide) (by decide) (by decide) rfl rfl (⟨a5, _, _, rfl, i6_1, (by simp only [eV6, eV5, eV4, eV3, eV2, eV1]; repeat (first | exact oPre.rfl | refine oPre.app ?_ | refine oPre.set ?_ (by simp)))⟩)
      · refine gIconst E X d1_46 (v := (2 : Int32)) (by decide) (q := 47) rfl ?_
        refine gNewA E X (c2 := 1) (s2 := 2) (cap := 2) (vs := [(.int (0 : Int32)), (.int (0 : Int32))]) (ty := .char) rfl d1_47 (hw _ (List.mem_of_getElem? (i := 4) rfl)) (by decide) (by decide) (by decide) rfl (by decide) (by decide) (by decide) (by decide) (q := 49) rfl ?_
        intro T7 a7 X7
        obtain ⟨V7, eV7⟩ : ∃ z, z = V ++ [(a7, (.inr (.char, [(.int (0 : Int32)), (.int (0 : Int32))])))] := ⟨_, rfl⟩
        rw [← eV7] at X7
        have i7_0 := (eV7 ▸ oAppLast : V7[V.length]? = some (a7, (.inr (.char, [(.int (0 : Int32)), (.int (0 : Int32))]))))
        refine gAstore E X7 d1_49 rfl (l' := #[.val (.int y0), .val (.int y1), .val (.int y2), .val (.int y3), .val (.ref a7)]) rfl (q := 51) rfl ?_
        refine gAload E X7 d1_51 rfl rfl (q := 53) rfl ?_
        refine gIconst E X7 d1_53 (v := (0 : Int32)) (by decide) (q := 54) rfl ?_
        refine gIloadN E X7 d1_54 rfl (q := 55) rfl ?_
        refine gI2c E X7 d1_55 (z := y1) (own_ch g1) (q := 56) rfl ?_
        refine gCastore E X7 (i := V.length) (jn := 0) (x' := y1) (V' := (V7.set V.length (a7, (.inr (.char, [(.int y1), (.int (0 : Int32))]))))) d1_56 i7_0 (by decide) rfl (by show 0 < 2; decide) (own_nc g1) rfl (q := 57) rfl ?_
        intro T8 X8
        obtain ⟨V8, eV8⟩ : ∃ z, z = (V7.set V.length (a7, (.inr (.char, [(.int y1), (.int (0 : Int32))])))) := ⟨_, rfl⟩
        rw [← eV8] at X8
        have i8_0 := (eV8 ▸ oSetGet i7_0 : V8[V.length]? = some (a7, (.inr (.char, [(.int y1), (.int (0 : Int32))]))))
        refine gAload E X8 d1_57 rfl rfl (q := 59) rfl ?_
        refine gIconst E X8 d1_59 (v := (1 : Int32)) (by decide) (q := 60) rfl ?_
        refine gIloadN E X8 d1_60 rfl (q := 61) rfl ?_
        refine gI2c E X8 d1_61 (z := y2) (own_ch g2) (q := 62) rfl ?_
        refine gCastore E X8 (i := V.length) (jn := 1) (x' := y2) (V' := (V8.set V.length (a7, (.inr (.char, [(.int y1), (.int y2)]))))) d1_62 i8_0 (by decide) rfl (by show 1 < 2; decide) (own_nc g2) rfl (q := 63) rfl ?_
        intro T9 X9
        obtain ⟨V9, eV9⟩ : ∃ z, z = (V8.set V.length (a7, (.inr (.char, [(.int y1), (.int y2)])))) := ⟨_, rfl⟩
        rw [← eV9] at X9
        have i9_0 := (eV9 ▸ oSetGet i8_0 : V9[V.length]? = some (a7, (.inr (.char, [(.int y1), (.int y2)]))))
        refine gNew E X9 (c2 := 2) (s2 := 6) d1_63 (hw _ (List.mem_of_getElem? (i := 5) rfl)) (hw _ (List.mem_of_getElem? (i := 6) rfl)) (hw _ (List.mem_of_getElem? (i := 7) rfl)) (lay_String Z a0 hw) (by decide) (by decide) (by decide) (by decide) (q := 66) rfl ?_
        intro T10 a10 X10
        obtain ⟨V10, eV10⟩ : ∃ z, z = V9 ++ [(a10, (.inl ("java/lang/String", [("java/lang/String", "coder", "B", (.int (0 : Int32))), ("java/lang/String", "value", "[B", .null)])))] := ⟨_, rfl⟩
        rw [← eV10] at X10
        have i10_0 := (eV10 ▸ oAppGet i9_0 : V10[V.length]? = some (a7, (.inr (.char, [(.int y1), (.int y2)]))))
        have i10_1 := (eV10 ▸ oAppLast : V10[V9.length]? = some (a10, (.inl ("java/lang/String", [("java/lang/String", "coder", "B", (.int (0 : Int32))), ("java/lang/String", "value", "[B", .null)]))))
        refine gDup E X10 d1_66 rfl (q := 67) rfl ?_
        refine gAload E X10 d1_67 rfl rfl (q := 69) rfl ?_
        refine gCallI E X10 (W := 1) (c2 := 4) (s2 := 10) (a := a10) [(.ref a7)] [(.ref a10)] d1_69 rfl (hw _ (List.mem_of_getElem? (i := 8) rfl)) (hw _ (List.mem_of_getElem? (i := 9) rfl)) (hw _ (List.mem_of_getElem? (i := 7) rfl)) (hw _ (List.mem_of_getElem? (i := 10) rfl)) (by decide) (cN2 l Z a0 hw a10 a7 y1 y2 cs (i := V9.length) i10_1 (k := V.length) i10_0 (Nat.ne_of_lt (oLt i9_0)) SC hcs g1 g2) pd_4 rfl rfl rfl (by decide) (Nat.le_of_eq rfl) (by decide) (by decide) (by decide) (by decide) (by decide) (by decide) (q := 72) rfl ?_
        intro T11 v11 V11 R11 X11
        obtain ⟨b11', rfl, eV11⟩ := R11
        have i11_0 := (eV11 ▸ oAppGet (oSetNe (Ne.symm (Nat.ne_of_lt (oLt i9_0))) i10_0) : V11[V.length]? = some (a7, (.inr (.char, [(.int y1), (.int y2)]))))
        have i11_1 := (eV11 ▸ oAppGet (oSetGet i10_1) : V11[V9.length]? = some (a10, (.inl ("java/lang/String", [("java/lang/String", "coder", "B", (.int (0 : Int32))), ("java/lang/String", "value", "[B", (.ref b11'))]))))
        show oG true p e below s Z ({ frames := 4, cells := 5, slots := 12, locals := 66 } : Room) (fun v V' => ∃ (a : Addr) (n : Nat) (fs : List (String × String × String × Value)), v = some (.ref a) ∧ V'[n]? = some ((a, .inl ("java/lang/String", fs)) : Addr × oOb) ∧ oPre V V') T11 (mkF m 72 #[.val (.int y0), .val (.int y1), .val (.int y2), .val (.int y3), .val (.ref a7)] [(.ref a10)])
        exact gRetA E X11 rfl d1_72 (by decide) (by decide) (by decide) rfl rfl (⟨a10, _, _, rfl, i11_1, (by simp only [eV11, eV10, eV9, eV8, eV7]; repeat (first | exact oPre.rfl | refine oPre.app ?_ | refine oPre.set ?_ (by simp)))⟩)
    · refine gIconst E X d1_20 (v := (1 : Int32)) (by decide) (q := 21) rfl ?_
      refine gNewA E X (c2 := 1) (s2 := 1) (cap := 1) (vs := [(.int (0 : Int32))]) (ty := .char) rfl d1_21 (hw _ (List.mem_of_getElem? (i := 4) rfl)) (by decide) (by decide) (by decide) rfl (by decide) (by decide) (by decide) (by decide) (q := 23) rfl ?_
      intro T12 a12 X12
      obtain ⟨V12, eV12⟩ : ∃ z, z = V ++ [(a12, (.inr (.char, [(.int (0 : Int32))])))] := ⟨_, rfl⟩
      rw [← eV12] at X12
      have i12_0 := (eV12 ▸ oAppLast : V12[V.length]? = some (a12, (.inr (.char, [(.int (0 : Int32))]))))
      refine gAstore E X12 d1_23 rfl (l' := #[.val (.int y0), .val (.int y1), .val (.int y2), .val (.int y3), .val (.ref a12)]) rfl (q := 25) rfl ?_
      refine gAload E X12 d1_25 rfl rfl (q := 27) rfl ?_
      refine gIconst E X12 d1_27 (v := (0 : Int32)) (by decide) (q := 28) rfl ?_
      refine gIloadN E X12 d1_28 rfl (q := 29) rfl ?_
      refine gI2c E X12 d1_29 (z := y1) (own_ch g1) (q := 30) rfl ?_
      refine gCastore E X12 (i := V.length) (jn := 0) (x' := y1) (V' := (V12.set V.length (a12, (.inr (.char, [(.int y1)]))))) d1_30 i12_0 (by decide) rfl (by show 0 < 1; decide) (own_nc g1) rfl (q := 31) rfl ?_
      intro T13 X13
      obtain ⟨V13, eV13⟩ : ∃ z, z = (V12.set V.length (a12, (.inr (.char, [(.int y1)])))) := ⟨_, rfl⟩
      rw [← eV13] at X13
      have i13_0 := (eV13 ▸ oSetGet i12_0 : V13[V.length]? = some (a12, (.inr (.char, [(.int y1)]))))
      refine gNew E X13 (c2 := 2) (s2 := 5) d1_31 (hw _ (List.mem_of_getElem? (i := 5) rfl)) (hw _ (List.mem_of_getElem? (i := 6) rfl)) (hw _ (List.mem_of_getElem? (i := 7) rfl)) (lay_String Z a0 hw) (by decide) (by decide) (by decide) (by decide) (q := 34) rfl ?_
      intro T14 a14 X14
      obtain ⟨V14, eV14⟩ : ∃ z, z = V13 ++ [(a14, (.inl ("java/lang/String", [("java/lang/String", "coder", "B", (.int (0 : Int32))), ("java/lang/String", "value", "[B", .null)])))] := ⟨_, rfl⟩
      rw [← eV14] at X14
      have i14_0 := (eV14 ▸ oAppGet i13_0 : V14[V.length]? = some (a12, (.inr (.char, [(.int y1)]))))
      have i14_1 := (eV14 ▸ oAppLast : V14[V13.length]? = some (a14, (.inl ("java/lang/String", [("java/lang/String", "coder", "B", (.int (0 : Int32))), ("java/lang/String", "value", "[B", .null)]))))
      refine gDup E X14 d1_34 rfl (q := 35) rfl ?_
      refine gAload E X14 d1_35 rfl rfl (q := 37) rfl ?_
      refine gCallI E X14 (W := 1) (c2 := 4) (s2 := 9) (a := a14) [(.ref a12)] [(.ref a14)] d1_37 rfl (hw _ (List.mem_of_getElem? (i := 8) rfl)) (hw _ (List.mem_of_getElem? (i := 9) rfl)) (hw _ (List.mem_of_getElem? (i := 7) rfl)) (hw _ (List.mem_of_getElem? (i := 10) rfl)) (by decide) (cN1 l Z a0 hw a14 a12 y1 cs (i := V13.length) i14_1 (k := V.length) i14_0 (Nat.ne_of_lt (oLt i13_0)) SC hcs g1) pd_4 rfl rfl rfl (by decide) (Nat.le_of_eq rfl) (by decide) (by decide) (by decide) (by decide) (by decide) (by decide) (q := 40) rfl ?_
      intro T15 v15 V15 R15 X15
      obtain ⟨b15', rfl, eV15⟩ := R15
      have i15_0 := (eV15 ▸ oAppGet (oSetNe (Ne.symm (Nat.ne_of_lt (oLt i13_0))) i14_0) : V15[V.length]? = some (a12, (.inr (.char, [(.int y1)]))))
      have i15_1 := (eV15 ▸ oAppGet (oSetGet i14_1) : V15[V13.length]? = some (a14, (.inl ("java/lang/String", [("java/lang/String", "coder", "B", (.int (0 : Int32))), ("java/lang/String", "value", "[B", (.ref b15'))]))))
      show oG true p e below s Z ({ frames := 4, cells := 5, slots := 12, locals := 66 } : Room) (fun v V' => ∃ (a : Addr) (n : Nat) (fs : List (String × String × String × Value)), v = some (.ref a) ∧ V'[n]? = some ((a, .inl ("java/lang/String", fs)) : Addr × oOb) ∧ oPre V V') T15 (mkF m 40 #[.val (.int y0), .val (.int y1), .val (.int y2), .val (.int y3), .val (.ref a12)] [(.ref a14)])
      exact gRetA E X15 rfl d1_40 (by decide) (by decide) (by decide) rfl rfl (⟨a14, _, _, rfl, i15_1, (by simp only [eV15, eV14, eV13, eV12]; repeat (first | exact oPre.rfl | refine oPre.app ?_ | refine oPre.set ?_ (by simp)))⟩)
  · refine gNew E X (c2 := 1) (s2 := 4) d1_4 (hw _ (List.mem_of_getElem? (i := 5) rfl)) (hw _ (List.mem_of_getElem? (i := 6) rfl)) (hw _ (List.mem_of_getElem? (i := 7) rfl)) (lay_String Z a0 hw) (by decide) (by decide) (by decide) (by decide) (q := 7) rfl ?_
    intro T16 a16 X16
    obtain ⟨V16, eV16⟩ : ∃ z, z = V ++ [(a16, (.inl ("java/lang/String", [("java/lang/String", "coder", "B", (.int (0 : Int32))), ("java/lang/String", "value", "[B", .null)])))] := ⟨_, rfl⟩
    rw [← eV16] at X16
    have i16_0 := (eV16 ▸ oAppLast : V16[V.length]? = some (a16, (.inl ("java/lang/String", [("java/lang/String", "coder", "B", (.int (0 : Int32))), ("java/lang/String", "value", "[B", .null)]))))
    refine gDup E X16 d1_7 rfl (q := 8) rfl ?_
    refine gIconst E X16 d1_8 (v := (0 : Int32)) (by decide) (q := 9) rfl ?_
    refine gNewA E X16 (c2 := 2) (s2 := 4) (cap := 0) (vs := []) (ty := .char) rfl d1_9 (hw _ (List.mem_of_getElem? (i := 4) rfl)) (by decide) (by decide) (by decide) rfl (by decide) (by decide) (by decide) (by decide) (q := 11) rfl ?_
    intro T17 a17 X17
    obtain ⟨V17, eV17⟩ : ∃ z, z = V16 ++ [(a17, (.inr (.char, [])))] := ⟨_, rfl⟩
    rw [← eV17] at X17
    have i17_0 := (eV17 ▸ oAppGet i16_0 : V17[V.length]? = some (a16, (.inl ("java/lang/String", [("java/lang/String", "coder", "B", (.int (0 : Int32))), ("java/lang/String", "value", "[B", .null)]))))
    have i17_1 := (eV17 ▸ oAppLast : V17[V16.length]? = some (a17, (.inr (.char, []))))
    refine gCallI E X17 (W := 1) (c2 := 4) (s2 := 8) (a := a16) [(.ref a17)] [(.ref a16)] d1_11 rfl (hw _ (List.mem_of_getElem? (i := 8) rfl)) (hw _ (List.mem_of_getElem? (i := 9) rfl)) (hw _ (List.mem_of_getElem? (i := 7) rfl)) (hw _ (List.mem_of_getElem? (i := 10) rfl)) (by decide) (cN0 l Z a0 hw a16 a17 (i := V.length) i17_0 (k := V16.length) i17_1 (Ne.symm (Nat.ne_of_lt (oLt i16_0))) hh hcw) pd_4 rfl rfl rfl (by decide) (Nat.le_of_eq rfl) (by decide) (by decide) (by decide) (by decide) (by decide) (by decide) (q := 14) rfl ?_
    intro T18 v18 V18 R18 X18
    obtain ⟨b18', rfl, eV18⟩ := R18
    have i18_0 := (eV18 ▸ (oSetGet i17_0) : V18[V.length]? = some (a16, (.inl ("java/lang/String", [("java/lang/String", "coder", "B", (.int (0 : Int32))), ("java/lang/String", "value", "[B", (.ref b18'))]))))
    have i18_1 := (eV18 ▸ (oSetNe (Nat.ne_of_lt (oLt i16_0)) i17_1) : V18[V16.length]? = some (a17, (.inr (.char, []))))
    show oG true p e below s Z ({ frames := 4, cells := 5, slots := 12, locals := 66 } : Room) (fun v V' => ∃ (a : Addr) (n : Nat) (fs : List (String × String × String × Value)), v = some (.ref a) ∧ V'[n]? = some ((a, .inl ("java/lang/String", fs)) : Addr × oOb) ∧ oPre V V') T18 (mkF m 14 #[.val (.int y0), .val (.int y1), .val (.int y2), .val (.int y3), .unset] [(.ref a16)])
    exact gRetA E X18 rfl d1_14 (by decide) (by decide) (by decide) rfl rfl (⟨a16, _, _, rfl, i18_0, (by simp only [eV18, eV17, eV16]; repeat (first | exact oPre.rfl | refine oPre.app ?_ | refine oPre.set ?_ (by simp)))⟩)
theorem d9_0 : decode jdk_72_method_26_code 0 = .ok (.getstatic 81, 3) := by decide +kernel
theorem d9_3 : decode jdk_72_method_26_code 3 = .ok (.areturn, 1) := by decide +kernel
theorem pn_java_util_Map : plainName "java/util/Map" = true := by first | (simp [plainName, overriddenIn]; done) | decide +kernel
set_option maxRecDepth 65536 in
set_option maxHeartbeats 40000000 in
theorem cM (l : Launch) (Z : State) (a0 : Array Value) (hw : ∀ d ∈ tables_1, d.before a0 Z = true) {V : oVw} (em : Addr)  (SM : Sta Z Z.heap "java/util/ImmutableCollections" "EMPTY_MAP" "Ljava/util/ImmutableCollections$MapN;" (.ref em)) :
    oCon false l Z (⟨"java/util/Map", "of", "()Ljava/util/Map;"⟩ : MethodName) jdk_72_method_26_code 0 (some (.object "java/util/Map")) ({ frames := 0, cells := 0, slots := 0, locals := 0 } : Room) #[] V (fun v V' => v = some (.ref em) ∧ V' = V) := by
  refine oEnter (plainFor_of_name pn_java_util_Map) (Ls := #[]) (fun m => by first | (simp [entryFrame, mkF, argsToLocals, Value.category]; done) | rfl) ?_
  intro p e s m below meth c T E X
  refine gGetS E X d9_0 (hw _ (List.mem_of_getElem? (i := 47) rfl)) Via.refl SM (q := 3) rfl ?_
  intro T1 X1
  exact gRetA E X1 rfl d9_3 (by decide) (by decide) (by decide) rfl rfl (⟨rfl, rfl⟩)
theorem d15_0 : decode jdk_31_method_10_code 0 = .ok (.aload_n 0, 1) := by decide +kernel
theorem d15_1 : decode jdk_31_method_10_code 1 = .ok (.ifnonnull 11, 3) := by decide +kernel
theorem d15_12 : decode jdk_31_method_10_code 12 = .ok (.aload_n 0, 1) := by decide +kernel
theorem d15_13 : decode jdk_31_method_10_code 13 = .ok (.areturn, 1) := by decide +kernel
theorem pn_java_util_Objects : plainName "java/util/Objects" = true := by first | (simp [plainName, overriddenIn]; done) | decide +kernel
set_option maxRecDepth 65536 in
set_option maxHeartbeats 40000000 in
theorem cQ (l : Launch) (Z : State) (a0 : Array Value) (hw : ∀ d ∈ tables_1, d.before a0 Z = true) {V : oVw} (a : Addr)   :
    oCon false l Z (⟨"java/util/Objects", "requireNonNull", "(Ljava/lang/Object;)Ljava/lang/Object;"⟩ : MethodName) jdk_31_method_10_code 1 (some (.object "java/lang/Object")) ({ frames := 0, cells := 0, slots := 0, locals := 0 } : Room) #[(.ref a)] V (fun v V' => v = some (.ref a) ∧ V' = V) := by
  refine oEnter (plainFor_of_name pn_java_util_Objects) (Ls := #[.val (.ref a)]) (fun m => by first | (simp [entryFrame, mkF, argsToLocals, Value.category]; done) | rfl) ?_
  intro p e s m below meth c T E X
  refine gAloadN E X d15_0 rfl rfl (q := 1) rfl ?_
  refine gNull_n E X rfl d15_1 (by decide) (q := 12) (by decide) (q' := 4) rfl (fun h1 => ?_) (fun h1 => by exfalso; cases h1)
  refine gAloadN E X d15_12 rfl rfl (q := 13) rfl ?_
  exact gRetA E X rfl d15_13 (by decide) (by decide) (by decide) rfl rfl (⟨rfl, rfl⟩)
theorem d14_0 : decode jdk_22_method_1_code 0 = .ok (.aload_n 0, 1) := by decide +kernel
theorem d14_1 : decode jdk_22_method_1_code 1 = .ok (.invokespecial 1, 3) := by decide +kernel
theorem d14_4 : decode jdk_22_method_1_code 4 = .ok (.return_, 1) := by decide +kernel
theorem pn_java_util_AbstractCollection : plainName "java/util/AbstractCollection" = true := by first | (simp [plainName, overriddenIn]; done) | decide +kernel
set_option maxRecDepth 65536 in
set_option maxHeartbeats 40000000 in
theorem cA0 (l : Launch) (Z : State) (a0 : Array Value) (hw : ∀ d ∈ tables_1, d.before a0 Z = true) {V : oVw} (a : Addr)   :
    oCon false l Z (⟨"java/util/AbstractCollection", "<init>", "()V"⟩ : MethodName) jdk_22_method_1_code 1 none ({ frames := 1, cells := 0, slots := 0, locals := 12 } : Room) #[(.ref a)] V (fun v V' => v = none ∧ V' = V) := by
  refine oEnter (plainFor_of_name pn_java_util_AbstractCollection) (Ls := #[.val (.ref a)]) (fun m => by first | (simp [entryFrame, mkF, argsToLocals, Value.category]; done) | rfl) ?_
  intro p e s m below meth c T E X
  refine gAloadN E X d14_0 rfl rfl (q := 1) rfl ?_
  refine gInitO E X (W := 0) d14_1 (hw _ (List.mem_of_getElem? (i := 78) rfl)) (hw _ (List.mem_of_getElem? (i := 16) rfl)) (hw _ (List.mem_of_getElem? (i := 17) rfl)) rfl (by decide) (Nat.le_of_eq rfl) (by decide) (q := 4) rfl ?_
  intro T1 X1
  exact gRetV E X1 d14_4 (by decide) (by decide) (by decide) (⟨rfl, rfl⟩)
theorem pd_5 : parseMethodDescriptor "()V" = some ⟨[], none⟩ := by decide +kernel
theorem d13_0 : decode jdk_47_method_1_code 0 = .ok (.aload_n 0, 1) := by decide +kernel
theorem d13_1 : decode jdk_47_method_1_code 1 = .ok (.invokespecial 1, 3) := by decide +kernel
theorem d13_4 : decode jdk_47_method_1_code 4 = .ok (.return_, 1) := by decide +kernel
theorem pn_java_util_ImmutableCollections_AbstractImmutableCollection : plainName "java/util/ImmutableCollections$AbstractImmutableCollection" = true := by first | (simp [plainName, overriddenIn]; done) | decide +kernel
set_option maxRecDepth 65536 in
set_option maxHeartbeats 40000000 in
theorem cA1 (l : Launch) (Z : State) (a0 : Array Value) (hw : ∀ d ∈ tables_1, d.before a0 Z = true) {V : oVw} (a : Addr)   :
    oCon false l Z (⟨"java/util/ImmutableCollections$AbstractImmutableCollection", "<init>", "()V"⟩ : MethodName) jdk_47_method_1_code 1 none ({ frames := 2, cells := 0, slots := 0, locals := 24 } : Room) #[(.ref a)] V (fun v V' => v = none ∧ V' = V) := by
  refine oEnter (plainFor_of_name pn_java_util_ImmutableCollections_AbstractImmutableCollection) (Ls := #[.val (.ref a)]) (fun m => by first | (simp [entryFrame, mkF, argsToLocals, Value.category]; done) | rfl) ?_
  intro p e s m below meth c T E X
  refine gAloadN E X d13_0 rfl rfl (q := 1) rfl ?_
  refine gCallI E X (W := 0) (c2 := 0) (s2 := 0) (a := a) [] [] d13_1 rfl (hw _ (List.mem_of_getElem? (i := 72) rfl)) (hw _ (List.mem_of_getElem? (i := 73) rfl)) (hw _ (List.mem_of_getElem? (i := 76) rfl)) (hw _ (List.mem_of_getElem? (i := 77) rfl)) (by decide) (cA0 l Z a0 hw a) pd_5 rfl rfl rfl (by decide) (Nat.le_of_eq rfl) (by decide) (by decide) (by decide) (by decide) (by decide) (by decide) (q := 4) rfl ?_
  intro T1 v1 V1 R1 X1
  obtain ⟨rfl, eQ1⟩ := R1
  rw [eQ1] at X1
  show oG false p e below s Z ({ frames := 2, cells := 0, slots := 0, locals := 24 } : Room) (fun v V' => v = none ∧ V' = V) T1 (mkF m 4 #[.val (.ref a)] [])
  exact gRetV E X1 d13_4 (by decide) (by decide) (by decide) (⟨rfl, rfl⟩)
theorem d12_0 : decode jdk_46_method_1_code 0 = .ok (.aload_n 0, 1) := by decide +kernel
theorem d12_1 : decode jdk_46_method_1_code 1 = .ok (.invokespecial 1, 3) := by decide +kernel
theorem d12_4 : decode jdk_46_method_1_code 4 = .ok (.return_, 1) := by decide +kernel
theorem pn_java_util_ImmutableCollections_AbstractImmutableList : plainName "java/util/ImmutableCollections$AbstractImmutableList" = true := by first | (simp [plainName, overriddenIn]; done) | decide +kernel
set_option maxRecDepth 65536 in
set_option maxHeartbeats 40000000 in
theorem cA2 (l : Launch) (Z : State) (a0 : Array Value) (hw : ∀ d ∈ tables_1, d.before a0 Z = true) {V : oVw} (a : Addr)   :
    oCon false l Z (⟨"java/util/ImmutableCollections$AbstractImmutableList", "<init>", "()V"⟩ : MethodName) jdk_46_method_1_code 1 none ({ frames := 3, cells := 0, slots := 0, locals := 36 } : Room) #[(.ref a)] V (fun v V' => v = none ∧ V' = V) := by
  refine oEnter (plainFor_of_name pn_java_util_ImmutableCollections_AbstractImmutableList) (Ls := #[.val (.ref a)]) (fun m => by first | (simp [entryFrame, mkF, argsToLocals, Value.category]; done) | rfl) ?_
  intro p e s m below meth c T E X
  refine gAloadN E X d12_0 rfl rfl (q := 1) rfl ?_
  refine gCallI E X (W := 0) (c2 := 0) (s2 := 0) (a := a) [] [] d12_1 rfl (hw _ (List.mem_of_getElem? (i := 66) rfl)) (hw _ (List.mem_of_getElem? (i := 67) rfl)) (hw _ (List.mem_of_getElem? (i := 70) rfl)) (hw _ (List.mem_of_getElem? (i := 71) rfl)) (by decide) (cA1 l Z a0 hw a) pd_5 rfl rfl rfl (by decide) (Nat.le_of_eq rfl) (by decide) (by decide) (by decide) (by decide) (by decide) (by decide) (q := 4) rfl ?_
  intro T1 v1 V1 R1 X1
  obtain ⟨rfl, eQ1⟩ := R1
  rw [eQ1] at X1
  show oG false p e below s Z ({ frames := 3, cells := 0, slots := 0, locals := 36 } : Room) (fun v V' => v = none ∧ V' = V) T1 (mkF m 4 #[.val (.ref a)] [])
  exact gRetV E X1 d12_4 (by decide) (by decide) (by decide) (⟨rfl, rfl⟩)
theorem pd_6 : parseMethodDescriptor "(Ljava/lang/Object;)Ljava/lang/Object;" = some ⟨[(.object "java/lang/Object")], some (.object "java/lang/Object")⟩ := by decide +kernel
theorem d11_0 : decode jdk_44_method_1_code 0 = .ok (.aload_n 0, 1) := by decide +kernel
theorem d11_1 : decode jdk_44_method_1_code 1 = .ok (.invokespecial 1, 3) := by decide +kernel
theorem d11_4 : decode jdk_44_method_1_code 4 = .ok (.aload_n 0, 1) := by decide +kernel
theorem d11_5 : decode jdk_44_method_1_code 5 = .ok (.aload_n 1, 1) := by decide +kernel
theorem d11_6 : decode jdk_44_method_1_code 6 = .ok (.invokestatic 7, 3) := by decide +kernel
theorem d11_9 : decode jdk_44_method_1_code 9 = .ok (.putfield 13, 3) := by decide +kernel
theorem d11_12 : decode jdk_44_method_1_code 12 = .ok (.aload_n 0, 1) := by decide +kernel
theorem d11_13 : decode jdk_44_method_1_code 13 = .ok (.getstatic 19, 3) := by decide +kernel
theorem d11_16 : decode jdk_44_method_1_code 16 = .ok (.putfield 24, 3) := by decide +kernel
theorem d11_19 : decode jdk_44_method_1_code 19 = .ok (.return_, 1) := by decide +kernel
theorem pn_java_util_ImmutableCollections_List12 : plainName "java/util/ImmutableCollections$List12" = true := by first | (simp [plainName, overriddenIn]; done) | decide +kernel
set_option maxRecDepth 65536 in
set_option maxHeartbeats 40000000 in
theorem cL (l : Launch) (Z : State) (a0 : Array Value) (hw : ∀ d ∈ tables_1, d.before a0 Z = true) {V : oVw} (a : Addr) (b : Addr) (ee : Addr) {i : Nat} (hi : V[i]? = some (a, (.inl ("java/util/ImmutableCollections$List12", [("java/util/ImmutableCollections$List12", "e0", "Ljava/lang/Object;", .null), ("java/util/ImmutableCollections$List12", "e1", "Ljava/lang/Object;", .null)])))) (SE : Sta Z Z.heap "java/util/ImmutableCollections" "EMPTY" "Ljava/lang/Object;" (.ref ee)) :
    oCon false l Z (⟨"java/util/ImmutableCollections$List12", "<init>", "(Ljava/lang/Object;)V"⟩ : MethodName) jdk_44_method_1_code 2 none ({ frames := 4, cells := 0, slots := 0, locals := 48 } : Room) #[(.ref a), (.ref b)] V (fun v V' => v = none ∧ V' = V.set i (a, (.inl ("java/util/ImmutableCollections$List12", [("java/util/ImmutableCollections$List12", "e0", "Ljava/lang/Object;", (.ref b)), ("java/util/ImmutableCollections$List12", "e1", "Ljava/lang/Object;", (.ref ee))])))) := by
  refine oEnter (plainFor_of_name pn_java_util_ImmutableCollections_List12) (Ls := #[.val (.ref a), .val (.ref b)]) (fun m => by first | (simp [entryFrame, mkF, argsToLocals, Value.category]; done) | rfl) ?_
  intro p e s m below meth c T E X
  refine gAloadN E X d11_0 rfl rfl (q := 1) rfl ?_
  refine gCallI E X (W := 0) (c2 := 0) (s2 := 0) (a := a) [] [] d11_1 rfl (hw _ (List.mem_of_getElem? (i := 60) rfl)) (hw _ (List.mem_of_getElem? (i := 61) rfl)) (hw _ (List.mem_of_getElem? (i := 64) rfl)) (hw _ (List.mem_of_getElem? (i := 65) rfl)) (by decide) (cA2 l Z a0 hw a) pd_5 rfl rfl rfl (by decide) (Nat.le_of_eq rfl) (by decide) (by decide) (by decide) (by decide) (by decide) (by decide) (q := 4) rfl ?_
  intro T1 v1 V1 R1 X1
  obtain ⟨rfl, eQ1⟩ := R1
  rw [eQ1] at X1
  show oG false p e below s Z ({ frames := 4, cells := 0, slots := 0, locals := 48 } : Room) (fun v V' => v = none ∧ V' = V.set i (a, (.inl ("java/util/ImmutableCollections$List12", [("java/util/ImmutableCollections$List12", "e0", "Ljava/lang/Object;", (.ref b)), ("java/util/ImmutableCollections$List12", "e1", "Ljava/lang/Object;", (.ref ee))])))) T1 (mkF m 4 #[.val (.ref a), .val (.ref b)] [])
  refine gAloadN E X1 d11_4 rfl rfl (q := 5) rfl ?_
  refine gAloadN E X1 d11_5 rfl rfl (q := 6) rfl ?_
  refine gCallS E X1 (W := 1) (c2 := 0) (s2 := 0) [(.ref b)] [(.ref a)] d11_6 (hw _ (List.mem_of_getElem? (i := 79) rfl)) (hw _ (List.mem_of_getElem? (i := 80) rfl)) (hw _ (List.mem_of_getElem? (i := 81) rfl)) (hw _ (List.mem_of_getElem? (i := 82) rfl)) (by decide) (cQ l Z a0 hw b) pd_6 rfl rfl rfl (by decide) (Nat.le_of_eq rfl) (by decide) (by decide) (by decide) (by decide) (by decide) (by decide) (q := 9) rfl ?_
  intro T2 v2 V2 R2 X2
  obtain ⟨rfl, eQ2⟩ := R2
  rw [eQ2] at X2
  show oG false p e below s Z ({ frames := 4, cells := 0, slots := 0, locals := 48 } : Room) (fun v V' => v = none ∧ V' = V.set i (a, (.inl ("java/util/ImmutableCollections$List12", [("java/util/ImmutableCollections$List12", "e0", "Ljava/lang/Object;", (.ref b)), ("java/util/ImmutableCollections$List12", "e1", "Ljava/lang/Object;", (.ref ee))])))) T2 (mkF m 9 #[.val (.ref a), .val (.ref b)] [(.ref b), (.ref a)])
  refine gPutF E X2 d11_9 (hw _ (List.mem_of_getElem? (i := 83) rfl)) Via.refl (i := i) hi (j := 0) rfl (Or.inr ⟨(hw _ (List.mem_of_getElem? (i := 84) rfl)), rfl, rfl⟩) (hw _ (List.mem_of_getElem? (i := 54) rfl)) (ty := (.object "java/lang/Object")) (by decide) rfl rfl (V' := (V.set i (a, (.inl ("java/util/ImmutableCollections$List12", [("java/util/ImmutableCollections$List12", "e0", "Ljava/lang/Object;", (.ref b)), ("java/util/ImmutableCollections$List12", "e1", "Ljava/lang/Object;", .null)]))))) rfl (q := 12) rfl ?_
  intro T3 X3
  obtain ⟨V3, eV3⟩ : ∃ z, z = (V.set i (a, (.inl ("java/util/ImmutableCollections$List12", [("java/util/ImmutableCollections$List12", "e0", "Ljava/lang/Object;", (.ref b)), ("java/util/ImmutableCollections$List12", "e1", "Ljava/lang/Object;", .null)])))) := ⟨_, rfl⟩
  rw [← eV3] at X3
  have i3_0 := (eV3 ▸ oSetGet hi : V3[i]? = some (a, (.inl ("java/util/ImmutableCollections$List12", [("java/util/ImmutableCollections$List12", "e0", "Ljava/lang/Object;", (.ref b)), ("java/util/ImmutableCollections$List12", "e1", "Ljava/lang/Object;", .null)]))))
  refine gAloadN E X3 d11_12 rfl rfl (q := 13) rfl ?_
  refine gGetSN E X3 d11_13 (hw _ (List.mem_of_getElem? (i := 85) rfl)) Via.refl SE (q := 16) rfl ?_
  intro T4 X4
  refine gPutF E X4 d11_16 (hw _ (List.mem_of_getElem? (i := 86) rfl)) Via.refl (i := i) i3_0 (j := 1) rfl (Or.inr ⟨(hw _ (List.mem_of_getElem? (i := 87) rfl)), rfl, rfl⟩) (hw _ (List.mem_of_getElem? (i := 54) rfl)) (ty := (.object "java/lang/Object")) (by decide) rfl rfl (V' := (V3.set i (a, (.inl ("java/util/ImmutableCollections$List12", [("java/util/ImmutableCollections$List12", "e0", "Ljava/lang/Object;", (.ref b)), ("java/util/ImmutableCollections$List12", "e1", "Ljava/lang/Object;", (.ref ee))]))))) rfl (q := 19) rfl ?_
  intro T5 X5
  obtain ⟨V5, eV5⟩ : ∃ z, z = (V3.set i (a, (.inl ("java/util/ImmutableCollections$List12", [("java/util/ImmutableCollections$List12", "e0", "Ljava/lang/Object;", (.ref b)), ("java/util/ImmutableCollections$List12", "e1", "Ljava/lang/Object;", (.ref ee))])))) := ⟨_, rfl⟩
  rw [← eV5] at X5
  have i5_0 := (eV5 ▸ oSetGet i3_0 : V5[i]? = some (a, (.inl ("java/util/ImmutableCollections$List12", [("java/util/ImmutableCollections$List12", "e0", "Ljava/lang/Object;", (.ref b)), ("java/util/ImmutableCollections$List12", "e1", "Ljava/lang/Object;", (.ref ee))]))))
  exact gRetV E X5 d11_19 (by decide) (by decide) (by decide) (⟨rfl, by simp only [eV5, eV3, List.set_set]⟩)
theorem lay_ImmutableCollections_List12 (Z : State) (a0 : Array Value) (hw : ∀ d ∈ tables_1, d.before a0 Z = true) : oLay Z a0 "java/util/ImmutableCollections$List12" [("java/util/ImmutableCollections$List12", "e0", "Ljava/lang/Object;", .null), ("java/util/ImmutableCollections$List12", "e1", "Ljava/lang/Object;", .null)] := oLay.of (by decide) ⟨⟨Or.inr (hw _ (List.mem_of_getElem? (i := 84) rfl)), (.object "java/lang/Object"), by decide, rfl⟩, ⟨Or.inr (hw _ (List.mem_of_getElem? (i := 87) rfl)), (.object "java/lang/Object"), by decide, rfl⟩, trivial⟩
theorem pd_7 : parseMethodDescriptor "(Ljava/lang/Object;)V" = some ⟨[(.object "java/lang/Object")], none⟩ := by decide +kernel
theorem d10_0 : decode jdk_40_method_37_code 0 = .ok (.new 96, 3) := by decide +kernel
theorem d10_3 : decode jdk_40_method_37_code 3 = .ok (.dup, 1) := by decide +kernel
theorem d10_4 : decode jdk_40_method_37_code 4 = .ok (.aload_n 0, 1) := by decide +kernel
theorem d10_5 : decode jdk_40_method_37_code 5 = .ok (.invokespecial 98, 3) := by decide +kernel
theorem d10_8 : decode jdk_40_method_37_code 8 = .ok (.areturn, 1) := by decide +kernel
theorem pn_java_util_List : plainName "java/util/List" = true := by first | (simp [plainName, overriddenIn]; done) | decide +kernel
set_option maxRecDepth 65536 in
set_option maxHeartbeats 40000000 in
theorem cO (l : Launch) (Z : State) (a0 : Array Value) (hw : ∀ d ∈ tables_1, d.before a0 Z = true) {V : oVw} (b : Addr) (ee : Addr)  (SE : Sta Z Z.heap "java/util/ImmutableCollections" "EMPTY" "Ljava/lang/Object;" (.ref ee)) :
    oCon false l Z (⟨"java/util/List", "of", "(Ljava/lang/Object;)Ljava/util/List;"⟩ : MethodName) jdk_40_method_37_code 1 (some (.object "java/util/List")) ({ frames := 5, cells := 1, slots := 2, locals := 62 } : Room) #[(.ref b)] V (fun v V' => ∃ q, v = some (.ref q) ∧ V' = V ++ [(q, (.inl ("java/util/ImmutableCollections$List12", [("java/util/ImmutableCollections$List12", "e0", "Ljava/lang/Object;", (.ref b)), ("java/util/ImmutableCollections$List12", "e1", "Ljava/lang/Object;", (.ref ee))])))]) := by
  refine oEnter (plainFor_of_name pn_java_util_List) (Ls := #[.val (.ref b)]) (fun m => by first | (simp [entryFrame, mkF, argsToLocals, Value.category]; done) | rfl) ?_
  intro p e s m below meth c T E X
  refine gNew E X (c2 := 1) (s2 := 2) d10_0 (hw _ (List.mem_of_getElem? (i := 53) rfl)) (hw _ (List.mem_of_getElem? (i := 54) rfl)) (hw _ (List.mem_of_getElem? (i := 55) rfl)) (lay_ImmutableCollections_List12 Z a0 hw) (by decide) (by decide) (by decide) (by decide) (q := 3) rfl ?_
  intro T1 a1 X1
  obtain ⟨V1, eV1⟩ : ∃ z, z = V ++ [(a1, (.inl ("java/util/ImmutableCollections$List12", [("java/util/ImmutableCollections$List12", "e0", "Ljava/lang/Object;", .null), ("java/util/ImmutableCollections$List12", "e1", "Ljava/lang/Object;", .null)])))] := ⟨_, rfl⟩
  rw [← eV1] at X1
  have i1_0 := (eV1 ▸ oAppLast : V1[V.length]? = some (a1, (.inl ("java/util/ImmutableCollections$List12", [("java/util/ImmutableCollections$List12", "e0", "Ljava/lang/Object;", .null), ("java/util/ImmutableCollections$List12", "e1", "Ljava/lang/Object;", .null)]))))
  refine gDup E X1 d10_3 rfl (q := 4) rfl ?_
  refine gAloadN E X1 d10_4 rfl rfl (q := 5) rfl ?_
  refine gCallI E X1 (W := 1) (c2 := 1) (s2 := 2) (a := a1) [(.ref b)] [(.ref a1)] d10_5 rfl (hw _ (List.mem_of_getElem? (i := 56) rfl)) (hw _ (List.mem_of_getElem? (i := 57) rfl)) (hw _ (List.mem_of_getElem? (i := 55) rfl)) (hw _ (List.mem_of_getElem? (i := 59) rfl)) (by decide) (cL l Z a0 hw a1 b ee (i := V.length) i1_0 SE) pd_7 rfl rfl rfl (by decide) (Nat.le_of_eq rfl) (by decide) (by decide) (by decide) (by decide) (by decide) (by decide) (q := 8) rfl ?_
  intro T2 v2 V2 R2 X2
  obtain ⟨rfl, eV2⟩ := R2
  have i2_0 := (eV2 ▸ oSetGet i1_0 : V2[V.length]? = some (a1, (.inl ("java/util/ImmutableCollections$List12", [("java/util/ImmutableCollections$List12", "e0", "Ljava/lang/Object;", (.ref b)), ("java/util/ImmutableCollections$List12", "e1", "Ljava/lang/Object;", (.ref ee))]))))
  show oG false p e below s Z ({ frames := 5, cells := 1, slots := 2, locals := 62 } : Room) (fun v V' => ∃ q, v = some (.ref q) ∧ V' = V ++ [(q, (.inl ("java/util/ImmutableCollections$List12", [("java/util/ImmutableCollections$List12", "e0", "Ljava/lang/Object;", (.ref b)), ("java/util/ImmutableCollections$List12", "e1", "Ljava/lang/Object;", (.ref ee))])))]) T2 (mkF m 8 #[.val (.ref b)] [(.ref a1)])
  exact gRetA E X2 rfl d10_8 (by decide) (by decide) (by decide) rfl rfl (⟨a1, rfl, by rw [eV2, eV1, oAppSetLast]⟩)
theorem d16_0 : decode prog_34_method_1_code 0 = .ok (.aload_n 0, 1) := by decide +kernel
theorem d16_1 : decode prog_34_method_1_code 1 = .ok (.invokespecial 1, 3) := by decide +kernel
theorem d16_4 : decode prog_34_method_1_code 4 = .ok (.aload_n 0, 1) := by decide +kernel
theorem d16_5 : decode prog_34_method_1_code 5 = .ok (.aload_n 1, 1) := by decide +kernel
theorem d16_6 : decode prog_34_method_1_code 6 = .ok (.putfield 7, 3) := by decide +kernel
theorem d16_9 : decode prog_34_method_1_code 9 = .ok (.aload_n 0, 1) := by decide +kernel
theorem d16_10 : decode prog_34_method_1_code 10 = .ok (.aload_n 2, 1) := by decide +kernel
theorem d16_11 : decode prog_34_method_1_code 11 = .ok (.putfield 13, 3) := by decide +kernel
theorem d16_14 : decode prog_34_method_1_code 14 = .ok (.aload_n 0, 1) := by decide +kernel
theorem d16_15 : decode prog_34_method_1_code 15 = .ok (.aload_n 3, 1) := by decide +kernel
theorem d16_16 : decode prog_34_method_1_code 16 = .ok (.putfield 17, 3) := by decide +kernel
theorem d16_19 : decode prog_34_method_1_code 19 = .ok (.aload_n 0, 1) := by decide +kernel
theorem d16_20 : decode prog_34_method_1_code 20 = .ok (.aload 4, 2) := by decide +kernel
theorem d16_22 : decode prog_34_method_1_code 22 = .ok (.putfield 21, 3) := by decide +kernel
theorem d16_25 : decode prog_34_method_1_code 25 = .ok (.return_, 1) := by decide +kernel
theorem pn_com_example_bunsan_bunsan_Partition : plainName "com/example/bunsan/bunsan/Partition" = true := by first | (simp [plainName, overriddenIn]; done) | decide +kernel
set_option maxRecDepth 65536 in
set_option maxHeartbeats 40000000 in
theorem cI (l : Launch) (Z : State) (a0 : Array Value) (hw : ∀ d ∈ tables_1, d.before a0 Z = true) {V : oVw} (a : Addr) (f0 : Addr) (f1 : Addr) (f2 : Addr) (f3 : Addr) {i : Nat} (hi : V[i]? = some (a, (.inl ("com/example/bunsan/bunsan/Partition", [("com/example/bunsan/bunsan/Partition", "collectionOfDocno", "Ljava/util/Map;", .null), ("com/example/bunsan/bunsan/Partition", "onlyCollection", "Ljava/lang/String;", .null), ("com/example/bunsan/bunsan/Partition", "collections", "Ljava/util/List;", .null), ("com/example/bunsan/bunsan/Partition", "documentsOfCollection", "Ljava/util/Map;", .null)]))))  :
    oCon false l Z (⟨"com/example/bunsan/bunsan/Partition", "<init>", "(Ljava/util/Map;Ljava/lang/String;Ljava/util/List;Ljava/util/Map;)V"⟩ : MethodName) prog_34_method_1_code 5 none ({ frames := 1, cells := 0, slots := 0, locals := 12 } : Room) #[(.ref a), (.ref f0), (.ref f1), (.ref f2), (.ref f3)] V (fun v V' => v = none ∧ V' = V.set i (a, (.inl ("com/example/bunsan/bunsan/Partition", [("com/example/bunsan/bunsan/Partition", "collectionOfDocno", "Ljava/util/Map;", (.ref f0)), ("com/example/bunsan/bunsan/Partition", "onlyCollection", "Ljava/lang/String;", (.ref f1)), ("com/example/bunsan/bunsan/Partition", "collections", "Ljava/util/List;", (.ref f2)), ("com/example/bunsan/bunsan/Partition", "documentsOfCollection", "Ljava/util/Map;", (.ref f3))])))) := by
  refine oEnter (plainFor_of_name pn_com_example_bunsan_bunsan_Partition) (Ls := #[.val (.ref a), .val (.ref f0), .val (.ref f1), .val (.ref f2), .val (.ref f3)]) (fun m => by first | (simp [entryFrame, mkF, argsToLocals, Value.category]; done) | rfl) ?_
  intro p e s m below meth c T E X
  refine gAloadN E X d16_0 rfl rfl (q := 1) rfl ?_
  refine gInitO E X (W := 0) d16_1 (hw _ (List.mem_of_getElem? (i := 91) rfl)) (hw _ (List.mem_of_getElem? (i := 16) rfl)) (hw _ (List.mem_of_getElem? (i := 17) rfl)) rfl (by decide) (Nat.le_of_eq rfl) (by decide) (q := 4) rfl ?_
  intro T1 X1
  refine gAloadN E X1 d16_4 rfl rfl (q := 5) rfl ?_
  refine gAloadN E X1 d16_5 rfl rfl (q := 6) rfl ?_
  refine gPutF E X1 d16_6 (hw _ (List.mem_of_getElem? (i := 92) rfl)) Via.refl (i := i) hi (j := 0) rfl (Or.inr ⟨(hw _ (List.mem_of_getElem? (i := 93) rfl)), rfl, rfl⟩) (hw _ (List.mem_of_getElem? (i := 42) rfl)) (ty := (.object "java/util/Map")) (by decide) rfl rfl (V' := (V.set i (a, (.inl ("com/example/bunsan/bunsan/Partition", [("com/example/bunsan/bunsan/Partition", "collectionOfDocno", "Ljava/util/Map;", (.ref f0)), ("com/example/bunsan/bunsan/Partition", "onlyCollection", "Ljava/lang/String;", .null), ("com/example/bunsan/bunsan/Partition", "collections", "Ljava/util/List;", .null), ("com/example/bunsan/bunsan/Partition", "documentsOfCollection", "Ljava/util/Map;", .null)]))))) rfl (q := 9) rfl ?_
  intro T2 X2
  obtain ⟨V2, eV2⟩ : ∃ z, z = (V.set i (a, (.inl ("com/example/bunsan/bunsan/Partition", [("com/example/bunsan/bunsan/Partition", "collectionOfDocno", "Ljava/util/Map;", (.ref f0)), ("com/example/bunsan/bunsan/Partition", "onlyCollection", "Ljava/lang/String;", .null), ("com/example/bunsan/bunsan/Partition", "collections", "Ljava/util/List;", .null), ("com/example/bunsan/bunsan/Partition", "documentsOfCollection", "Ljava/util/Map;", .null)])))) := ⟨_, rfl⟩
  rw [← eV2] at X2
  have i2_0 := (eV2 ▸ oSetGet hi : V2[i]? = some (a, (.inl ("com/example/bunsan/bunsan/Partition", [("com/example/bunsan/bunsan/Partition", "collectionOfDocno", "Ljava/util/Map;", (.ref f0)), ("com/example/bunsan/bunsan/Partition", "onlyCollection", "Ljava/lang/String;", .null), ("com/example/bunsan/bunsan/Partition", "collections", "Ljava/util/List;", .null), ("com/example/bunsan/bunsan/Partition", "documentsOfCollection", "Ljava/util/Map;", .null)]))))
  refine gAloadN E X2 d16_9 rfl rfl (q := 10) rfl ?_
  refine gAloadN E X2 d16_10 rfl rfl (q := 11) rfl ?_
  refine gPutF E X2 d16_11 (hw _ (List.mem_of_getElem? (i := 94) rfl)) Via.refl (i := i) i2_0 (j := 1) rfl (Or.inr ⟨(hw _ (List.mem_of_getElem? (i := 95) rfl)), rfl, rfl⟩) (hw _ (List.mem_of_getElem? (i := 42) rfl)) (ty := (.object "java/lang/String")) (by decide) rfl rfl (V' := (V2.set i (a, (.inl ("com/example/bunsan/bunsan/Partition", [("com/example/bunsan/bunsan/Partition", "collectionOfDocno", "Ljava/util/Map;", (.ref f0)), ("com/example/bunsan/bunsan/Partition", "onlyCollection", "Ljava/lang/String;", (.ref f1)), ("com/example/bunsan/bunsan/Partition", "collections", "Ljava/util/List;", .null), ("com/example/bunsan/bunsan/Partition", "documentsOfCollection", "Ljava/util/Map;", .null)]))))) rfl (q := 14) rfl ?_
  intro T3 X3
  obtain ⟨V3, eV3⟩ : ∃ z, z = (V2.set i (a, (.inl ("com/example/bunsan/bunsan/Partition", [("com/example/bunsan/bunsan/Partition", "collectionOfDocno", "Ljava/util/Map;", (.ref f0)), ("com/example/bunsan/bunsan/Partition", "onlyCollection", "Ljava/lang/String;", (.ref f1)), ("com/example/bunsan/bunsan/Partition", "collections", "Ljava/util/List;", .null), ("com/example/bunsan/bunsan/Partition", "documentsOfCollection", "Ljava/util/Map;", .null)])))) := ⟨_, rfl⟩
  rw [← eV3] at X3
  have i3_0 := (eV3 ▸ oSetGet i2_0 : V3[i]? = some (a, (.inl ("com/example/bunsan/bunsan/Partition", [("com/example/bunsan/bunsan/Partition", "collectionOfDocno", "Ljava/util/Map;", (.ref f0)), ("com/example/bunsan/bunsan/Partition", "onlyCollection", "Ljava/lang/String;", (.ref f1)), ("com/example/bunsan/bunsan/Partition", "collections", "Ljava/util/List;", .null), ("com/example/bunsan/bunsan/Partition", "documentsOfCollection", "Ljava/util/Map;", .null)]))))
  refine gAloadN E X3 d16_14 rfl rfl (q := 15) rfl ?_
  refine gAloadN E X3 d16_15 rfl rfl (q := 16) rfl ?_
  refine gPutF E X3 d16_16 (hw _ (List.mem_of_getElem? (i := 96) rfl)) Via.refl (i := i) i3_0 (j := 2) rfl (Or.inr ⟨(hw _ (List.mem_of_getElem? (i := 97) rfl)), rfl, rfl⟩) (hw _ (List.mem_of_getElem? (i := 42) rfl)) (ty := (.object "java/util/List")) (by decide) rfl rfl (V' := (V3.set i (a, (.inl ("com/example/bunsan/bunsan/Partition", [("com/example/bunsan/bunsan/Partition", "collectionOfDocno", "Ljava/util/Map;", (.ref f0)), ("com/example/bunsan/bunsan/Partition", "onlyCollection", "Ljava/lang/String;", (.ref f1)), ("com/example/bunsan/bunsan/Partition", "collections", "Ljava/util/List;", (.ref f2)), ("com/example/bunsan/bunsan/Partition", "documentsOfCollection", "Ljava/util/Map;", .null)]))))) rfl (q := 19) rfl ?_
  intro T4 X4
  obtain ⟨V4, eV4⟩ : ∃ z, z = (V3.set i (a, (.inl ("com/example/bunsan/bunsan/Partition", [("com/example/bunsan/bunsan/Partition", "collectionOfDocno", "Ljava/util/Map;", (.ref f0)), ("com/example/bunsan/bunsan/Partition", "onlyCollection", "Ljava/lang/String;", (.ref f1)), ("com/example/bunsan/bunsan/Partition", "collections", "Ljava/util/List;", (.ref f2)), ("com/example/bunsan/bunsan/Partition", "documentsOfCollection", "Ljava/util/Map;", .null)])))) := ⟨_, rfl⟩
  rw [← eV4] at X4
  have i4_0 := (eV4 ▸ oSetGet i3_0 : V4[i]? = some (a, (.inl ("com/example/bunsan/bunsan/Partition", [("com/example/bunsan/bunsan/Partition", "collectionOfDocno", "Ljava/util/Map;", (.ref f0)), ("com/example/bunsan/bunsan/Partition", "onlyCollection", "Ljava/lang/String;", (.ref f1)), ("com/example/bunsan/bunsan/Partition", "collections", "Ljava/util/List;", (.ref f2)), ("com/example/bunsan/bunsan/Partition", "documentsOfCollection", "Ljava/util/Map;", .null)]))))
  refine gAloadN E X4 d16_19 rfl rfl (q := 20) rfl ?_
  refine gAload E X4 d16_20 rfl rfl (q := 22) rfl ?_
  refine gPutF E X4 d16_22 (hw _ (List.mem_of_getElem? (i := 98) rfl)) Via.refl (i := i) i4_0 (j := 3) rfl (Or.inr ⟨(hw _ (List.mem_of_getElem? (i := 99) rfl)), rfl, rfl⟩) (hw _ (List.mem_of_getElem? (i := 42) rfl)) (ty := (.object "java/util/Map")) (by decide) rfl rfl (V' := (V4.set i (a, (.inl ("com/example/bunsan/bunsan/Partition", [("com/example/bunsan/bunsan/Partition", "collectionOfDocno", "Ljava/util/Map;", (.ref f0)), ("com/example/bunsan/bunsan/Partition", "onlyCollection", "Ljava/lang/String;", (.ref f1)), ("com/example/bunsan/bunsan/Partition", "collections", "Ljava/util/List;", (.ref f2)), ("com/example/bunsan/bunsan/Partition", "documentsOfCollection", "Ljava/util/Map;", (.ref f3))]))))) rfl (q := 25) rfl ?_
  intro T5 X5
  obtain ⟨V5, eV5⟩ : ∃ z, z = (V4.set i (a, (.inl ("com/example/bunsan/bunsan/Partition", [("com/example/bunsan/bunsan/Partition", "collectionOfDocno", "Ljava/util/Map;", (.ref f0)), ("com/example/bunsan/bunsan/Partition", "onlyCollection", "Ljava/lang/String;", (.ref f1)), ("com/example/bunsan/bunsan/Partition", "collections", "Ljava/util/List;", (.ref f2)), ("com/example/bunsan/bunsan/Partition", "documentsOfCollection", "Ljava/util/Map;", (.ref f3))])))) := ⟨_, rfl⟩
  rw [← eV5] at X5
  have i5_0 := (eV5 ▸ oSetGet i4_0 : V5[i]? = some (a, (.inl ("com/example/bunsan/bunsan/Partition", [("com/example/bunsan/bunsan/Partition", "collectionOfDocno", "Ljava/util/Map;", (.ref f0)), ("com/example/bunsan/bunsan/Partition", "onlyCollection", "Ljava/lang/String;", (.ref f1)), ("com/example/bunsan/bunsan/Partition", "collections", "Ljava/util/List;", (.ref f2)), ("com/example/bunsan/bunsan/Partition", "documentsOfCollection", "Ljava/util/Map;", (.ref f3))]))))
  exact gRetV E X5 d16_25 (by decide) (by decide) (by decide) (⟨rfl, by simp only [eV5, eV4, eV3, eV2, List.set_set]⟩)
theorem lay_Partition (Z : State) (a0 : Array Value) (hw : ∀ d ∈ tables_1, d.before a0 Z = true) : oLay Z a0 "com/example/bunsan/bunsan/Partition" [("com/example/bunsan/bunsan/Partition", "collectionOfDocno", "Ljava/util/Map;", .null), ("com/example/bunsan/bunsan/Partition", "onlyCollection", "Ljava/lang/String;", .null), ("com/example/bunsan/bunsan/Partition", "collections", "Ljava/util/List;", .null), ("com/example/bunsan/bunsan/Partition", "documentsOfCollection", "Ljava/util/Map;", .null)] := oLay.of (by decide) ⟨⟨Or.inr (hw _ (List.mem_of_getElem? (i := 93) rfl)), (.object "java/util/Map"), by decide, rfl⟩, ⟨Or.inr (hw _ (List.mem_of_getElem? (i := 95) rfl)), (.object "java/lang/String"), by decide, rfl⟩, ⟨Or.inr (hw _ (List.mem_of_getElem? (i := 97) rfl)), (.object "java/util/List"), by decide, rfl⟩, ⟨Or.inr (hw _ (List.mem_of_getElem? (i := 99) rfl)), (.object "java/util/Map"), by decide, rfl⟩, trivial⟩
theorem pd_8 : parseMethodDescriptor "()Ljava/util/Map;" = some ⟨[], some (.object "java/util/Map")⟩ := by decide +kernel
theorem pd_9 : parseMethodDescriptor "(Ljava/lang/Object;)Ljava/util/List;" = some ⟨[(.object "java/lang/Object")], some (.object "java/util/List")⟩ := by decide +kernel
theorem pd_10 : parseMethodDescriptor "(Ljava/util/Map;Ljava/lang/String;Ljava/util/List;Ljava/util/Map;)V" = some ⟨[(.object "java/util/Map"), (.object "java/lang/String"), (.object "java/util/List"), (.object "java/util/Map")], none⟩ := by decide +kernel
theorem d8_0 : decode prog_34_method_3_code 0 = .ok (.new 8, 3) := by decide +kernel
theorem d8_3 : decode prog_34_method_3_code 3 = .ok (.dup, 1) := by decide +kernel
theorem d8_4 : decode prog_34_method_3_code 4 = .ok (.invokestatic 99, 3) := by decide +kernel
theorem d8_7 : decode prog_34_method_3_code 7 = .ok (.aload_n 0, 1) := by decide +kernel
theorem d8_8 : decode prog_34_method_3_code 8 = .ok (.aload_n 0, 1) := by decide +kernel
theorem d8_9 : decode prog_34_method_3_code 9 = .ok (.invokestatic 103, 3) := by decide +kernel
theorem d8_12 : decode prog_34_method_3_code 12 = .ok (.invokestatic 99, 3) := by decide +kernel
theorem d8_15 : decode prog_34_method_3_code 15 = .ok (.invokespecial 96, 3) := by decide +kernel
theorem d8_18 : decode prog_34_method_3_code 18 = .ok (.areturn, 1) := by decide +kernel
set_option maxRecDepth 65536 in
set_option maxHeartbeats 40000000 in
theorem cW (l : Launch) (Z : State) (a0 : Array Value) (hw : ∀ d ∈ tables_1, d.before a0 Z = true) {V : oVw} (b : Addr) (em : Addr) (ee : Addr)  (SM : Sta Z Z.heap "java/util/ImmutableCollections" "EMPTY_MAP" "Ljava/util/ImmutableCollections$MapN;" (.ref em)) (SE : Sta Z Z.heap "java/util/ImmutableCollections" "EMPTY" "Ljava/lang/Object;" (.ref ee)) :
    oCon false l Z (⟨"com/example/bunsan/bunsan/Partition", "whole", "(Ljava/lang/String;)Lcom/example/bunsan/bunsan/Partition;"⟩ : MethodName) prog_34_method_3_code 1 (some (.object "com/example/bunsan/bunsan/Partition")) ({ frames := 6, cells := 2, slots := 6, locals := 78 } : Room) #[(.ref b)] V (fun v V' => ∃ (p' q' : Addr) (n1 n2 : Nat), v = some (.ref p') ∧ V'[n1]? = some ((p', (.inl ("com/example/bunsan/bunsan/Partition", [("com/example/bunsan/bunsan/Partition", "collectionOfDocno", "Ljava/util/Map;", (.ref em)), ("com/example/bunsan/bunsan/Partition", "onlyCollection", "Ljava/lang/String;", (.ref b)), ("com/example/bunsan/bunsan/Partition", "collections", "Ljava/util/List;", (.ref q')), ("com/example/bunsan/bunsan/Partition", "documentsOfCollection", "Ljava/util/Map;", (.ref em))]))) : Addr × oOb) ∧ V'[n2]? = some ((q', (.inl ("java/util/ImmutableCollections$List12", [("java/util/ImmutableCollections$List12", "e0", "Ljava/lang/Object;", (.ref b)), ("java/util/ImmutableCollections$List12", "e1", "Ljava/lang/Object;", (.ref ee))]))) : Addr × oOb) ∧ oPre V V') := by
  refine oEnter (plainFor_of_name pn_com_example_bunsan_bunsan_Partition) (Ls := #[.val (.ref b)]) (fun m => by first | (simp [entryFrame, mkF, argsToLocals, Value.category]; done) | rfl) ?_
  intro p e s m below meth c T E X
  refine gNew E X (c2 := 1) (s2 := 4) d8_0 (hw _ (List.mem_of_getElem? (i := 41) rfl)) (hw _ (List.mem_of_getElem? (i := 42) rfl)) (hw _ (List.mem_of_getElem? (i := 39) rfl)) (lay_Partition Z a0 hw) (by decide) (by decide) (by decide) (by decide) (q := 3) rfl ?_
  intro T1 a1 X1
  obtain ⟨V1, eV1⟩ : ∃ z, z = V ++ [(a1, (.inl ("com/example/bunsan/bunsan/Partition", [("com/example/bunsan/bunsan/Partition", "collectionOfDocno", "Ljava/util/Map;", .null), ("com/example/bunsan/bunsan/Partition", "onlyCollection", "Ljava/lang/String;", .null), ("com/example/bunsan/bunsan/Partition", "collections", "Ljava/util/List;", .null), ("com/example/bunsan/bunsan/Partition", "documentsOfCollection", "Ljava/util/Map;", .null)])))] := ⟨_, rfl⟩
  rw [← eV1] at X1
  have i1_0 := (eV1 ▸ oAppLast : V1[V.length]? = some (a1, (.inl ("com/example/bunsan/bunsan/Partition", [("com/example/bunsan/bunsan/Partition", "collectionOfDocno", "Ljava/util/Map;", .null), ("com/example/bunsan/bunsan/Partition", "onlyCollection", "Ljava/lang/String;", .null), ("com/example/bunsan/bunsan/Partition", "collections", "Ljava/util/List;", .null), ("com/example/bunsan/bunsan/Partition", "documentsOfCollection", "Ljava/util/Map;", .null)]))))
  refine gDup E X1 d8_3 rfl (q := 4) rfl ?_
  refine gCallS E X1 (W := 2) (c2 := 1) (s2 := 4) [] [(.ref a1), (.ref a1)] d8_4 (hw _ (List.mem_of_getElem? (i := 43) rfl)) (hw _ (List.mem_of_getElem? (i := 44) rfl)) (hw _ (List.mem_of_getElem? (i := 45) rfl)) (hw _ (List.mem_of_getElem? (i := 46) rfl)) (by decide) (cM l Z a0 hw em SM) pd_8 rfl rfl rfl (by decide) (Nat.le_of_eq rfl) (by decide) (by decide) (by decide) (by decide) (by decide) (by decide) (q := 7) rfl ?_
  intro T2 v2 V2 R2 X2
  obtain ⟨rfl, eQ2⟩ := R2
  rw [eQ2] at X2
  show oG false p e below s Z ({ frames := 6, cells := 2, slots := 6, locals := 78 } : Room) (fun v V' => ∃ (p' q' : Addr) (n1 n2 : Nat), v = some (.ref p') ∧ V'[n1]? = some ((p', (.inl ("com/example/bunsan/bunsan/Partition", [("com/example/bunsan/bunsan/Partition", "collectionOfDocno", "Ljava/util/Map;", (.ref em)), ("com/example/bunsan/bunsan/Partition", "onlyCollection", "Ljava/lang/String;", (.ref b)), ("com/example/bunsan/bunsan/Partition", "collections", "Ljava/util/List;", (.ref q')), ("com/example/bunsan/bunsan/Partition", "documentsOfCollection", "Ljava/util/Map;", (.ref em))]))) : Addr × oOb) ∧ V'[n2]? = some ((q', (.inl ("java/util/ImmutableCollections$List12", [("java/util/ImmutableCollections$List12", "e0", "Ljava/lang/Object;", (.ref b)), ("java/util/ImmutableCollections$List12", "e1", "Ljava/lang/Object;", (.ref ee))]))) : Addr × oOb) ∧ oPre V V') T2 (mkF m 7 #[.val (.ref b)] [(.ref em), (.ref a1), (.ref a1)])
  refine gAloadN E X2 d8_7 rfl rfl (q := 8) rfl ?_
  refine gAloadN E X2 d8_8 rfl rfl (q := 9) rfl ?_
  refine gCallS E X2 (W := 4) (c2 := 2) (s2 := 6) [(.ref b)] [(.ref b), (.ref em), (.ref a1), (.ref a1)] d8_9 (hw _ (List.mem_of_getElem? (i := 49) rfl)) (hw _ (List.mem_of_getElem? (i := 50) rfl)) (hw _ (List.mem_of_getElem? (i := 51) rfl)) (hw _ (List.mem_of_getElem? (i := 52) rfl)) (by decide) (cO l Z a0 hw b ee SE) pd_9 rfl rfl rfl (by decide) (Nat.le_of_eq rfl) (by decide) (by decide) (by decide) (by decide) (by decide) (by decide) (q := 12) rfl ?_
  intro T3 v3 V3 R3 X3
  obtain ⟨q3, rfl, eV3⟩ := R3
  have i3_0 := (eV3 ▸ oAppGet i1_0 : V3[V.length]? = some (a1, (.inl ("com/example/bunsan/bunsan/Partition", [("com/example/bunsan/bunsan/Partition", "collectionOfDocno", "Ljava/util/Map;", .null), ("com/example/bunsan/bunsan/Partition", "onlyCollection", "Ljava/lang/String;", .null), ("com/example/bunsan/bunsan/Partition", "collections", "Ljava/util/List;", .null), ("com/example/bunsan/bunsan/Partition", "documentsOfCollection", "Ljava/util/Map;", .null)]))))
  have i3_1 := (eV3 ▸ oAppLast : V3[V1.length]? = some (q3, (.inl ("java/util/ImmutableCollections$List12", [("java/util/ImmutableCollections$List12", "e0", "Ljava/lang/Object;", (.ref b)), ("java/util/ImmutableCollections$List12", "e1", "Ljava/lang/Object;", (.ref ee))]))))
  show oG false p e below s Z ({ frames := 6, cells := 2, slots := 6, locals := 78 } : Room) (fun v V' => ∃ (p' q' : Addr) (n1 n2 : Nat), v = some (.ref p') ∧ V'[n1]? = some ((p', (.inl ("com/example/bunsan/bunsan/Partition", [("com/example/bunsan/bunsan/Partition", "collectionOfDocno", "Ljava/util/Map;", (.ref em)), ("com/example/bunsan/bunsan/Partition", "onlyCollection", "Ljava/lang/String;", (.ref b)), ("com/example/bunsan/bunsan/Partition", "collections", "Ljava/util/List;", (.ref q')), ("com/example/bunsan/bunsan/Partition", "documentsOfCollection", "Ljava/util/Map;", (.ref em))]))) : Addr × oOb) ∧ V'[n2]? = some ((q', (.inl ("java/util/ImmutableCollections$List12", [("java/util/ImmutableCollections$List12", "e0", "Ljava/lang/Object;", (.ref b)), ("java/util/ImmutableCollections$List12", "e1", "Ljava/lang/Object;", (.ref ee))]))) : Addr × oOb) ∧ oPre V V') T3 (mkF m 12 #[.val (.ref b)] [(.ref q3), (.ref b), (.ref em), (.ref a1), (.ref a1)])
  refine gCallS E X3 (W := 5) (c2 := 2) (s2 := 6) [] [(.ref q3), (.ref b), (.ref em), (.ref a1), (.ref a1)] d8_12 (hw _ (List.mem_of_getElem? (i := 43) rfl)) (hw _ (List.mem_of_getElem? (i := 44) rfl)) (hw _ (List.mem_of_getElem? (i := 45) rfl)) (hw _ (List.mem_of_getElem? (i := 46) rfl)) (by decide) (cM l Z a0 hw em SM) pd_8 rfl rfl rfl (by decide) (Nat.le_of_eq rfl) (by decide) (by decide) (by decide) (by decide) (by decide) (by decide) (q := 15) rfl ?_
  intro T4 v4 V4 R4 X4
  obtain ⟨rfl, eQ4⟩ := R4
  rw [eQ4] at X4
  show oG false p e below s Z ({ frames := 6, cells := 2, slots := 6, locals := 78 } : Room) (fun v V' => ∃ (p' q' : Addr) (n1 n2 : Nat), v = some (.ref p') ∧ V'[n1]? = some ((p', (.inl ("com/example/bunsan/bunsan/Partition", [("com/example/bunsan/bunsan/Partition", "collectionOfDocno", "Ljava/util/Map;", (.ref em)), ("com/example/bunsan/bunsan/Partition", "onlyCollection", "Ljava/lang/String;", (.ref b)), ("com/example/bunsan/bunsan/Partition", "collections", "Ljava/util/List;", (.ref q')), ("com/example/bunsan/bunsan/Partition", "documentsOfCollection", "Ljava/util/Map;", (.ref em))]))) : Addr × oOb) ∧ V'[n2]? = some ((q', (.inl ("java/util/ImmutableCollections$List12", [("java/util/ImmutableCollections$List12", "e0", "Ljava/lang/Object;", (.ref b)), ("java/util/ImmutableCollections$List12", "e1", "Ljava/lang/Object;", (.ref ee))]))) : Addr × oOb) ∧ oPre V V') T4 (mkF m 15 #[.val (.ref b)] [(.ref em), (.ref q3), (.ref b), (.ref em), (.ref a1), (.ref a1)])
  refine gCallI E X4 (W := 1) (c2 := 2) (s2 := 6) (a := a1) [(.ref em), (.ref b), (.ref q3), (.ref em)] [(.ref a1)] d8_15 rfl (hw _ (List.mem_of_getElem? (i := 88) rfl)) (hw _ (List.mem_of_getElem? (i := 89) rfl)) (hw _ (List.mem_of_getElem? (i := 39) rfl)) (hw _ (List.mem_of_getElem? (i := 90) rfl)) (by decide) (cI l Z a0 hw a1 em b q3 em (i := V.length) i3_0) pd_10 rfl rfl rfl (by decide) (Nat.le_of_eq rfl) (by decide) (by decide) (by decide) (by decide) (by decide) (by decide) (q := 18) rfl ?_
  intro T5 v5 V5 R5 X5
  obtain ⟨rfl, eV5⟩ := R5
  have i5_0 := (eV5 ▸ oSetGet i3_0 : V5[V.length]? = some (a1, (.inl ("com/example/bunsan/bunsan/Partition", [("com/example/bunsan/bunsan/Partition", "collectionOfDocno", "Ljava/util/Map;", (.ref em)), ("com/example/bunsan/bunsan/Partition", "onlyCollection", "Ljava/lang/String;", (.ref b)), ("com/example/bunsan/bunsan/Partition", "collections", "Ljava/util/List;", (.ref q3)), ("com/example/bunsan/bunsan/Partition", "documentsOfCollection", "Ljava/util/Map;", (.ref em))]))))
  have i5_1 := (eV5 ▸ oSetNe (Nat.ne_of_lt (oLt i1_0)) i3_1 : V5[V1.length]? = some (q3, (.inl ("java/util/ImmutableCollections$List12", [("java/util/ImmutableCollections$List12", "e0", "Ljava/lang/Object;", (.ref b)), ("java/util/ImmutableCollections$List12", "e1", "Ljava/lang/Object;", (.ref ee))]))))
  show oG false p e below s Z ({ frames := 6, cells := 2, slots := 6, locals := 78 } : Room) (fun v V' => ∃ (p' q' : Addr) (n1 n2 : Nat), v = some (.ref p') ∧ V'[n1]? = some ((p', (.inl ("com/example/bunsan/bunsan/Partition", [("com/example/bunsan/bunsan/Partition", "collectionOfDocno", "Ljava/util/Map;", (.ref em)), ("com/example/bunsan/bunsan/Partition", "onlyCollection", "Ljava/lang/String;", (.ref b)), ("com/example/bunsan/bunsan/Partition", "collections", "Ljava/util/List;", (.ref q')), ("com/example/bunsan/bunsan/Partition", "documentsOfCollection", "Ljava/util/Map;", (.ref em))]))) : Addr × oOb) ∧ V'[n2]? = some ((q', (.inl ("java/util/ImmutableCollections$List12", [("java/util/ImmutableCollections$List12", "e0", "Ljava/lang/Object;", (.ref b)), ("java/util/ImmutableCollections$List12", "e1", "Ljava/lang/Object;", (.ref ee))]))) : Addr × oOb) ∧ oPre V V') T5 (mkF m 18 #[.val (.ref b)] [(.ref a1)])
  exact gRetA E X5 rfl d8_18 (by decide) (by decide) (by decide) rfl rfl (⟨a1, q3, _, _, rfl, i5_0, i5_1, (by simp only [eV5, eV3, eV1]; repeat (first | exact oPre.rfl | refine oPre.app ?_ | refine oPre.set ?_ (by simp)))⟩)
theorem d17_0 : decode prog_34_method_4_code 0 = .ok (.aload_n 0, 1) := by decide +kernel
theorem d17_1 : decode prog_34_method_4_code 1 = .ok (.getfield 13, 3) := by decide +kernel
theorem d17_4 : decode prog_34_method_4_code 4 = .ok (.ifnull 10, 3) := by decide +kernel
theorem d17_7 : decode prog_34_method_4_code 7 = .ok (.aload_n 0, 1) := by decide +kernel
theorem d17_8 : decode prog_34_method_4_code 8 = .ok (.getfield 13, 3) := by decide +kernel
theorem d17_11 : decode prog_34_method_4_code 11 = .ok (.goto 16, 3) := by decide +kernel
theorem d17_27 : decode prog_34_method_4_code 27 = .ok (.areturn, 1) := by decide +kernel
set_option maxRecDepth 65536 in
set_option maxHeartbeats 40000000 in
theorem cG (l : Launch) (Z : State) (a0 : Array Value) (hw : ∀ d ∈ tables_1, d.before a0 Z = true) {V : oVw} (a : Addr) (b : Addr) (f0 : Addr) (f1 : Addr) (f2 : Addr) (f3 : Addr) {i : Nat} (hi : V[i]? = some (a, (.inl ("com/example/bunsan/bunsan/Partition", [("com/example/bunsan/bunsan/Partition", "collectionOfDocno", "Ljava/util/Map;", (.ref f0)), ("com/example/bunsan/bunsan/Partition", "onlyCollection", "Ljava/lang/String;", (.ref f1)), ("com/example/bunsan/bunsan/Partition", "collections", "Ljava/util/List;", (.ref f2)), ("com/example/bunsan/bunsan/Partition", "documentsOfCollection", "Ljava/util/Map;", (.ref f3))]))))  :
    oCon false l Z (⟨"com/example/bunsan/bunsan/Partition", "collectionOf", "(Ljava/lang/String;)Ljava/lang/String;"⟩ : MethodName) prog_34_method_4_code 2 (some (.object "java/lang/String")) ({ frames := 0, cells := 0, slots := 0, locals := 0 } : Room) #[(.ref a), (.ref b)] V (fun v V' => v = some (.ref f1) ∧ V' = V) := by
  refine oEnter (plainFor_of_name pn_com_example_bunsan_bunsan_Partition) (Ls := #[.val (.ref a), .val (.ref b)]) (fun m => by first | (simp [entryFrame, mkF, argsToLocals, Value.category]; done) | rfl) ?_
  intro p e s m below meth c T E X
  refine gAloadN E X d17_0 rfl rfl (q := 1) rfl ?_
  refine gGetF E X d17_1 (hw _ (List.mem_of_getElem? (i := 94) rfl)) Via.refl (i := i) hi (j := 1) rfl (q := 4) rfl ?_
  intro T1 X1
  refine gNull_y E X1 rfl d17_4 (by decide) (q := 14) (by decide) (q' := 7) rfl (fun h4 => by exfalso; cases h4) (fun h4 => ?_)
  refine gAloadN E X1 d17_7 rfl rfl (q := 8) rfl ?_
  refine gGetF E X1 d17_8 (hw _ (List.mem_of_getElem? (i := 94) rfl)) Via.refl (i := i) hi (j := 1) rfl (q := 11) rfl ?_
  intro T2 X2
  refine gGoto E X2 d17_11 (by decide) (q := 27) (by decide) ?_
  exact gRetA E X2 rfl d17_27 (by decide) (by decide) (by decide) rfl rfl (⟨rfl, rfl⟩)
theorem d18_0 : decode prog_34_method_6_code 0 = .ok (.aload_n 0, 1) := by decide +kernel
theorem d18_1 : decode prog_34_method_6_code 1 = .ok (.getfield 17, 3) := by decide +kernel
theorem d18_4 : decode prog_34_method_6_code 4 = .ok (.areturn, 1) := by decide +kernel
set_option maxRecDepth 65536 in
set_option maxHeartbeats 40000000 in
theorem cH (l : Launch) (Z : State) (a0 : Array Value) (hw : ∀ d ∈ tables_1, d.before a0 Z = true) {V : oVw} (a : Addr) (f0 : Addr) (f1 : Addr) (f2 : Addr) (f3 : Addr) {i : Nat} (hi : V[i]? = some (a, (.inl ("com/example/bunsan/bunsan/Partition", [("com/example/bunsan/bunsan/Partition", "collectionOfDocno", "Ljava/util/Map;", (.ref f0)), ("com/example/bunsan/bunsan/Partition", "onlyCollection", "Ljava/lang/String;", (.ref f1)), ("com/example/bunsan/bunsan/Partition", "collections", "Ljava/util/List;", (.ref f2)), ("com/example/bunsan/bunsan/Partition", "documentsOfCollection", "Ljava/util/Map;", (.ref f3))]))))  :
    oCon false l Z (⟨"com/example/bunsan/bunsan/Partition", "collections", "()Ljava/util/List;"⟩ : MethodName) prog_34_method_6_code 1 (some (.object "java/util/List")) ({ frames := 0, cells := 0, slots := 0, locals := 0 } : Room) #[(.ref a)] V (fun v V' => v = some (.ref f2) ∧ V' = V) := by
  refine oEnter (plainFor_of_name pn_com_example_bunsan_bunsan_Partition) (Ls := #[.val (.ref a)]) (fun m => by first | (simp [entryFrame, mkF, argsToLocals, Value.category]; done) | rfl) ?_
  intro p e s m below meth c T E X
  refine gAloadN E X d18_0 rfl rfl (q := 1) rfl ?_
  refine gGetF E X d18_1 (hw _ (List.mem_of_getElem? (i := 96) rfl)) Via.refl (i := i) hi (j := 2) rfl (q := 4) rfl ?_
  intro T1 X1
  exact gRetA E X1 rfl d18_4 (by decide) (by decide) (by decide) rfl rfl (⟨rfl, rfl⟩)
theorem d19_0 : decode jdk_42_method_66_code 0 = .ok (.aload_n 0, 1) := by decide +kernel
theorem d19_1 : decode jdk_42_method_66_code 1 = .ok (.aload_n 1, 1) := by decide +kernel
theorem d19_2 : decode jdk_42_method_66_code 2 = .ok (.if_acmp .ne 5, 3) := by decide +kernel
theorem d19_5 : decode jdk_42_method_66_code 5 = .ok (.iconst 1, 1) := by decide +kernel
theorem d19_6 : decode jdk_42_method_66_code 6 = .ok (.ireturn, 1) := by decide +kernel
set_option maxRecDepth 65536 in
set_option maxHeartbeats 40000000 in
theorem cE (l : Launch) (Z : State) (a0 : Array Value) (hw : ∀ d ∈ tables_1, d.before a0 Z = true) {V : oVw} (a : Addr)   :
    oCon false l Z (⟨"java/lang/String", "equals", "(Ljava/lang/Object;)Z"⟩ : MethodName) jdk_42_method_66_code 3 (some .boolean) ({ frames := 0, cells := 0, slots := 0, locals := 0 } : Room) #[(.ref a), (.ref a)] V (fun v V' => v = some (.int 1) ∧ V' = V) := by
  refine oEnter (plainFor_of_name pn_java_lang_String) (Ls := #[.val (.ref a), .val (.ref a), .unset]) (fun m => by first | (simp [entryFrame, mkF, argsToLocals, Value.category]; done) | rfl) ?_
  intro p e s m below meth c T E X
  refine gAloadN E X d19_0 rfl rfl (q := 1) rfl ?_
  refine gAloadN E X d19_1 rfl rfl (q := 2) rfl ?_
  refine gAc_ne E X rfl rfl d19_2 (by decide) (q := 7) (by decide) (q' := 5) rfl (fun h2 => by exfalso; exact h2 rfl) (fun h2 => ?_)
  refine gIconst E X d19_5 (v := (1 : Int32)) (by decide) (q := 6) rfl ?_
  exact gRetN E X (by simp) d19_6 (by decide) (by decide) (by decide) (⟨rfl, rfl⟩)
theorem d20_0 : decode jdk_44_method_3_code 0 = .ok (.aload_n 0, 1) := by decide +kernel
theorem d20_1 : decode jdk_44_method_3_code 1 = .ok (.getfield 24, 3) := by decide +kernel
theorem d20_4 : decode jdk_44_method_3_code 4 = .ok (.getstatic 19, 3) := by decide +kernel
theorem d20_7 : decode jdk_44_method_3_code 7 = .ok (.if_acmp .eq 7, 3) := by decide +kernel
theorem d20_14 : decode jdk_44_method_3_code 14 = .ok (.iconst 1, 1) := by decide +kernel
theorem d20_15 : decode jdk_44_method_3_code 15 = .ok (.ireturn, 1) := by decide +kernel
set_option maxRecDepth 65536 in
set_option maxHeartbeats 40000000 in
theorem cZ (l : Launch) (Z : State) (a0 : Array Value) (hw : ∀ d ∈ tables_1, d.before a0 Z = true) {V : oVw} (a : Addr) (b : Addr) (ee : Addr) {i : Nat} (hi : V[i]? = some (a, (.inl ("java/util/ImmutableCollections$List12", [("java/util/ImmutableCollections$List12", "e0", "Ljava/lang/Object;", (.ref b)), ("java/util/ImmutableCollections$List12", "e1", "Ljava/lang/Object;", (.ref ee))])))) (SE : Sta Z Z.heap "java/util/ImmutableCollections" "EMPTY" "Ljava/lang/Object;" (.ref ee)) :
    oCon false l Z (⟨"java/util/ImmutableCollections$List12", "size", "()I"⟩ : MethodName) jdk_44_method_3_code 1 (some .int) ({ frames := 0, cells := 0, slots := 0, locals := 0 } : Room) #[(.ref a)] V (fun v V' => v = some (.int 1) ∧ V' = V) := by
  refine oEnter (plainFor_of_name pn_java_util_ImmutableCollections_List12) (Ls := #[.val (.ref a)]) (fun m => by first | (simp [entryFrame, mkF, argsToLocals, Value.category]; done) | rfl) ?_
  intro p e s m below meth c T E X
  refine gAloadN E X d20_0 rfl rfl (q := 1) rfl ?_
  refine gGetF E X d20_1 (hw _ (List.mem_of_getElem? (i := 86) rfl)) Via.refl (i := i) hi (j := 1) rfl (q := 4) rfl ?_
  intro T1 X1
  refine gGetSN E X1 d20_4 (hw _ (List.mem_of_getElem? (i := 85) rfl)) Via.refl SE (q := 7) rfl ?_
  intro T2 X2
  refine gAc_eq E X2 rfl rfl d20_7 (by decide) (q := 14) (by decide) (q' := 10) rfl (fun h7 => ?_) (fun h7 => by exfalso; exact h7 rfl)
  refine gIconst E X2 d20_14 (v := (1 : Int32)) (by decide) (q := 15) rfl ?_
  exact gRetI E X2 d20_15 (by decide) (by decide) (by decide) (⟨rfl, rfl⟩)
theorem d21_0 : decode jdk_44_method_5_code 0 = .ok (.iload_n 1, 1) := by decide +kernel
theorem d21_1 : decode jdk_44_method_5_code 1 = .ok (.ifCond .ne 8, 3) := by decide +kernel
theorem d21_4 : decode jdk_44_method_5_code 4 = .ok (.aload_n 0, 1) := by decide +kernel
theorem d21_5 : decode jdk_44_method_5_code 5 = .ok (.getfield 13, 3) := by decide +kernel
theorem d21_8 : decode jdk_44_method_5_code 8 = .ok (.areturn, 1) := by decide +kernel
set_option maxRecDepth 65536 in
set_option maxHeartbeats 40000000 in
theorem cY (l : Launch) (Z : State) (a0 : Array Value) (hw : ∀ d ∈ tables_1, d.before a0 Z = true) {V : oVw} (a : Addr) (b : Addr) (ee : Addr) {i : Nat} (hi : V[i]? = some (a, (.inl ("java/util/ImmutableCollections$List12", [("java/util/ImmutableCollections$List12", "e0", "Ljava/lang/Object;", (.ref b)), ("java/util/ImmutableCollections$List12", "e1", "Ljava/lang/Object;", (.ref ee))]))))  :
    oCon false l Z (⟨"java/util/ImmutableCollections$List12", "get", "(I)Ljava/lang/Object;"⟩ : MethodName) jdk_44_method_5_code 2 (some (.object "java/lang/Object")) ({ frames := 0, cells := 0, slots := 0, locals := 0 } : Room) #[(.ref a), (.int (0 : Int32))] V (fun v V' => v = some (.ref b) ∧ V' = V) := by
  refine oEnter (plainFor_of_name pn_java_util_ImmutableCollections_List12) (Ls := #[.val (.ref a), .val (.int (0 : Int32))]) (fun m => by first | (simp [entryFrame, mkF, argsToLocals, Value.category]; done) | rfl) ?_
  intro p e s m below meth c T E X
  refine gIloadN E X d21_0 rfl (q := 1) rfl ?_
  refine gIf_ne E X d21_1 (by decide) (q := 9) (by decide) (q' := 4) rfl (fun h1 => by exfalso; exact absurd h1 (by decide)) (fun h1 => ?_)
  refine gAloadN E X d21_4 rfl rfl (q := 5) rfl ?_
  refine gGetF E X d21_5 (hw _ (List.mem_of_getElem? (i := 83) rfl)) Via.refl (i := i) hi (j := 0) rfl (q := 8) rfl ?_
  intro T1 X1
  exact gRetA E X1 rfl d21_8 (by decide) (by decide) (by decide) rfl rfl (⟨rfl, rfl⟩)
theorem own_cs {s : State} {args : Array Value} {cs : Int32} {t : Term} (h : t.eval args s none [] s = some (.int cs)) (w : (Jvm.Cond.not (.eq t (.int 0))).before args s = true) : ¬ cs = 0 := by
  intro q
  subst q
  simp [Cond.before, Cond.holds, Cond.value, h, Term.eval] at w
theorem own_cl (u : Int32) : ¬ (u &&& (3 : Int32)) % (3 : Int32) + (1 : Int32) = 0 := by
  have h := c_mask u 3 2 (by decide) (by decide)
  have e : (3 : Int32).toInt = 3 := rfl
  have e1 : (1 : Int32).toInt = 1 := rfl
  have h2 : ((u &&& (3 : Int32)) % (3 : Int32)).toInt = (u &&& (3 : Int32)).toInt % 3 := by rw [oRem32 (by omega), e]
  rw [← Int32.toInt_inj, oAdd32] <;> rw [h2, e1]
  · show ¬ _ = (0 : Int)
    omega
  · omega
theorem pd_11 : parseMethodDescriptor "(IIII)Ljava/lang/String;" = some ⟨[.int, .int, .int, .int], some (.object "java/lang/String")⟩ := by decide +kernel
theorem pd_12 : parseMethodDescriptor "(Ljava/lang/String;)Lcom/example/bunsan/bunsan/Partition;" = some ⟨[(.object "java/lang/String")], some (.object "com/example/bunsan/bunsan/Partition")⟩ := by decide +kernel
theorem pd_13 : parseMethodDescriptor "(Ljava/lang/String;)Ljava/lang/String;" = some ⟨[(.object "java/lang/String")], some (.object "java/lang/String")⟩ := by decide +kernel
theorem pd_14 : parseMethodDescriptor "()Ljava/util/List;" = some ⟨[], some (.object "java/util/List")⟩ := by decide +kernel
theorem pd_15 : parseMethodDescriptor "(Ljava/lang/Object;)Z" = some ⟨[(.object "java/lang/Object")], some .boolean⟩ := by decide +kernel
theorem pd_16 : parseMethodDescriptor "()I" = some ⟨[], some .int⟩ := by decide +kernel
theorem pd_17 : parseMethodDescriptor "(I)Ljava/lang/Object;" = some ⟨[.int], some (.object "java/lang/Object")⟩ := by decide +kernel
set_option maxRecDepth 65536 in
set_option maxHeartbeats 40000000 in
theorem rm0 (l : Launch) (Z : State) (a0 : Array Value) (hw : ∀ d ∈ tables_1, d.before a0 Z = true) (u0 : Int32) (u1 : Int32) (u2 : Int32) (u3 : Int32) (u4 : Int32) (u5 : Int32) (cs : Int32) (em : Addr) (ee : Addr) (SC : Sta Z Z.heap "java/lang/String" "COMPACT_STRINGS" "Z" (.int cs)) (hcs : ¬ cs = 0) (hh : Jvm.Lit.constHeld Z "java/lang/String" 7) (hcw : Jvm.Lit.compactW.before a0 Z = true) (SM : Sta Z Z.heap "java/util/ImmutableCollections" "EMPTY_MAP" "Ljava/util/ImmutableCollections$MapN;" (.ref em)) (SE : Sta Z Z.heap "java/util/ImmutableCollections" "EMPTY" "Ljava/lang/Object;" (.ref ee)) :
    oCon true l Z x code maxLocals ret room_1 #[(.int u0), (.int u1), (.int u2), (.int u3), (.int u4), (.int u5)] [] (fun v _ => v = some (.int 1)) := by
  refine oEnter (plainFor_of_name pn_com_example_bunsan_bunsan_PartitionWholePinLaw) (Ls := #[.val (.int u0), .val (.int u1), .val (.int u2), .val (.int u3), .val (.int u4), .val (.int u5), .unset, .unset, .unset, .unset, .unset, .unset, .unset, .unset, .unset]) (fun m => by first | (simp [entryFrame, mkF, argsToLocals, Value.category, maxLocals]; done) | rfl) ?_
  intro p e s m below meth c T E X
  refine gIload E X at_0 rfl (q := 2) rfl ?_
  refine gIconst E X at_2 (v := (3 : Int32)) (by decide) (q := 3) rfl ?_
  refine gIand E X at_3 (z := (u5 &&& (3 : Int32))) rfl (q := 4) rfl ?_
  refine gIconst E X at_4 (v := (3 : Int32)) (by decide) (q := 5) rfl ?_
  refine gIrem E X at_5 (by decide) (z := ((u5 &&& (3 : Int32)) % (3 : Int32))) (oRemEq _ _) (q := 6) rfl ?_
  refine gIconst E X at_6 (v := (1 : Int32)) (by decide) (q := 7) rfl ?_
  refine gIadd E X at_7 (z := (((u5 &&& (3 : Int32)) % (3 : Int32)) + (1 : Int32))) rfl (q := 8) rfl ?_
  refine gIstore E X at_8 (l' := #[.val (.int u0), .val (.int u1), .val (.int u2), .val (.int u3), .val (.int u4), .val (.int u5), .val (.int (((u5 &&& (3 : Int32)) % (3 : Int32)) + (1 : Int32))), .unset, .unset, .unset, .unset, .unset, .unset, .unset, .unset]) rfl (q := 10) rfl ?_
  refine gIload E X at_10 rfl (q := 12) rfl ?_
  refine gIconst E X at_12 (v := (2 : Int32)) (by decide) (q := 13) rfl ?_
  refine gIushr E X at_13 (z := (XT.ushr u5 (2 : Int32))) rfl (q := 14) rfl ?_
  refine gIconst E X at_14 (v := (3 : Int32)) (by decide) (q := 15) rfl ?_
  refine gIand E X at_15 (z := ((XT.ushr u5 (2 : Int32)) &&& (3 : Int32))) rfl (q := 16) rfl ?_
  refine gIconst E X at_16 (v := (3 : Int32)) (by decide) (q := 17) rfl ?_
  refine gIrem E X at_17 (by decide) (z := (((XT.ushr u5 (2 : Int32)) &&& (3 : Int32)) % (3 : Int32))) (oRemEq _ _) (q := 18) rfl ?_
  refine gIstore E X at_18 (l' := #[.val (.int u0), .val (.int u1), .val (.int u2), .val (.int u3), .val (.int u4), .val (.int u5), .val (.int (((u5 &&& (3 : Int32)) % (3 : Int32)) + (1 : Int32))), .val (.int (((XT.ushr u5 (2 : Int32)) &&& (3 : Int32)) % (3 : Int32))), .unset, .unset, .unset, .unset, .unset, .unset, .unset]) rfl (q := 20) rfl ?_
  have hcl := own_cl u5
  refine gIload E X at_20 rfl (q := 22) rfl ?_
  refine gIloadN E X at_22 rfl (q := 23) rfl ?_
  refine gSipush E X at_23 (v := (255 : Int32)) (by decide) (q := 26) rfl ?_
  refine gIand E X at_26 (z := (u0 &&& (255 : Int32))) rfl (q := 27) rfl ?_
  refine gIloadN E X at_27 rfl (q := 28) rfl ?_
  refine gSipush E X at_28 (v := (255 : Int32)) (by decide) (q := 31) rfl ?_
  refine gIand E X at_31 (z := (u1 &&& (255 : Int32))) rfl (q := 32) rfl ?_
  refine gIloadN E X at_32 rfl (q := 33) rfl ?_
  refine gSipush E X at_33 (v := (255 : Int32)) (by decide) (q := 36) rfl ?_
  refine gIand E X at_36 (z := (u2 &&& (255 : Int32))) rfl (q := 37) rfl ?_
  refine gCallS E X (W := 0) (c2 := 5) (s2 := 12) [(.int (((u5 &&& (3 : Int32)) % (3 : Int32)) + (1 : Int32))), (.int (u0 &&& (255 : Int32))), (.int (u1 &&& (255 : Int32))), (.int (u2 &&& (255 : Int32)))] [] at_37 (hw _ (List.mem_of_getElem? (i := 0) rfl)) (hw _ (List.mem_of_getElem? (i := 1) rfl)) (hw _ (List.mem_of_getElem? (i := 2) rfl)) (hw _ (List.mem_of_getElem? (i := 3) rfl)) (by decide) (cTN l Z a0 hw (((u5 &&& (3 : Int32)) % (3 : Int32)) + (1 : Int32)) (u0 &&& (255 : Int32)) (u1 &&& (255 : Int32)) (u2 &&& (255 : Int32)) cs (own_ff _) (own_ff _) (own_ff _) SC hcs hcl) pd_11 rfl rfl rfl (by decide) (Nat.le_of_eq rfl) (by decide) (by decide) (by decide) (by decide) (by decide) (by decide) (q := 40) rfl ?_
  intro T1 v1 V1 R1 X1
  obtain ⟨a1, n1, fs1, rfl, hs1, eP1⟩ := R1
  show oG true p e below s Z room_1 (fun v _ => v = some (.int 1)) T1 (mkF m 40 #[.val (.int u0), .val (.int u1), .val (.int u2), .val (.int u3), .val (.int u4), .val (.int u5), .val (.int (((u5 &&& (3 : Int32)) % (3 : Int32)) + (1 : Int32))), .val (.int (((XT.ushr u5 (2 : Int32)) &&& (3 : Int32)) % (3 : Int32))), .unset, .unset, .unset, .unset, .unset, .unset, .unset] [(.ref a1)])
  refine gAstore E X1 at_40 rfl (l' := #[.val (.int u0), .val (.int u1), .val (.int u2), .val (.int u3), .val (.int u4), .val (.int u5), .val (.int (((u5 &&& (3 : Int32)) % (3 : Int32)) + (1 : Int32))), .val (.int (((XT.ushr u5 (2 : Int32)) &&& (3 : Int32)) % (3 : Int32))), .val (.ref a1), .unset, .unset, .unset, .unset, .unset, .unset]) rfl (q := 42) rfl ?_
  refine gIload E X1 at_42 rfl (q := 44) rfl ?_
  refine gIloadN E X1 at_44 rfl (q := 45) rfl ?_
  refine gSipush E X1 at_45 (v := (255 : Int32)) (by decide) (q := 48) rfl ?_
  refine gIand E X1 at_48 (z := (u3 &&& (255 : Int32))) rfl (q := 49) rfl ?_
  refine gIload E X1 at_49 rfl (q := 51) rfl ?_
  refine gSipush E X1 at_51 (v := (255 : Int32)) (by decide) (q := 54) rfl ?_
  refine gIand E X1 at_54 (z := (u4 &&& (255 : Int32))) rfl (q := 55) rfl ?_
  refine gIconst E X1 at_55 (v := (0 : Int32)) (by decide) (q := 56) rfl ?_
  refine gCallS E X1 (W := 0) (c2 := 10) (s2 := 24) [(.int (((XT.ushr u5 (2 : Int32)) &&& (3 : Int32)) % (3 : Int32))), (.int (u3 &&& (255 : Int32))), (.int (u4 &&& (255 : Int32))), (.int (0 : Int32))] [] at_56 (hw _ (List.mem_of_getElem? (i := 0) rfl)) (hw _ (List.mem_of_getElem? (i := 1) rfl)) (hw _ (List.mem_of_getElem? (i := 2) rfl)) (hw _ (List.mem_of_getElem? (i := 3) rfl)) (by decide) (cTE l Z a0 hw (((XT.ushr u5 (2 : Int32)) &&& (3 : Int32)) % (3 : Int32)) (u3 &&& (255 : Int32)) (u4 &&& (255 : Int32)) (0 : Int32) cs (own_ff _) (own_ff _) ⟨by decide, by decide⟩ SC hcs hh hcw) pd_11 rfl rfl rfl (by decide) (Nat.le_of_eq rfl) (by decide) (by decide) (by decide) (by decide) (by decide) (by decide) (q := 59) rfl ?_
  intro T2 v2 V2 R2 X2
  obtain ⟨a2, n2, fs2, rfl, hs2, eP2⟩ := R2
  have i2_0 := oPre.get eP2 hs1
  show oG true p e below s Z room_1 (fun v _ => v = some (.int 1)) T2 (mkF m 59 #[.val (.int u0), .val (.int u1), .val (.int u2), .val (.int u3), .val (.int u4), .val (.int u5), .val (.int (((u5 &&& (3 : Int32)) % (3 : Int32)) + (1 : Int32))), .val (.int (((XT.ushr u5 (2 : Int32)) &&& (3 : Int32)) % (3 : Int32))), .val (.ref a1), .unset, .unset, .unset, .unset, .unset, .unset] [(.ref a2)])
  refine gAstore E X2 at_59 rfl (l' := #[.val (.int u0), .val (.int u1), .val (.int u2), .val (.int u3), .val (.int u4), .val (.int u5), .val (.int (((u5 &&& (3 : Int32)) % (3 : Int32)) + (1 : Int32))), .val (.int (((XT.ushr u5 (2 : Int32)) &&& (3 : Int32)) % (3 : Int32))), .val (.ref a1), .val (.ref a2), .unset, .unset, .unset, .unset, .unset]) rfl (q := 61) rfl ?_
  refine gAload E X2 at_61 rfl rfl (q := 63) rfl ?_
  refine gCallS E X2 (W := 0) (c2 := 12) (s2 := 30) [(.ref a1)] [] at_63 (hw _ (List.mem_of_getElem? (i := 37) rfl)) (hw _ (List.mem_of_getElem? (i := 38) rfl)) (hw _ (List.mem_of_getElem? (i := 39) rfl)) (hw _ (List.mem_of_getElem? (i := 40) rfl)) (by decide) (cW l Z a0 hw a1 em ee SM SE) pd_12 rfl rfl rfl (by decide) (Nat.le_of_eq rfl) (by decide) (by decide) (by decide) (by decide) (by decide) (by decide) (q := 66) rfl ?_
  intro T3 v3 V3 R3 X3
  obtain ⟨p3, q3, m3, n3, rfl, hp3, hq3, eP3⟩ := R3
  have i3_0 := oPre.get eP3 i2_0
  have i3_1 := oPre.get eP3 hs2
  show oG true p e below s Z room_1 (fun v _ => v = some (.int 1)) T3 (mkF m 66 #[.val (.int u0), .val (.int u1), .val (.int u2), .val (.int u3), .val (.int u4), .val (.int u5), .val (.int (((u5 &&& (3 : Int32)) % (3 : Int32)) + (1 : Int32))), .val (.int (((XT.ushr u5 (2 : Int32)) &&& (3 : Int32)) % (3 : Int32))), .val (.ref a1), .val (.ref a2), .unset, .unset, .unset, .unset, .unset] [(.ref p3)])
  refine gAstore E X3 at_66 rfl (l' := #[.val (.int u0), .val (.int u1), .val (.int u2), .val (.int u3), .val (.int u4), .val (.int u5), .val (.int (((u5 &&& (3 : Int32)) % (3 : Int32)) + (1 : Int32))), .val (.int (((XT.ushr u5 (2 : Int32)) &&& (3 : Int32)) % (3 : Int32))), .val (.ref a1), .val (.ref a2), .val (.ref p3), .unset, .unset, .unset, .unset]) rfl (q := 68) rfl ?_
  refine gAload E X3 at_68 rfl rfl (q := 70) rfl ?_
  refine gAload E X3 at_70 rfl rfl (q := 72) rfl ?_
  refine gCallV E X3 (W := 0) (c2 := 12) (s2 := 30) (i := m3) (a := p3) [(.ref a2)] [] at_72 hp3 (hw _ (List.mem_of_getElem? (i := 100) rfl)) (hw _ (List.mem_of_getElem? (i := 101) rfl)) (hw _ (List.mem_of_getElem? (i := 103) rfl)) (hw _ (List.mem_of_getElem? (i := 103) rfl)) (hw _ (List.mem_of_getElem? (i := 102) rfl)) (hw _ (List.mem_of_getElem? (i := 39) rfl)) (hw _ (List.mem_of_getElem? (i := 104) rfl)) (by decide) (cG l Z a0 hw p3 a2 em a1 q3 em (i := m3) hp3) pd_13 rfl rfl rfl (by decide) (Nat.le_of_eq rfl) (by decide) (by decide) (by decide) (by decide) (by decide) (by decide) (q := 75) rfl ?_
  intro T4 v4 V4 R4 X4
  obtain ⟨rfl, eQ4⟩ := R4
  rw [eQ4] at X4
  show oG true p e below s Z room_1 (fun v _ => v = some (.int 1)) T4 (mkF m 75 #[.val (.int u0), .val (.int u1), .val (.int u2), .val (.int u3), .val (.int u4), .val (.int u5), .val (.int (((u5 &&& (3 : Int32)) % (3 : Int32)) + (1 : Int32))), .val (.int (((XT.ushr u5 (2 : Int32)) &&& (3 : Int32)) % (3 : Int32))), .val (.ref a1), .val (.ref a2), .val (.ref p3), .unset, .unset, .unset, .unset] [(.ref a1)])
  refine gAstore E X4 at_75 rfl (l' := #[.val (.int u0), .val (.int u1), .val (.int u2), .val (.int u3), .val (.int u4), .val (.int u5), .val (.int (((u5 &&& (3 : Int32)) % (3 : Int32)) + (1 : Int32))), .val (.int (((XT.ushr u5 (2 : Int32)) &&& (3 : Int32)) % (3 : Int32))), .val (.ref a1), .val (.ref a2), .val (.ref p3), .val (.ref a1), .unset, .unset, .unset]) rfl (q := 77) rfl ?_
  refine gAload E X4 at_77 rfl rfl (q := 79) rfl ?_
  refine gAload E X4 at_79 rfl rfl (q := 81) rfl ?_
  refine gCallV E X4 (W := 0) (c2 := 12) (s2 := 30) (i := m3) (a := p3) [(.ref a1)] [] at_81 hp3 (hw _ (List.mem_of_getElem? (i := 100) rfl)) (hw _ (List.mem_of_getElem? (i := 101) rfl)) (hw _ (List.mem_of_getElem? (i := 103) rfl)) (hw _ (List.mem_of_getElem? (i := 103) rfl)) (hw _ (List.mem_of_getElem? (i := 102) rfl)) (hw _ (List.mem_of_getElem? (i := 39) rfl)) (hw _ (List.mem_of_getElem? (i := 104) rfl)) (by decide) (cG l Z a0 hw p3 a1 em a1 q3 em (i := m3) hp3) pd_13 rfl rfl rfl (by decide) (Nat.le_of_eq rfl) (by decide) (by decide) (by decide) (by decide) (by decide) (by decide) (q := 84) rfl ?_
  intro T5 v5 V5 R5 X5
  obtain ⟨rfl, eQ5⟩ := R5
  rw [eQ5] at X5
  show oG true p e below s Z room_1 (fun v _ => v = some (.int 1)) T5 (mkF m 84 #[.val (.int u0), .val (.int u1), .val (.int u2), .val (.int u3), .val (.int u4), .val (.int u5), .val (.int (((u5 &&& (3 : Int32)) % (3 : Int32)) + (1 : Int32))), .val (.int (((XT.ushr u5 (2 : Int32)) &&& (3 : Int32)) % (3 : Int32))), .val (.ref a1), .val (.ref a2), .val (.ref p3), .val (.ref a1), .unset, .unset, .unset] [(.ref a1)])
  refine gAstore E X5 at_84 rfl (l' := #[.val (.int u0), .val (.int u1), .val (.int u2), .val (.int u3), .val (.int u4), .val (.int u5), .val (.int (((u5 &&& (3 : Int32)) % (3 : Int32)) + (1 : Int32))), .val (.int (((XT.ushr u5 (2 : Int32)) &&& (3 : Int32)) % (3 : Int32))), .val (.ref a1), .val (.ref a2), .val (.ref p3), .val (.ref a1), .val (.ref a1), .unset, .unset]) rfl (q := 86) rfl ?_
  refine gAload E X5 at_86 rfl rfl (q := 88) rfl ?_
  refine gCallV E X5 (W := 0) (c2 := 12) (s2 := 30) (i := m3) (a := p3) [] [] at_88 hp3 (hw _ (List.mem_of_getElem? (i := 105) rfl)) (hw _ (List.mem_of_getElem? (i := 106) rfl)) (hw _ (List.mem_of_getElem? (i := 108) rfl)) (hw _ (List.mem_of_getElem? (i := 108) rfl)) (hw _ (List.mem_of_getElem? (i := 107) rfl)) (hw _ (List.mem_of_getElem? (i := 39) rfl)) (hw _ (List.mem_of_getElem? (i := 109) rfl)) (by decide) (cH l Z a0 hw p3 em a1 q3 em (i := m3) hp3) pd_14 rfl rfl rfl (by decide) (Nat.le_of_eq rfl) (by decide) (by decide) (by decide) (by decide) (by decide) (by decide) (q := 91) rfl ?_
  intro T6 v6 V6 R6 X6
  obtain ⟨rfl, eQ6⟩ := R6
  rw [eQ6] at X6
  show oG true p e below s Z room_1 (fun v _ => v = some (.int 1)) T6 (mkF m 91 #[.val (.int u0), .val (.int u1), .val (.int u2), .val (.int u3), .val (.int u4), .val (.int u5), .val (.int (((u5 &&& (3 : Int32)) % (3 : Int32)) + (1 : Int32))), .val (.int (((XT.ushr u5 (2 : Int32)) &&& (3 : Int32)) % (3 : Int32))), .val (.ref a1), .val (.ref a2), .val (.ref p3), .val (.ref a1), .val (.ref a1), .unset, .unset] [(.ref q3)])
  refine gAstore E X6 at_91 rfl (l' := #[.val (.int u0), .val (.int u1), .val (.int u2), .val (.int u3), .val (.int u4), .val (.int u5), .val (.int (((u5 &&& (3 : Int32)) % (3 : Int32)) + (1 : Int32))), .val (.int (((XT.ushr u5 (2 : Int32)) &&& (3 : Int32)) % (3 : Int32))), .val (.ref a1), .val (.ref a2), .val (.ref p3), .val (.ref a1), .val (.ref a1), .val (.ref q3), .unset]) rfl (q := 93) rfl ?_
  refine gAload E X6 at_93 rfl rfl (q := 95) rfl ?_
  refine gNull_y E X6 rfl at_95 (by decide) (q := 108) (by decide) (q' := 98) rfl (fun h95 => by exfalso; cases h95) (fun h95 => ?_)
  refine gAload E X6 at_98 rfl rfl (q := 100) rfl ?_
  refine gNull_y E X6 rfl at_100 (by decide) (q := 108) (by decide) (q' := 103) rfl (fun h100 => by exfalso; cases h100) (fun h100 => ?_)
  refine gAload E X6 at_103 rfl rfl (q := 105) rfl ?_
  refine gNull_n E X6 rfl at_105 (by decide) (q := 110) (by decide) (q' := 108) rfl (fun h105 => ?_) (fun h105 => by exfalso; cases h105)
  refine gAload E X6 at_110 rfl rfl (q := 112) rfl ?_
  refine gAload E X6 at_112 rfl rfl (q := 114) rfl ?_
  refine gCallV E X6 (W := 0) (c2 := 12) (s2 := 30) (i := n1) (a := a1) [(.ref a1)] [] at_114 i3_0 (hw _ (List.mem_of_getElem? (i := 110) rfl)) (hw _ (List.mem_of_getElem? (i := 111) rfl)) (hw _ (List.mem_of_getElem? (i := 113) rfl)) (hw _ (List.mem_of_getElem? (i := 113) rfl)) (hw _ (List.mem_of_getElem? (i := 112) rfl)) (hw _ (List.mem_of_getElem? (i := 7) rfl)) (hw _ (List.mem_of_getElem? (i := 114) rfl)) (by decide) (cE l Z a0 hw a1) pd_15 rfl rfl rfl (by decide) (Nat.le_of_eq rfl) (by decide) (by decide) (by decide) (by decide) (by decide) (by decide) (q := 117) rfl ?_
  intro T7 v7 V7 R7 X7
  obtain ⟨rfl, eQ7⟩ := R7
  rw [eQ7] at X7
  show oG true p e below s Z room_1 (fun v _ => v = some (.int 1)) T7 (mkF m 117 #[.val (.int u0), .val (.int u1), .val (.int u2), .val (.int u3), .val (.int u4), .val (.int u5), .val (.int (((u5 &&& (3 : Int32)) % (3 : Int32)) + (1 : Int32))), .val (.int (((XT.ushr u5 (2 : Int32)) &&& (3 : Int32)) % (3 : Int32))), .val (.ref a1), .val (.ref a2), .val (.ref p3), .val (.ref a1), .val (.ref a1), .val (.ref q3), .unset] [(.int (1 : Int32))])
  refine gIf_eq E X7 at_117 (by decide) (q := 130) (by decide) (q' := 120) rfl (fun h117 => by exfalso; exact absurd h117 (by decide)) (fun h117 => ?_)
  refine gAload E X7 at_120 rfl rfl (q := 122) rfl ?_
  refine gAload E X7 at_122 rfl rfl (q := 124) rfl ?_
  refine gCallV E X7 (W := 0) (c2 := 12) (s2 := 30) (i := n1) (a := a1) [(.ref a1)] [] at_124 i3_0 (hw _ (List.mem_of_getElem? (i := 110) rfl)) (hw _ (List.mem_of_getElem? (i := 111) rfl)) (hw _ (List.mem_of_getElem? (i := 113) rfl)) (hw _ (List.mem_of_getElem? (i := 113) rfl)) (hw _ (List.mem_of_getElem? (i := 112) rfl)) (hw _ (List.mem_of_getElem? (i := 7) rfl)) (hw _ (List.mem_of_getElem? (i := 114) rfl)) (by decide) (cE l Z a0 hw a1) pd_15 rfl rfl rfl (by decide) (Nat.le_of_eq rfl) (by decide) (by decide) (by decide) (by decide) (by decide) (by decide) (q := 127) rfl ?_
  intro T8 v8 V8 R8 X8
  obtain ⟨rfl, eQ8⟩ := R8
  rw [eQ8] at X8
  show oG true p e below s Z room_1 (fun v _ => v = some (.int 1)) T8 (mkF m 127 #[.val (.int u0), .val (.int u1), .val (.int u2), .val (.int u3), .val (.int u4), .val (.int u5), .val (.int (((u5 &&& (3 : Int32)) % (3 : Int32)) + (1 : Int32))), .val (.int (((XT.ushr u5 (2 : Int32)) &&& (3 : Int32)) % (3 : Int32))), .val (.ref a1), .val (.ref a2), .val (.ref p3), .val (.ref a1), .val (.ref a1), .val (.ref q3), .unset] [(.int (1 : Int32))])
  refine gIf_ne E X8 at_127 (by decide) (q := 132) (by decide) (q' := 130) rfl (fun h127 => ?_) (fun h127 => by exfalso; exact absurd h127 (by decide))
  refine gAload E X8 at_132 rfl rfl (q := 134) rfl ?_
  refine gCallF E X8 (W := 0) (c2 := 12) (s2 := 30) (i := n3) (a := q3) [] [] at_134 hq3 (hw _ (List.mem_of_getElem? (i := 115) rfl)) (hw _ (List.mem_of_getElem? (i := 116) rfl)) (hw _ (List.mem_of_getElem? (i := 118) rfl)) (hw _ (List.mem_of_getElem? (i := 117) rfl)) (hw _ (List.mem_of_getElem? (i := 120) rfl)) (hw _ (List.mem_of_getElem? (i := 121) rfl)) (hw _ (List.mem_of_getElem? (i := 122) rfl)) (hw _ (List.mem_of_getElem? (i := 119) rfl)) (hw _ (List.mem_of_getElem? (i := 55) rfl)) (hw _ (List.mem_of_getElem? (i := 123) rfl)) (by decide) (cZ l Z a0 hw q3 a1 ee (i := n3) hq3 SE) pd_16 rfl rfl rfl (by decide) (Nat.le_of_eq rfl) (by decide) (by decide) (by decide) (by decide) (by decide) (by decide) (q := 139) rfl ?_
  intro T9 v9 V9 R9 X9
  obtain ⟨rfl, eQ9⟩ := R9
  rw [eQ9] at X9
  show oG true p e below s Z room_1 (fun v _ => v = some (.int 1)) T9 (mkF m 139 #[.val (.int u0), .val (.int u1), .val (.int u2), .val (.int u3), .val (.int u4), .val (.int u5), .val (.int (((u5 &&& (3 : Int32)) % (3 : Int32)) + (1 : Int32))), .val (.int (((XT.ushr u5 (2 : Int32)) &&& (3 : Int32)) % (3 : Int32))), .val (.ref a1), .val (.ref a2), .val (.ref p3), .val (.ref a1), .val (.ref a1), .val (.ref q3), .unset] [(.int (1 : Int32))])
  refine gIconst E X9 at_139 (v := (1 : Int32)) (by decide) (q := 140) rfl ?_
  refine gIc_eq E X9 at_140 (by decide) (q := 145) (by decide) (q' := 143) rfl (fun h140 => ?_) (fun h140 => by exfalso; exact absurd h140 (by decide))
  refine gAload E X9 at_145 rfl rfl (q := 147) rfl ?_
  refine gIconst E X9 at_147 (v := (0 : Int32)) (by decide) (q := 148) rfl ?_
  refine gCallF E X9 (W := 0) (c2 := 12) (s2 := 30) (i := n3) (a := q3) [(.int (0 : Int32))] [] at_148 hq3 (hw _ (List.mem_of_getElem? (i := 124) rfl)) (hw _ (List.mem_of_getElem? (i := 125) rfl)) (hw _ (List.mem_of_getElem? (i := 127) rfl)) (hw _ (List.mem_of_getElem? (i := 126) rfl)) (hw _ (List.mem_of_getElem? (i := 129) rfl)) (hw _ (List.mem_of_getElem? (i := 130) rfl)) (hw _ (List.mem_of_getElem? (i := 122) rfl)) (hw _ (List.mem_of_getElem? (i := 128) rfl)) (hw _ (List.mem_of_getElem? (i := 55) rfl)) (hw _ (List.mem_of_getElem? (i := 131) rfl)) (by decide) (cY l Z a0 hw q3 a1 ee (i := n3) hq3) pd_17 rfl rfl rfl (by decide) (Nat.le_of_eq rfl) (by decide) (by decide) (by decide) (by decide) (by decide) (by decide) (q := 153) rfl ?_
  intro T10 v10 V10 R10 X10
  obtain ⟨rfl, eQ10⟩ := R10
  rw [eQ10] at X10
  show oG true p e below s Z room_1 (fun v _ => v = some (.int 1)) T10 (mkF m 153 #[.val (.int u0), .val (.int u1), .val (.int u2), .val (.int u3), .val (.int u4), .val (.int u5), .val (.int (((u5 &&& (3 : Int32)) % (3 : Int32)) + (1 : Int32))), .val (.int (((XT.ushr u5 (2 : Int32)) &&& (3 : Int32)) % (3 : Int32))), .val (.ref a1), .val (.ref a2), .val (.ref p3), .val (.ref a1), .val (.ref a1), .val (.ref q3), .unset] [(.ref a1)])
  refine gCastY E X10 at_153 (hw _ (List.mem_of_getElem? (i := 5) rfl)) (i := n1) i3_0 (hw _ (List.mem_of_getElem? (i := 13) rfl)) (q := 156) rfl ?_
  intro T11 X11
  refine gAstore E X11 at_156 rfl (l' := #[.val (.int u0), .val (.int u1), .val (.int u2), .val (.int u3), .val (.int u4), .val (.int u5), .val (.int (((u5 &&& (3 : Int32)) % (3 : Int32)) + (1 : Int32))), .val (.int (((XT.ushr u5 (2 : Int32)) &&& (3 : Int32)) % (3 : Int32))), .val (.ref a1), .val (.ref a2), .val (.ref p3), .val (.ref a1), .val (.ref a1), .val (.ref q3), .val (.ref a1)]) rfl (q := 158) rfl ?_
  refine gAload E X11 at_158 rfl rfl (q := 160) rfl ?_
  refine gNull_y E X11 rfl at_160 (by decide) (q := 177) (by decide) (q' := 163) rfl (fun h160 => by exfalso; cases h160) (fun h160 => ?_)
  refine gAload E X11 at_163 rfl rfl (q := 165) rfl ?_
  refine gAload E X11 at_165 rfl rfl (q := 167) rfl ?_
  refine gCallV E X11 (W := 0) (c2 := 12) (s2 := 30) (i := n1) (a := a1) [(.ref a1)] [] at_167 i3_0 (hw _ (List.mem_of_getElem? (i := 110) rfl)) (hw _ (List.mem_of_getElem? (i := 111) rfl)) (hw _ (List.mem_of_getElem? (i := 113) rfl)) (hw _ (List.mem_of_getElem? (i := 113) rfl)) (hw _ (List.mem_of_getElem? (i := 112) rfl)) (hw _ (List.mem_of_getElem? (i := 7) rfl)) (hw _ (List.mem_of_getElem? (i := 114) rfl)) (by decide) (cE l Z a0 hw a1) pd_15 rfl rfl rfl (by decide) (Nat.le_of_eq rfl) (by decide) (by decide) (by decide) (by decide) (by decide) (by decide) (q := 170) rfl ?_
  intro T12 v12 V12 R12 X12
  obtain ⟨rfl, eQ12⟩ := R12
  rw [eQ12] at X12
  show oG true p e below s Z room_1 (fun v _ => v = some (.int 1)) T12 (mkF m 170 #[.val (.int u0), .val (.int u1), .val (.int u2), .val (.int u3), .val (.int u4), .val (.int u5), .val (.int (((u5 &&& (3 : Int32)) % (3 : Int32)) + (1 : Int32))), .val (.int (((XT.ushr u5 (2 : Int32)) &&& (3 : Int32)) % (3 : Int32))), .val (.ref a1), .val (.ref a2), .val (.ref p3), .val (.ref a1), .val (.ref a1), .val (.ref q3), .val (.ref a1)] [(.int (1 : Int32))])
  refine gIf_eq E X12 at_170 (by decide) (q := 177) (by decide) (q' := 173) rfl (fun h170 => by exfalso; exact absurd h170 (by decide)) (fun h170 => ?_)
  refine gIconst E X12 at_173 (v := (1 : Int32)) (by decide) (q := 174) rfl ?_
  refine gGoto E X12 at_174 (by decide) (q := 178) (by decide) ?_
  exact gRetN E X12 (by simp) at_178 (by decide) (by decide) (by decide) (rfl)
set_option maxRecDepth 65536 in
set_option maxHeartbeats 40000000 in
theorem comes_1 {Post : Tables → Env → Array Value → State → Outcome → State → Prop} (hpost : ∀ tb e args s v u, (limb_1_1.after args s (.returned v) u = true ∧ limb_1_2.after args s (.returned v) u = true ∧ True) → ReturnedEndW s (.returned v) u (Jvm.fieldLocs frame_1_writes args s ++ Jvm.arrayLocs frame_1_arrays args s ++ Jvm.staticLocs frame_1_statics s) 32 1152 → Post tb e args s (.returned v) u) :
    ArmFor flags0 classFile x code maxLocals ret World_1 tables_1 room_1 Calls_1 rest_1 Pre_1 Post := by
  intro l hfl _ _ p e ha hc hk s m args below hf hA hF happ hP
  obtain ⟨hcalls, hrest, hpre⟩ := hP
  obtain ⟨-, -, -, hnamed, -, -, -, hat⟩ := (Spec.applies_iff hf).mp happ
  obtain ⟨hg, hn⟩ := and_e (Cond.before_iff.mp (show (Jvm.Cond.and given_1 narrow_1).before args s = true from hpre))
  obtain ⟨h1, hg0⟩ := and_e hg
  obtain ⟨g0, hg1⟩ := and_e hg0
  obtain ⟨g1, hg2⟩ := and_e hg1
  obtain ⟨g2, hg3⟩ := and_e hg2
  obtain ⟨g3, hg4⟩ := and_e hg3
  obtain ⟨g4, hg5⟩ := and_e hg4
  obtain ⟨w0, w1, w2, w3, w4, w5, rfl⟩ : ∃ w0 w1 w2 w3 w4 w5 : Value, args = #[w0, w1, w2, w3, w4, w5] := by
    have hs : args.size = 6 := by simpa [Cond.value, given_1] using h1
    obtain ⟨L⟩ := args
    match L, hs with
    | [w0, w1, w2, w3, w4, w5], _ => exact ⟨w0, w1, w2, w3, w4, w5, rfl⟩
  have hw := fun d (hd : d ∈ tables_1) => atoms_spec (ws := Jvm.Cond.code x code maxLocals ret :: tables_1) hat d (List.mem_cons_of_mem _ hd)
  have hfit : Fit s := fun {y c} hc i hi => by
    obtain ⟨ha, rfl⟩ := Array.getElem?_eq_some_iff.mp hc
    have q := List.all_eq_true.mp ((Array.all_eq_true_iff_forall_mem.mp hF) _ (Array.getElem_mem ha)) i (List.mem_range.mpr hi)
    simpa [Array.getElem?_eq_getElem hi] using q
  obtain ⟨i0, e0⟩ := is_v g0
  obtain rfl : w0 = (.int i0) := Option.some.inj e0
  obtain ⟨i1, e1⟩ := is_v g1
  obtain rfl : w1 = (.int i1) := Option.some.inj e1
  obtain ⟨i2, e2⟩ := is_v g2
  obtain rfl : w2 = (.int i2) := Option.some.inj e2
  obtain ⟨i3, e3⟩ := is_v g3
  obtain rfl : w3 = (.int i3) := Option.some.inj e3
  obtain ⟨i4, e4⟩ := is_v g4
  obtain rfl : w4 = (.int i4) := Option.some.inj e4
  obtain ⟨i5, e5⟩ := is_v hg5
  obtain rfl : w5 = (.int i5) := Option.some.inj e5
  have hs := (atoms_of jdkStatics_1 (show (jdkStatics_1.foldr Jvm.Cond.and restOwn_1).before _ s = true from hrest)).1
  obtain ⟨cs, vcs⟩ := is_v (Cond.before_iff.mp (hs _ (List.mem_of_getElem? (i := 1) rfl)))
  have SC := Sta.start vcs (Or.inl (hs _ (List.mem_of_getElem? (i := 0) rfl)))
  have hcw : Jvm.Lit.compactW.before _ s = true := (hs _ (List.mem_of_getElem? (i := 2) rfl))
  have hcs : ¬ cs = 0 := own_cs vcs (hs _ (List.mem_of_getElem? (i := 2) rfl))
  obtain ⟨em, vem⟩ := exa_v (Cond.before_iff.mp (hs _ (List.mem_of_getElem? (i := 11) rfl)))
  have SM := Sta.start vem (Or.inl (hs _ (List.mem_of_getElem? (i := 10) rfl)))
  obtain ⟨ee, vee⟩ := exa_v (Cond.before_iff.mp (hs _ (List.mem_of_getElem? (i := 18) rfl)))
  have SE := Sta.start vee (Or.inl (hs _ (List.mem_of_getElem? (i := 17) rfl)))
  have hh : Jvm.Lit.constHeld s "java/lang/String" 7 := (hcalls.1 : constsHeld consts_1 s) ("java/lang/String", 7) (List.mem_cons_self ..)
  obtain ⟨n, o, h1, h2, h3, v, L, rfl, ⟨N, V', rfl, -⟩, hq, -⟩ := rm0 l s _ hw i0 i1 i2 i3 i4 i5 cs em ee SC hcs hh hcw SM SE tables_1 s.heap (oHv.nil s) p e ha hc hk s m _ below hf ((Spec.applies_iff_loose hf).mp happ).1 ⟨rfl, State.Warmed39.refl s, rfl, fun _ => rfl⟩ trivial
  refine ⟨n, _, h1, h2, h3, hpost _ _ _ _ _ _ ⟨Cond.after_iff.mpr rfl, Cond.after_iff.mpr (eq_i res_at (Term.int_eval (1)) rfl), trivial⟩ ⟨hq.1, hq.2.1, hq.2.2.1, (hq.2.2.2.sift fun y hy => Or.inr (N y hy)).mono (by decide) (by decide)⟩⟩
theorem main_1_1 : Claimed_1_1 := comes_1 fun _ _ _ _ _ _ h hF => ⟨h.1, hF⟩
theorem main_1_2 : Claimed_1_2 := comes_1 fun _ _ _ _ _ _ h hF => ⟨h.2.1, hF⟩
end Jvm.Pilot.@@N@@
namespace Jvm.Pilot.@@N@@
open Jvm Jvm.ClassFile Sem Op Lib Jvm.Free Jvm.Stand Jvm.Pilot.@@N@@.Jvm.D
/-! MADE BY PROGRAM (witnessworld.py) out of the Statement's table words and the real class files: 37 classes; the members and pool entries that the words name. The judged class is class 1, her method 1. -/
namespace start1
open Jvm.ClassFile
def u (s : String) : CpInfo := .utf8 (stringToUtf16 s)
/-- a pool by its gaps: so many unusable entries, then the entry; so many at the end -/
def gap : Nat → List CpInfo → List CpInfo
  | 0, r => r
  | n + 1, r => .unusable :: gap n r
def poolList (es : List (Nat × CpInfo)) (last : Nat) : List CpInfo := es.foldr (fun e r => gap e.1 (e.2 :: r)) (gap last [])
def pool (es : List (Nat × CpInfo)) (last : Nat) : Array CpInfo := ⟨poolList es last⟩
def fileOf (pool : Array CpInfo) (this : Nat) (attrs : Array Attribute := #[]) (ms : Array MethodInfo := #[]) (fl : Nat := 33) (sup : Nat := 0) (ifs : Array Nat := #[]) (fds : Array FieldInfo := #[]) : ClassFile where
  minorVersion := 0
  majorVersion := 65
  constantPool := pool
  accessFlags := fl
  thisClass := this
  superClass := sup
  interfaces := ifs
  fields := fds
  methods := ms
  attributes := attrs
def plain (name : String) (sup : Option ClassId) : Class where
  name := name
  kind := .ordinary
  loader := none
  accessFlags := 33
  super := sup
  interfaces := #[]
  cf := none
  fields := #[]
  methods := #[]
  instanceTypes := #[]
  staticTypes := #[]
  resolved := #[]
  callSites := []
  init := .initialized
  statics := none
  mirror := none

def pool0 : Array CpInfo := pool [(5, u "<init>"), (0, u "()V"), (1, .class_ 10), (1, u "java/lang/Object")] 113

def k0c0 : Code := { maxStack := 0, maxLocals := 1, code := object_method_1_code, exceptionTable := #[], attributes := #[] }
def k0m0 : Method := { name := "<init>", desc := "()V", sig := { parameters := [], returnType := none }, accessFlags := 1, code := some k0c0 }
/-- java/lang/Object -/
def k0 : Class := { plain "java/lang/Object" none with
  accessFlags := 33
  interfaces := #[]
  cf := some (fileOf pool0 8 #[] #[{ accessFlags := 1, nameIndex := 5, descriptorIndex := 6, attributes := #[] }] 33 0 #[] #[])
  fields := #[]
  methods := #[k0m0]
  instanceTypes := #[]
  staticTypes := #[]
  resolved := Array.replicate 124 none
  statics := none }

def pool1 : Array CpInfo := pool [(2, .class_ 4), (1, u "java/lang/Object"), (0, u "<init>"), (0, u "()V"), (0, .methodref 8 9), (0, .class_ 10), (0, .nameAndType 11 12), (0, u "com/example/bunsan/bunsan/PartitionWholePinLaw"), (0, u "str"), (0, u "(IIII)Ljava/lang/String;"), (0, .methodref 14 15), (0, .class_ 16), (0, .nameAndType 17 18), (0, u "com/example/bunsan/bunsan/Partition"), (0, u "whole"), (0, u "(Ljava/lang/String;)Lcom/example/bunsan/bunsan/Partition;"), (0, .methodref 14 20), (0, .nameAndType 21 22), (0, u "collectionOf"), (0, u "(Ljava/lang/String;)Ljava/lang/String;"), (0, .methodref 14 24), (0, .nameAndType 25 26), (0, u "collections"), (0, u "()Ljava/util/List;"), (0, .methodref 28 29), (0, .class_ 30), (0, .nameAndType 31 32), (0, u "java/lang/String"), (0, u "equals"), (0, u "(Ljava/lang/Object;)Z"), (0, .interfaceMethodref 34 35), (0, .class_ 36), (0, .nameAndType 37 38), (0, u "java/util/List"), (0, u "size"), (0, u "()I"), (0, .interfaceMethodref 34 40), (0, .nameAndType 41 42), (0, u "get"), (0, u "(I)Ljava/lang/Object;"), (0, .methodref 28 44), (0, .nameAndType 5 45), (0, u "([C)V"), (2, u "law"), (0, u "(IIIIII)Z")] 3

def k1m0 : Method := { name := "<init>", desc := "()V", sig := { parameters := [], returnType := none }, accessFlags := 1, code := none }
def k1c1 : Code := { maxStack := 5, maxLocals := 15, code := code, exceptionTable := #[], attributes := #[] }
def k1m1 : Method := { name := "law", desc := "(IIIIII)Z", sig := { parameters := [.int, .int, .int, .int, .int, .int], returnType := some .boolean }, accessFlags := 9, code := some k1c1 }
def k1c2 : Code := { maxStack := 3, maxLocals := 5, code := method_3_code, exceptionTable := #[], attributes := #[] }
def k1m2 : Method := { name := "str", desc := "(IIII)Ljava/lang/String;", sig := { parameters := [.int, .int, .int, .int], returnType := some (.object "java/lang/String") }, accessFlags := 10, code := some k1c2 }
/-- com/example/bunsan/bunsan/PartitionWholePinLaw -/
def k1 : Class := { plain "com/example/bunsan/bunsan/PartitionWholePinLaw" (some 0) with
  accessFlags := 49
  interfaces := #[]
  cf := some (fileOf pool1 8 #[] #[{ accessFlags := 1, nameIndex := 5, descriptorIndex := 6, attributes := #[] }, { accessFlags := 9, nameIndex := 48, descriptorIndex := 49, attributes := #[] }, { accessFlags := 10, nameIndex := 11, descriptorIndex := 12, attributes := #[] }] 49 2 #[] #[])
  fields := #[]
  methods := #[k1m0, k1m1, k1m2]
  instanceTypes := #[]
  staticTypes := #[]
  resolved := Array.replicate 53 none
  statics := none }

def pool2 : Array CpInfo := pool [(1, .class_ 2), (0, u "java/io/Serializable"), (0, .class_ 4), (0, u "java/lang/Object")] 2

/-- java/io/Serializable -/
def k2 : Class := { plain "java/io/Serializable" (some 0) with
  accessFlags := 1537
  interfaces := #[]
  cf := some (fileOf pool2 1 #[] #[] 1537 3 #[] #[])
  fields := #[]
  methods := #[]
  instanceTypes := #[]
  staticTypes := #[]
  resolved := Array.replicate 7 none
  statics := none }

def pool3 : Array CpInfo := pool [(1, .class_ 2), (0, u "java/lang/Comparable"), (0, .class_ 4), (0, u "java/lang/Object")] 7

/-- java/lang/Comparable -/
def k3 : Class := { plain "java/lang/Comparable" (some 0) with
  accessFlags := 1537
  interfaces := #[]
  cf := some (fileOf pool3 1 #[] #[] 1537 3 #[] #[])
  fields := #[]
  methods := #[]
  instanceTypes := #[]
  staticTypes := #[]
  resolved := Array.replicate 12 none
  statics := none }

def pool4 : Array CpInfo := pool [(2, .class_ 4), (1, u "java/lang/CharSequence"), (42, .class_ 48), (0, u "java/lang/CharSequence$1CodePointIterator"), (10, .class_ 60), (0, u "java/lang/CharSequence$1CharIterator"), (5, .class_ 67), (0, u "java/lang/Object")] 63

/-- java/lang/CharSequence -/
def k4 : Class := { plain "java/lang/CharSequence" (some 0) with
  accessFlags := 1537
  interfaces := #[]
  cf := some (fileOf pool4 2 #[.nestMembers #[47, 59]] #[] 1537 66 #[] #[])
  fields := #[]
  methods := #[]
  instanceTypes := #[]
  staticTypes := #[]
  resolved := Array.replicate 131 none
  statics := none }

def pool5 : Array CpInfo := pool [(1, .class_ 2), (0, u "java/lang/constant/Constable"), (0, .class_ 4), (0, u "java/lang/Object")] 6

/-- java/lang/constant/Constable -/
def k5 : Class := { plain "java/lang/constant/Constable" (some 0) with
  accessFlags := 1537
  interfaces := #[]
  cf := some (fileOf pool5 1 #[] #[] 1537 3 #[] #[])
  fields := #[]
  methods := #[]
  instanceTypes := #[]
  staticTypes := #[]
  resolved := Array.replicate 11 none
  statics := none }

def pool6 : Array CpInfo := pool [(1, .class_ 2), (0, u "java/lang/constant/ConstantDesc"), (0, .class_ 4), (0, u "java/lang/Object")] 32

/-- java/lang/constant/ConstantDesc -/
def k6 : Class := { plain "java/lang/constant/ConstantDesc" (some 0) with
  accessFlags := 1537
  interfaces := #[]
  cf := some (fileOf pool6 1 #[] #[] 1537 3 #[] #[])
  fields := #[]
  methods := #[]
  instanceTypes := #[]
  staticTypes := #[]
  resolved := Array.replicate 37 none
  statics := none }

def pool7 : Array CpInfo := pool [(1, .methodref 2 3), (0, .class_ 4), (0, .nameAndType 5 6), (0, u "java/lang/Object"), (0, u "<init>"), (0, u "()V"), (0, .string 8), (0, u ""), (0, .fieldref 10 11), (0, .class_ 12), (0, .nameAndType 13 14), (0, u "java/lang/String"), (0, u "value"), (0, u "[B"), (0, .fieldref 10 16), (0, .nameAndType 17 18), (0, u "coder"), (0, u "B"), (2, u "hash"), (0, u "I"), (2, u "hashIsZero"), (0, u "Z"), (0, .methodref 10 28), (0, .nameAndType 5 29), (0, u "([CIILjava/lang/Void;)V"), (8, .fieldref 10 39), (0, .nameAndType 40 26), (0, u "COMPACT_STRINGS"), (1, .class_ 44), (1, u "java/lang/StringUTF16"), (0, u "compress"), (1, .methodref 42 48), (0, .nameAndType 49 50), (0, u "coderFromArrayLen"), (0, u "([BI)B"), (126, .methodref 42 178), (0, .nameAndType 45 179), (0, u "([CII)[B"), (363, u "equals"), (29, u "(Ljava/lang/Object;)Z"), (1, .class_ 576), (0, u "java/lang/CharSequence"), (22, u "CASE_INSENSITIVE_ORDER"), (0, u "Ljava/util/Comparator;"), (409, u "([C)V"), (90, u "serialPersistentFields"), (0, u "[Ljava/io/ObjectStreamField;"), (0, .class_ 1104), (0, u "java/lang/String$CaseInsensitiveComparator"), (1, .class_ 1107), (0, u "java/io/Serializable"), (0, .class_ 1109), (0, u "java/lang/Comparable"), (0, .class_ 1111), (0, u "java/lang/constant/Constable"), (0, .class_ 1113), (0, u "java/lang/constant/ConstantDesc"), (2, u "serialVersionUID"), (0, u "J"), (3, u "REPL"), (0, u "C"), (2, u "LATIN1"), (1, u "UTF16")] 323

def k7m0 : Method := { name := "<init>", desc := "()V", sig := { parameters := [], returnType := none }, accessFlags := 1, code := none }
def k7c1 : Code := { maxStack := 5, maxLocals := 2, code := jdk_42_method_3_code, exceptionTable := #[], attributes := #[] }
def k7m1 : Method := { name := "<init>", desc := "([C)V", sig := { parameters := [(.array .char)], returnType := none }, accessFlags := 1, code := some k7c1 }
def k7c2 : Code := { maxStack := 2, maxLocals := 3, code := jdk_42_method_66_code, exceptionTable := #[], attributes := #[] }
def k7m2 : Method := { name := "equals", desc := "(Ljava/lang/Object;)Z", sig := { parameters := [(.object "java/lang/Object")], returnType := some .boolean }, accessFlags := 1, code := some k7c2 }
def k7c3 : Code := { maxStack := 4, maxLocals := 6, code := jdk_42_method_149_code, exceptionTable := #[], attributes := #[] }
def k7m3 : Method := { name := "<init>", desc := "([CIILjava/lang/Void;)V", sig := { parameters := [(.array .char), .int, .int, (.object "java/lang/Void")], returnType := none }, accessFlags := 2, code := some k7c3 }
/-- java/lang/String -/
def k7 : Class := { plain "java/lang/String" (some 0) with
  accessFlags := 49
  interfaces := #[2, 3, 4, 5, 6]
  cf := some (fileOf pool7 10 #[.nestMembers #[1103]] #[{ accessFlags := 1, nameIndex := 5, descriptorIndex := 6, attributes := #[] }, { accessFlags := 1, nameIndex := 5, descriptorIndex := 1010, attributes := #[] }, { accessFlags := 1, nameIndex := 543, descriptorIndex := 573, attributes := #[] }, { accessFlags := 2, nameIndex := 5, descriptorIndex := 29, attributes := #[] }] 49 2 #[1106, 1108, 575, 1110, 1112] #[{ accessFlags := 18, nameIndex := 13, descriptorIndex := 14, attributes := #[] }, { accessFlags := 18, nameIndex := 17, descriptorIndex := 18, attributes := #[] }, { accessFlags := 2, nameIndex := 21, descriptorIndex := 22, attributes := #[] }, { accessFlags := 2, nameIndex := 25, descriptorIndex := 26, attributes := #[] }, { accessFlags := 26, nameIndex := 1116, descriptorIndex := 1117, attributes := #[] }, { accessFlags := 24, nameIndex := 40, descriptorIndex := 26, attributes := #[] }, { accessFlags := 26, nameIndex := 1101, descriptorIndex := 1102, attributes := #[] }, { accessFlags := 26, nameIndex := 1121, descriptorIndex := 1122, attributes := #[] }, { accessFlags := 25, nameIndex := 599, descriptorIndex := 600, attributes := #[] }, { accessFlags := 24, nameIndex := 1125, descriptorIndex := 18, attributes := #[] }, { accessFlags := 24, nameIndex := 1127, descriptorIndex := 18, attributes := #[] }])
  fields := #[{ name := "value", type := (.array .byte), accessFlags := 18, slot := 0, constantValue := 0 }, { name := "coder", type := .byte, accessFlags := 18, slot := 1, constantValue := 0 }, { name := "hash", type := .int, accessFlags := 2, slot := 2, constantValue := 0 }, { name := "hashIsZero", type := .boolean, accessFlags := 2, slot := 3, constantValue := 0 }, { name := "serialVersionUID", type := .long, accessFlags := 26, slot := 0, constantValue := 0 }, { name := "COMPACT_STRINGS", type := .boolean, accessFlags := 24, slot := 1, constantValue := 0 }, { name := "serialPersistentFields", type := (.array (.object "java/io/ObjectStreamField")), accessFlags := 26, slot := 2, constantValue := 0 }, { name := "REPL", type := .char, accessFlags := 26, slot := 3, constantValue := 0 }, { name := "CASE_INSENSITIVE_ORDER", type := (.object "java/util/Comparator"), accessFlags := 25, slot := 4, constantValue := 0 }, { name := "LATIN1", type := .byte, accessFlags := 24, slot := 5, constantValue := 0 }, { name := "UTF16", type := .byte, accessFlags := 24, slot := 6, constantValue := 0 }]
  methods := #[k7m0, k7m1, k7m2, k7m3]
  instanceTypes := #[(.array .byte), .byte, .int, .boolean]
  staticTypes := #[.long, .boolean, (.array (.object "java/io/ObjectStreamField")), .char, (.object "java/util/Comparator"), .byte, .byte]
  resolved := Array.replicate 1451 none
  statics := some 0 }

def pool8 : Array CpInfo := pool [(6, .class_ 8), (1, u "java/lang/Object"), (0, u "<init>"), (0, u "()V"), (1, .class_ 14), (1, u "java/lang/StringUTF16"), (31, u "$assertionsDisabled"), (0, u "Z"), (13, u "HI_BYTE_SHIFT"), (0, u "I"), (2, u "LO_BYTE_SHIFT"), (49, .methodref 12 116), (0, .nameAndType 117 118), (0, u "compress"), (0, u "([CI[BII)I"), (3, u "([CII)[B"), (138, u "coderFromArrayLen"), (0, u "([BI)B"), (106, .class_ 371), (1, u "java/lang/StringUTF16$LinesSpliterator"), (58, u "MAX_LENGTH"), (196, .class_ 628), (0, u "java/lang/StringUTF16$CodePointsSpliterator"), (0, .class_ 630), (0, u "java/lang/StringUTF16$CharsSpliterator")] 4

def k8m0 : Method := { name := "<init>", desc := "()V", sig := { parameters := [], returnType := none }, accessFlags := 0, code := none }
def k8c1 : Code := { maxStack := 2, maxLocals := 2, code := jdk_52_method_15_code, exceptionTable := #[], attributes := #[] }
def k8m1 : Method := { name := "coderFromArrayLen", desc := "([BI)B", sig := { parameters := [(.array .byte), .int], returnType := some .byte }, accessFlags := 8, code := some k8c1 }
def k8c2 : Code := { maxStack := 5, maxLocals := 6, code := jdk_52_method_16_code, exceptionTable := #[], attributes := #[] }
def k8m2 : Method := { name := "compress", desc := "([CII)[B", sig := { parameters := [(.array .char), .int, .int], returnType := some (.array .byte) }, accessFlags := 9, code := some k8c2 }
def k8c3 : Code := { maxStack := 3, maxLocals := 7, code := jdk_52_method_21_code, exceptionTable := #[], attributes := #[] }
def k8m3 : Method := { name := "compress", desc := "([CI[BII)I", sig := { parameters := [(.array .char), .int, (.array .byte), .int, .int], returnType := some .int }, accessFlags := 9, code := some k8c3 }
/-- java/lang/StringUTF16 -/
def k8 : Class := { plain "java/lang/StringUTF16" (some 0) with
  accessFlags := 48
  interfaces := #[]
  cf := some (fileOf pool8 12 #[.nestMembers #[627, 629, 369]] #[{ accessFlags := 0, nameIndex := 9, descriptorIndex := 10, attributes := #[] }, { accessFlags := 8, nameIndex := 261, descriptorIndex := 262, attributes := #[] }, { accessFlags := 9, nameIndex := 117, descriptorIndex := 122, attributes := #[] }, { accessFlags := 9, nameIndex := 117, descriptorIndex := 118, attributes := #[] }] 48 6 #[] #[{ accessFlags := 26, nameIndex := 61, descriptorIndex := 62, attributes := #[] }, { accessFlags := 26, nameIndex := 65, descriptorIndex := 62, attributes := #[] }, { accessFlags := 24, nameIndex := 430, descriptorIndex := 62, attributes := #[] }, { accessFlags := 4120, nameIndex := 46, descriptorIndex := 47, attributes := #[] }])
  fields := #[{ name := "HI_BYTE_SHIFT", type := .int, accessFlags := 26, slot := 0, constantValue := 0 }, { name := "LO_BYTE_SHIFT", type := .int, accessFlags := 26, slot := 1, constantValue := 0 }, { name := "MAX_LENGTH", type := .int, accessFlags := 24, slot := 2, constantValue := 0 }, { name := "$assertionsDisabled", type := .boolean, accessFlags := 4120, slot := 3, constantValue := 0 }]
  methods := #[k8m0, k8m1, k8m2, k8m3]
  instanceTypes := #[]
  staticTypes := #[.int, .int, .int, .boolean]
  resolved := Array.replicate 635 none
  statics := none }

def pool9 : Array CpInfo := pool [(1, .methodref 2 3), (0, .class_ 4), (0, .nameAndType 5 6), (0, u "java/lang/Object"), (0, u "<init>"), (0, u "()V"), (0, .fieldref 8 9), (0, .class_ 10), (0, .nameAndType 11 12), (0, u "com/example/bunsan/bunsan/Partition"), (0, u "collectionOfDocno"), (0, u "Ljava/util/Map;"), (0, .fieldref 8 14), (0, .nameAndType 15 16), (0, u "onlyCollection"), (0, u "Ljava/lang/String;"), (0, .fieldref 8 18), (0, .nameAndType 19 20), (0, u "collections"), (0, u "Ljava/util/List;"), (0, .fieldref 8 22), (0, .nameAndType 23 12), (0, u "documentsOfCollection"), (4, .class_ 30), (1, u "java/util/Map"), (50, .class_ 83), (1, u "java/util/List"), (12, .methodref 8 97), (0, .nameAndType 5 98), (0, u "(Ljava/util/Map;Ljava/lang/String;Ljava/util/List;Ljava/util/Map;)V"), (0, .interfaceMethodref 28 100), (0, .nameAndType 101 102), (0, u "of"), (0, u "()Ljava/util/Map;"), (0, .interfaceMethodref 81 104), (0, .nameAndType 101 105), (0, u "(Ljava/lang/Object;)Ljava/util/List;"), (9, u "(Ljava/lang/String;)Ljava/lang/String;"), (21, u "whole"), (0, u "(Ljava/lang/String;)Lcom/example/bunsan/bunsan/Partition;"), (0, u "collectionOf"), (2, u "()Ljava/util/List;")] 33

def k9c0 : Code := { maxStack := 2, maxLocals := 5, code := prog_34_method_1_code, exceptionTable := #[], attributes := #[] }
def k9m0 : Method := { name := "<init>", desc := "(Ljava/util/Map;Ljava/lang/String;Ljava/util/List;Ljava/util/Map;)V", sig := { parameters := [(.object "java/util/Map"), (.object "java/lang/String"), (.object "java/util/List"), (.object "java/util/Map")], returnType := none }, accessFlags := 2, code := some k9c0 }
def k9c1 : Code := { maxStack := 6, maxLocals := 1, code := prog_34_method_3_code, exceptionTable := #[], attributes := #[] }
def k9m1 : Method := { name := "whole", desc := "(Ljava/lang/String;)Lcom/example/bunsan/bunsan/Partition;", sig := { parameters := [(.object "java/lang/String")], returnType := some (.object "com/example/bunsan/bunsan/Partition") }, accessFlags := 9, code := some k9c1 }
def k9c2 : Code := { maxStack := 2, maxLocals := 2, code := prog_34_method_4_code, exceptionTable := #[], attributes := #[] }
def k9m2 : Method := { name := "collectionOf", desc := "(Ljava/lang/String;)Ljava/lang/String;", sig := { parameters := [(.object "java/lang/String")], returnType := some (.object "java/lang/String") }, accessFlags := 1, code := some k9c2 }
def k9c3 : Code := { maxStack := 1, maxLocals := 1, code := prog_34_method_6_code, exceptionTable := #[], attributes := #[] }
def k9m3 : Method := { name := "collections", desc := "()Ljava/util/List;", sig := { parameters := [], returnType := some (.object "java/util/List") }, accessFlags := 1, code := some k9c3 }
/-- com/example/bunsan/bunsan/Partition -/
def k9 : Class := { plain "com/example/bunsan/bunsan/Partition" (some 0) with
  accessFlags := 33
  interfaces := #[]
  cf := some (fileOf pool9 8 #[] #[{ accessFlags := 2, nameIndex := 5, descriptorIndex := 98, attributes := #[] }, { accessFlags := 9, nameIndex := 137, descriptorIndex := 138, attributes := #[] }, { accessFlags := 1, nameIndex := 139, descriptorIndex := 115, attributes := #[] }, { accessFlags := 1, nameIndex := 19, descriptorIndex := 142, attributes := #[] }] 33 2 #[] #[{ accessFlags := 18, nameIndex := 11, descriptorIndex := 12, attributes := #[] }, { accessFlags := 18, nameIndex := 15, descriptorIndex := 16, attributes := #[] }, { accessFlags := 18, nameIndex := 19, descriptorIndex := 20, attributes := #[] }, { accessFlags := 18, nameIndex := 23, descriptorIndex := 12, attributes := #[] }])
  fields := #[{ name := "collectionOfDocno", type := (.object "java/util/Map"), accessFlags := 18, slot := 0, constantValue := 0 }, { name := "onlyCollection", type := (.object "java/lang/String"), accessFlags := 18, slot := 1, constantValue := 0 }, { name := "collections", type := (.object "java/util/List"), accessFlags := 18, slot := 2, constantValue := 0 }, { name := "documentsOfCollection", type := (.object "java/util/Map"), accessFlags := 18, slot := 3, constantValue := 0 }]
  methods := #[k9m0, k9m1, k9m2, k9m3]
  instanceTypes := #[(.object "java/util/Map"), (.object "java/lang/String"), (.object "java/util/List"), (.object "java/util/Map")]
  staticTypes := #[]
  resolved := Array.replicate 176 none
  statics := none }

def pool10 : Array CpInfo := pool [(2, .class_ 4), (1, u "java/util/Map"), (31, .class_ 37), (0, u "java/util/Map$Entry"), (43, .fieldref 82 83), (0, .class_ 84), (0, .nameAndType 85 86), (0, u "java/util/ImmutableCollections"), (0, u "EMPTY_MAP"), (0, u "Ljava/util/ImmutableCollections$MapN;"), (6, .class_ 94), (0, u "java/lang/Object"), (13, u "of"), (0, u "()Ljava/util/Map;")] 153

def k10c0 : Code := { maxStack := 1, maxLocals := 0, code := jdk_72_method_26_code, exceptionTable := #[], attributes := #[] }
def k10m0 : Method := { name := "of", desc := "()Ljava/util/Map;", sig := { parameters := [], returnType := some (.object "java/util/Map") }, accessFlags := 9, code := some k10c0 }
/-- java/util/Map -/
def k10 : Class := { plain "java/util/Map" (some 0) with
  accessFlags := 1537
  interfaces := #[]
  cf := some (fileOf pool10 2 #[.nestMembers #[36]] #[{ accessFlags := 9, nameIndex := 108, descriptorIndex := 109, attributes := #[] }] 1537 93 #[] #[])
  fields := #[]
  methods := #[k10m0]
  instanceTypes := #[]
  staticTypes := #[]
  resolved := Array.replicate 263 none
  statics := none }

def pool11 : Array CpInfo := pool [(2, .class_ 4), (1, u "java/lang/Object"), (0, u "<init>"), (0, u "()V"), (3, .class_ 11), (0, u "java/util/ImmutableCollections$List12"), (0, .class_ 13), (0, u "java/util/ImmutableCollections$ListN"), (3, u "Z"), (29, .class_ 49), (1, u "java/util/ImmutableCollections"), (0, u "$assertionsDisabled"), (5, u "[Ljava/lang/Object;"), (5, u "EMPTY_LIST"), (0, u "Ljava/util/ImmutableCollections$ListN;"), (8, u "EMPTY_LIST_NULLS"), (22, u "SALT32L"), (0, u "J"), (2, u "REVERSE"), (6, u "archivedObjects"), (2, u "EMPTY"), (0, u "Ljava/lang/Object;"), (0, .class_ 112), (0, u "java/util/ImmutableCollections$SetN"), (5, u "EMPTY_SET"), (0, u "Ljava/util/ImmutableCollections$SetN;"), (0, .class_ 121), (0, u "java/util/ImmutableCollections$MapN"), (3, u "EMPTY_MAP"), (0, u "Ljava/util/ImmutableCollections$MapN;"), (4, u "EXPAND_FACTOR"), (0, u "I"), (36, .class_ 170), (0, u "java/util/ImmutableCollections$MapN$MapNIterator"), (0, .class_ 172), (0, u "java/util/ImmutableCollections$MapN$1"), (0, .class_ 174), (0, u "java/util/ImmutableCollections$Map1"), (0, .class_ 176), (0, u "java/util/ImmutableCollections$AbstractImmutableMap"), (0, .class_ 178), (0, u "java/util/ImmutableCollections$SetN$SetNIterator"), (0, .class_ 180), (0, u "java/util/ImmutableCollections$Set12"), (0, .class_ 182), (0, u "java/util/ImmutableCollections$Set12$1"), (0, .class_ 184), (0, u "java/util/ImmutableCollections$AbstractImmutableSet"), (0, .class_ 186), (0, u "java/util/ImmutableCollections$SubList"), (0, .class_ 188), (0, u "java/util/ImmutableCollections$ListItr"), (0, .class_ 190), (0, u "java/util/ImmutableCollections$AbstractImmutableList"), (0, .class_ 192), (0, u "java/util/ImmutableCollections$AbstractImmutableCollection"), (0, .class_ 194), (0, u "java/util/ImmutableCollections$Access"), (0, .class_ 196), (0, u "java/util/ImmutableCollections$Access$1")] 16

def k11m0 : Method := { name := "<init>", desc := "()V", sig := { parameters := [], returnType := none }, accessFlags := 2, code := none }
/-- java/util/ImmutableCollections -/
def k11 : Class := { plain "java/util/ImmutableCollections" (some 0) with
  accessFlags := 32
  interfaces := #[]
  cf := some (fileOf pool11 47 #[.nestMembers #[120, 169, 171, 173, 175, 111, 177, 179, 181, 183, 12, 10, 185, 187, 189, 191, 193, 195]] #[{ accessFlags := 2, nameIndex := 5, descriptorIndex := 6, attributes := #[] }] 32 2 #[] #[{ accessFlags := 26, nameIndex := 95, descriptorIndex := 96, attributes := #[] }, { accessFlags := 26, nameIndex := 99, descriptorIndex := 17, attributes := #[] }, { accessFlags := 10, nameIndex := 106, descriptorIndex := 56, attributes := #[] }, { accessFlags := 26, nameIndex := 109, descriptorIndex := 110, attributes := #[] }, { accessFlags := 24, nameIndex := 62, descriptorIndex := 63, attributes := #[] }, { accessFlags := 24, nameIndex := 72, descriptorIndex := 63, attributes := #[] }, { accessFlags := 24, nameIndex := 118, descriptorIndex := 119, attributes := #[] }, { accessFlags := 24, nameIndex := 125, descriptorIndex := 126, attributes := #[] }, { accessFlags := 24, nameIndex := 131, descriptorIndex := 132, attributes := #[] }, { accessFlags := 4120, nameIndex := 50, descriptorIndex := 17, attributes := #[] }])
  fields := #[{ name := "SALT32L", type := .long, accessFlags := 26, slot := 0, constantValue := 0 }, { name := "REVERSE", type := .boolean, accessFlags := 26, slot := 1, constantValue := 0 }, { name := "archivedObjects", type := (.array (.object "java/lang/Object")), accessFlags := 10, slot := 2, constantValue := 0 }, { name := "EMPTY", type := (.object "java/lang/Object"), accessFlags := 26, slot := 3, constantValue := 0 }, { name := "EMPTY_LIST", type := (.object "java/util/ImmutableCollections$ListN"), accessFlags := 24, slot := 4, constantValue := 0 }, { name := "EMPTY_LIST_NULLS", type := (.object "java/util/ImmutableCollections$ListN"), accessFlags := 24, slot := 5, constantValue := 0 }, { name := "EMPTY_SET", type := (.object "java/util/ImmutableCollections$SetN"), accessFlags := 24, slot := 6, constantValue := 0 }, { name := "EMPTY_MAP", type := (.object "java/util/ImmutableCollections$MapN"), accessFlags := 24, slot := 7, constantValue := 0 }, { name := "EXPAND_FACTOR", type := .int, accessFlags := 24, slot := 8, constantValue := 0 }, { name := "$assertionsDisabled", type := .boolean, accessFlags := 4120, slot := 9, constantValue := 0 }]
  methods := #[k11m0]
  instanceTypes := #[]
  staticTypes := #[.long, .boolean, (.array (.object "java/lang/Object")), (.object "java/lang/Object"), (.object "java/util/ImmutableCollections$ListN"), (.object "java/util/ImmutableCollections$ListN"), (.object "java/util/ImmutableCollections$SetN"), (.object "java/util/ImmutableCollections$MapN"), .int, .boolean]
  resolved := Array.replicate 213 none
  statics := some 1 }

def pool12 : Array CpInfo := pool [(8, .class_ 10), (1, u "java/lang/Iterable"), (24, .class_ 36), (0, u "java/lang/Object")] 25

/-- java/lang/Iterable -/
def k12 : Class := { plain "java/lang/Iterable" (some 0) with
  accessFlags := 1537
  interfaces := #[]
  cf := some (fileOf pool12 8 #[] #[] 1537 35 #[] #[])
  fields := #[]
  methods := #[]
  instanceTypes := #[]
  staticTypes := #[]
  resolved := Array.replicate 62 none
  statics := none }

def pool13 : Array CpInfo := pool [(10, .class_ 12), (1, u "java/util/Collection"), (47, .class_ 61), (0, u "java/lang/Object"), (0, .class_ 63), (0, u "java/lang/Iterable")] 51

/-- java/util/Collection -/
def k13 : Class := { plain "java/util/Collection" (some 0) with
  accessFlags := 1537
  interfaces := #[12]
  cf := some (fileOf pool13 10 #[] #[] 1537 60 #[62] #[])
  fields := #[]
  methods := #[]
  instanceTypes := #[]
  staticTypes := #[]
  resolved := Array.replicate 115 none
  statics := none }

def pool14 : Array CpInfo := pool [(8, .class_ 10), (1, u "java/util/SequencedCollection"), (15, .class_ 27), (0, u "java/lang/Object"), (0, .class_ 29), (0, u "java/util/Collection")] 27

/-- java/util/SequencedCollection -/
def k14 : Class := { plain "java/util/SequencedCollection" (some 0) with
  accessFlags := 1537
  interfaces := #[13]
  cf := some (fileOf pool14 8 #[] #[] 1537 26 #[28] #[])
  fields := #[]
  methods := #[]
  instanceTypes := #[]
  staticTypes := #[]
  resolved := Array.replicate 57 none
  statics := none }

def pool15 : Array CpInfo := pool [(8, .class_ 10), (1, u "java/util/List"), (20, u "(Ljava/lang/Object;)V"), (16, u "<init>"), (26, u "get"), (0, u "(I)Ljava/lang/Object;"), (2, u "size"), (0, u "()I"), (7, u "of"), (7, .class_ 97), (0, u "java/util/ImmutableCollections$List12"), (0, .methodref 96 99), (0, .nameAndType 48 31), (3, .class_ 104), (0, u "java/lang/Object"), (15, .class_ 121), (0, u "java/util/SequencedCollection"), (76, u "(Ljava/lang/Object;)Ljava/util/List;")] 52

def k15m0 : Method := { name := "size", desc := "()I", sig := { parameters := [], returnType := some .int }, accessFlags := 1025, code := none }
def k15m1 : Method := { name := "get", desc := "(I)Ljava/lang/Object;", sig := { parameters := [.int], returnType := some (.object "java/lang/Object") }, accessFlags := 1025, code := none }
def k15c2 : Code := { maxStack := 3, maxLocals := 1, code := jdk_40_method_37_code, exceptionTable := #[], attributes := #[] }
def k15m2 : Method := { name := "of", desc := "(Ljava/lang/Object;)Ljava/util/List;", sig := { parameters := [(.object "java/lang/Object")], returnType := some (.object "java/util/List") }, accessFlags := 9, code := some k15c2 }
/-- java/util/List -/
def k15 : Class := { plain "java/util/List" (some 0) with
  accessFlags := 1537
  interfaces := #[14]
  cf := some (fileOf pool15 8 #[] #[{ accessFlags := 1025, nameIndex := 79, descriptorIndex := 80, attributes := #[] }, { accessFlags := 1025, nameIndex := 75, descriptorIndex := 76, attributes := #[] }, { accessFlags := 9, nameIndex := 88, descriptorIndex := 198, attributes := #[] }] 1537 103 #[120] #[])
  fields := #[]
  methods := #[k15m0, k15m1, k15m2]
  instanceTypes := #[]
  staticTypes := #[]
  resolved := Array.replicate 251 none
  statics := none }

def pool16 : Array CpInfo := pool [(1, .methodref 2 3), (0, .class_ 4), (0, .nameAndType 5 6), (0, u "java/lang/Object"), (0, u "<init>"), (0, u "()V"), (1, .class_ 10), (1, u "java/util/AbstractCollection"), (66, .class_ 78), (0, u "java/util/Collection")] 81

def k16c0 : Code := { maxStack := 1, maxLocals := 1, code := jdk_22_method_1_code, exceptionTable := #[], attributes := #[] }
def k16m0 : Method := { name := "<init>", desc := "()V", sig := { parameters := [], returnType := none }, accessFlags := 4, code := some k16c0 }
/-- java/util/AbstractCollection -/
def k16 : Class := { plain "java/util/AbstractCollection" (some 0) with
  accessFlags := 1057
  interfaces := #[13]
  cf := some (fileOf pool16 8 #[] #[{ accessFlags := 4, nameIndex := 5, descriptorIndex := 6, attributes := #[] }] 1057 2 #[77] #[])
  fields := #[]
  methods := #[k16m0]
  instanceTypes := #[]
  staticTypes := #[]
  resolved := Array.replicate 160 none
  statics := none }

def pool17 : Array CpInfo := pool [(1, .methodref 2 3), (0, .class_ 4), (0, .nameAndType 5 6), (0, u "java/util/AbstractCollection"), (0, u "<init>"), (0, u "()V"), (1, .class_ 10), (1, u "java/util/ImmutableCollections"), (2, .class_ 14), (0, u "java/util/ImmutableCollections$AbstractImmutableCollection")] 41

def k17c0 : Code := { maxStack := 1, maxLocals := 1, code := jdk_47_method_1_code, exceptionTable := #[], attributes := #[] }
def k17m0 : Method := { name := "<init>", desc := "()V", sig := { parameters := [], returnType := none }, accessFlags := 0, code := some k17c0 }
/-- java/util/ImmutableCollections$AbstractImmutableCollection -/
def k17 : Class := { plain "java/util/ImmutableCollections$AbstractImmutableCollection" (some 16) with
  accessFlags := 1056
  interfaces := #[]
  cf := some (fileOf pool17 13 #[.nestHost 8] #[{ accessFlags := 0, nameIndex := 5, descriptorIndex := 6, attributes := #[] }] 1056 2 #[] #[])
  fields := #[]
  methods := #[k17m0]
  instanceTypes := #[]
  staticTypes := #[]
  resolved := Array.replicate 56 none
  statics := none }

def pool18 : Array CpInfo := pool [(1, .class_ 2), (0, u "java/util/RandomAccess"), (0, .class_ 4), (0, u "java/lang/Object")] 2

/-- java/util/RandomAccess -/
def k18 : Class := { plain "java/util/RandomAccess" (some 0) with
  accessFlags := 1537
  interfaces := #[]
  cf := some (fileOf pool18 1 #[] #[] 1537 3 #[] #[])
  fields := #[]
  methods := #[]
  instanceTypes := #[]
  staticTypes := #[]
  resolved := Array.replicate 7 none
  statics := none }

def pool19 : Array CpInfo := pool [(1, .methodref 2 3), (0, .class_ 4), (0, .nameAndType 5 6), (0, u "java/util/ImmutableCollections$AbstractImmutableCollection"), (0, u "<init>"), (0, u "()V"), (1, .class_ 10), (1, u "java/util/ImmutableCollections"), (3, .class_ 16), (1, u "java/util/ImmutableCollections$AbstractImmutableList"), (60, .class_ 78), (0, u "java/util/List"), (45, .class_ 125), (0, u "java/util/RandomAccess")] 70

def k19c0 : Code := { maxStack := 1, maxLocals := 1, code := jdk_46_method_1_code, exceptionTable := #[], attributes := #[] }
def k19m0 : Method := { name := "<init>", desc := "()V", sig := { parameters := [], returnType := none }, accessFlags := 0, code := some k19c0 }
/-- java/util/ImmutableCollections$AbstractImmutableList -/
def k19 : Class := { plain "java/util/ImmutableCollections$AbstractImmutableList" (some 17) with
  accessFlags := 1056
  interfaces := #[15, 18]
  cf := some (fileOf pool19 14 #[.nestHost 8] #[{ accessFlags := 0, nameIndex := 5, descriptorIndex := 6, attributes := #[] }] 1056 2 #[77, 124] #[])
  fields := #[]
  methods := #[k19m0]
  instanceTypes := #[]
  staticTypes := #[]
  resolved := Array.replicate 196 none
  statics := none }

def pool20 : Array CpInfo := pool [(1, .methodref 2 3), (0, .class_ 4), (0, .nameAndType 5 6), (0, u "java/util/ImmutableCollections$AbstractImmutableList"), (0, u "<init>"), (0, u "()V"), (0, .methodref 8 9), (0, .class_ 10), (0, .nameAndType 11 12), (0, u "java/util/Objects"), (0, u "requireNonNull"), (0, u "(Ljava/lang/Object;)Ljava/lang/Object;"), (0, .fieldref 14 15), (0, .class_ 16), (0, .nameAndType 17 18), (0, u "java/util/ImmutableCollections$List12"), (0, u "e0"), (0, u "Ljava/lang/Object;"), (0, .fieldref 20 21), (0, .class_ 22), (0, .nameAndType 23 18), (0, u "java/util/ImmutableCollections"), (0, u "EMPTY"), (0, .fieldref 14 25), (0, .nameAndType 26 18), (0, u "e1"), (24, u "size"), (0, u "()I"), (17, .class_ 71), (0, u "java/io/Serializable"), (4, u "(Ljava/lang/Object;)V"), (13, u "get"), (0, u "(I)Ljava/lang/Object;")] 33

def k20c0 : Code := { maxStack := 2, maxLocals := 2, code := jdk_44_method_1_code, exceptionTable := #[], attributes := #[] }
def k20m0 : Method := { name := "<init>", desc := "(Ljava/lang/Object;)V", sig := { parameters := [(.object "java/lang/Object")], returnType := none }, accessFlags := 0, code := some k20c0 }
def k20c1 : Code := { maxStack := 2, maxLocals := 1, code := jdk_44_method_3_code, exceptionTable := #[], attributes := #[] }
def k20m1 : Method := { name := "size", desc := "()I", sig := { parameters := [], returnType := some .int }, accessFlags := 1, code := some k20c1 }
def k20c2 : Code := { maxStack := 2, maxLocals := 2, code := jdk_44_method_5_code, exceptionTable := #[], attributes := #[] }
def k20m2 : Method := { name := "get", desc := "(I)Ljava/lang/Object;", sig := { parameters := [.int], returnType := some (.object "java/lang/Object") }, accessFlags := 1, code := some k20c2 }
/-- java/util/ImmutableCollections$List12 -/
def k20 : Class := { plain "java/util/ImmutableCollections$List12" (some 19) with
  accessFlags := 48
  interfaces := #[2]
  cf := some (fileOf pool20 14 #[.nestHost 20] #[{ accessFlags := 0, nameIndex := 5, descriptorIndex := 76, attributes := #[] }, { accessFlags := 1, nameIndex := 51, descriptorIndex := 52, attributes := #[] }, { accessFlags := 1, nameIndex := 90, descriptorIndex := 91, attributes := #[] }] 48 2 #[70] #[{ accessFlags := 18, nameIndex := 17, descriptorIndex := 18, attributes := #[] }, { accessFlags := 18, nameIndex := 26, descriptorIndex := 18, attributes := #[] }])
  fields := #[{ name := "e0", type := (.object "java/lang/Object"), accessFlags := 18, slot := 0, constantValue := 0 }, { name := "e1", type := (.object "java/lang/Object"), accessFlags := 18, slot := 1, constantValue := 0 }]
  methods := #[k20m0, k20m1, k20m2]
  instanceTypes := #[(.object "java/lang/Object"), (.object "java/lang/Object")]
  staticTypes := #[]
  resolved := Array.replicate 125 none
  statics := none }

def pool21 : Array CpInfo := pool [(2, .class_ 4), (1, u "java/lang/Object"), (0, u "<init>"), (0, u "()V"), (35, .class_ 44), (1, u "java/util/Objects"), (0, u "requireNonNull"), (0, u "(Ljava/lang/Object;)Ljava/lang/Object;")] 137

def k21m0 : Method := { name := "<init>", desc := "()V", sig := { parameters := [], returnType := none }, accessFlags := 2, code := none }
def k21c1 : Code := { maxStack := 2, maxLocals := 1, code := jdk_31_method_10_code, exceptionTable := #[], attributes := #[] }
def k21m1 : Method := { name := "requireNonNull", desc := "(Ljava/lang/Object;)Ljava/lang/Object;", sig := { parameters := [(.object "java/lang/Object")], returnType := some (.object "java/lang/Object") }, accessFlags := 9, code := some k21c1 }
/-- java/util/Objects -/
def k21 : Class := { plain "java/util/Objects" (some 0) with
  accessFlags := 49
  interfaces := #[]
  cf := some (fileOf pool21 42 #[] #[{ accessFlags := 2, nameIndex := 5, descriptorIndex := 6, attributes := #[] }, { accessFlags := 9, nameIndex := 45, descriptorIndex := 46, attributes := #[] }] 49 2 #[] #[])
  fields := #[]
  methods := #[k21m0, k21m1]
  instanceTypes := #[]
  staticTypes := #[]
  resolved := Array.replicate 184 none
  statics := none }

def pool22 : Array CpInfo := pool [(4, .class_ 6), (1, u "java/lang/Object"), (0, u "<init>"), (0, u "()V"), (5, .class_ 16), (1, u "java/lang/StringLatin1"), (104, u "$assertionsDisabled"), (0, u "Z"), (98, .class_ 223), (1, u "java/lang/StringLatin1$LinesSpliterator"), (166, .class_ 391), (0, u "java/lang/StringLatin1$CharsSpliterator")] 3

def k22m0 : Method := { name := "<init>", desc := "()V", sig := { parameters := [], returnType := none }, accessFlags := 0, code := none }
/-- java/lang/StringLatin1 -/
def k22 : Class := { plain "java/lang/StringLatin1" (some 0) with
  accessFlags := 48
  interfaces := #[]
  cf := some (fileOf pool22 14 #[.nestMembers #[390, 221]] #[{ accessFlags := 0, nameIndex := 7, descriptorIndex := 8, attributes := #[] }] 48 4 #[] #[{ accessFlags := 4120, nameIndex := 121, descriptorIndex := 122, attributes := #[] }])
  fields := #[{ name := "$assertionsDisabled", type := .boolean, accessFlags := 4120, slot := 0, constantValue := 0 }]
  methods := #[k22m0]
  instanceTypes := #[]
  staticTypes := #[.boolean]
  resolved := Array.replicate 395 none
  statics := none }

def pool23 : Array CpInfo := pool [(2, .class_ 4), (1, u "java/lang/Object"), (0, u "<init>"), (0, u "()V"), (17, .class_ 26), (1, u "jdk/internal/util/Preconditions"), (28, .class_ 56), (0, u "jdk/internal/util/Preconditions$4"), (57, .class_ 115), (0, u "jdk/internal/util/Preconditions$1"), (7, u "SIOOBE_FORMATTER"), (0, u "Ljava/util/function/BiFunction;"), (0, .class_ 126), (0, u "jdk/internal/util/Preconditions$2"), (3, u "AIOOBE_FORMATTER"), (0, .class_ 132), (0, u "jdk/internal/util/Preconditions$3"), (3, u "IOOBE_FORMATTER")] 57

def k23m0 : Method := { name := "<init>", desc := "()V", sig := { parameters := [], returnType := none }, accessFlags := 1, code := none }
/-- jdk/internal/util/Preconditions -/
def k23 : Class := { plain "jdk/internal/util/Preconditions" (some 0) with
  accessFlags := 33
  interfaces := #[]
  cf := some (fileOf pool23 24 #[.nestMembers #[55, 131, 125, 114]] #[{ accessFlags := 1, nameIndex := 5, descriptorIndex := 6, attributes := #[] }] 33 2 #[] #[{ accessFlags := 25, nameIndex := 123, descriptorIndex := 124, attributes := #[] }, { accessFlags := 25, nameIndex := 130, descriptorIndex := 124, attributes := #[] }, { accessFlags := 25, nameIndex := 136, descriptorIndex := 124, attributes := #[] }])
  fields := #[{ name := "SIOOBE_FORMATTER", type := (.object "java/util/function/BiFunction"), accessFlags := 25, slot := 0, constantValue := 0 }, { name := "AIOOBE_FORMATTER", type := (.object "java/util/function/BiFunction"), accessFlags := 25, slot := 1, constantValue := 0 }, { name := "IOOBE_FORMATTER", type := (.object "java/util/function/BiFunction"), accessFlags := 25, slot := 2, constantValue := 0 }]
  methods := #[k23m0]
  instanceTypes := #[]
  staticTypes := #[(.object "java/util/function/BiFunction"), (.object "java/util/function/BiFunction"), (.object "java/util/function/BiFunction")]
  resolved := Array.replicate 194 none
  statics := some 2 }

def pool24 : Array CpInfo := pool [(9, u "<init>"), (6, .class_ 18), (1, u "java/lang/Object"), (0, u "()V"), (1, .class_ 23), (1, u "jdk/internal/util/ArraysSupport"), (0, u "LOG2_ARRAY_LONG_INDEX_SCALE"), (0, u "I"), (2, u "U"), (0, u "Ljdk/internal/misc/Unsafe;"), (8, u "BIG_ENDIAN"), (0, u "Z"), (8, u "LOG2_BYTE_BIT_SIZE"), (4, u "LOG2_ARRAY_INT_INDEX_SCALE"), (54, u "JLA"), (0, u "Ljdk/internal/access/JavaLangAccess;"), (11, u "LOG2_ARRAY_BOOLEAN_INDEX_SCALE"), (9, u "LOG2_ARRAY_BYTE_INDEX_SCALE"), (5, u "LOG2_ARRAY_CHAR_INDEX_SCALE"), (5, u "LOG2_ARRAY_SHORT_INDEX_SCALE"), (18, u "LOG2_ARRAY_FLOAT_INDEX_SCALE"), (24, u "LOG2_ARRAY_DOUBLE_INDEX_SCALE"), (89, u "T_BOOLEAN"), (2, u "T_CHAR"), (1, u "T_FLOAT"), (1, u "T_DOUBLE"), (1, u "T_BYTE"), (1, u "T_SHORT"), (1, u "T_INT"), (1, u "T_LONG"), (1, u "SOFT_MAX_ARRAY_LENGTH")] 83

def k24m0 : Method := { name := "<init>", desc := "()V", sig := { parameters := [], returnType := none }, accessFlags := 2, code := none }
/-- jdk/internal/util/ArraysSupport -/
def k24 : Class := { plain "jdk/internal/util/ArraysSupport" (some 0) with
  accessFlags := 33
  interfaces := #[]
  cf := some (fileOf pool24 21 #[] #[{ accessFlags := 2, nameIndex := 9, descriptorIndex := 19, attributes := #[] }] 33 16 #[] #[{ accessFlags := 24, nameIndex := 28, descriptorIndex := 29, attributes := #[] }, { accessFlags := 26, nameIndex := 38, descriptorIndex := 39, attributes := #[] }, { accessFlags := 25, nameIndex := 121, descriptorIndex := 25, attributes := #[] }, { accessFlags := 25, nameIndex := 131, descriptorIndex := 25, attributes := #[] }, { accessFlags := 25, nameIndex := 137, descriptorIndex := 25, attributes := #[] }, { accessFlags := 25, nameIndex := 143, descriptorIndex := 25, attributes := #[] }, { accessFlags := 25, nameIndex := 53, descriptorIndex := 25, attributes := #[] }, { accessFlags := 25, nameIndex := 24, descriptorIndex := 25, attributes := #[] }, { accessFlags := 25, nameIndex := 162, descriptorIndex := 25, attributes := #[] }, { accessFlags := 25, nameIndex := 187, descriptorIndex := 25, attributes := #[] }, { accessFlags := 26, nameIndex := 48, descriptorIndex := 25, attributes := #[] }, { accessFlags := 25, nameIndex := 277, descriptorIndex := 25, attributes := #[] }, { accessFlags := 25, nameIndex := 280, descriptorIndex := 25, attributes := #[] }, { accessFlags := 25, nameIndex := 282, descriptorIndex := 25, attributes := #[] }, { accessFlags := 25, nameIndex := 284, descriptorIndex := 25, attributes := #[] }, { accessFlags := 25, nameIndex := 286, descriptorIndex := 25, attributes := #[] }, { accessFlags := 25, nameIndex := 288, descriptorIndex := 25, attributes := #[] }, { accessFlags := 25, nameIndex := 290, descriptorIndex := 25, attributes := #[] }, { accessFlags := 25, nameIndex := 292, descriptorIndex := 25, attributes := #[] }, { accessFlags := 26, nameIndex := 108, descriptorIndex := 109, attributes := #[] }, { accessFlags := 25, nameIndex := 294, descriptorIndex := 25, attributes := #[] }])
  fields := #[{ name := "U", type := (.object "jdk/internal/misc/Unsafe"), accessFlags := 24, slot := 0, constantValue := 0 }, { name := "BIG_ENDIAN", type := .boolean, accessFlags := 26, slot := 1, constantValue := 0 }, { name := "LOG2_ARRAY_BOOLEAN_INDEX_SCALE", type := .int, accessFlags := 25, slot := 2, constantValue := 0 }, { name := "LOG2_ARRAY_BYTE_INDEX_SCALE", type := .int, accessFlags := 25, slot := 3, constantValue := 0 }, { name := "LOG2_ARRAY_CHAR_INDEX_SCALE", type := .int, accessFlags := 25, slot := 4, constantValue := 0 }, { name := "LOG2_ARRAY_SHORT_INDEX_SCALE", type := .int, accessFlags := 25, slot := 5, constantValue := 0 }, { name := "LOG2_ARRAY_INT_INDEX_SCALE", type := .int, accessFlags := 25, slot := 6, constantValue := 0 }, { name := "LOG2_ARRAY_LONG_INDEX_SCALE", type := .int, accessFlags := 25, slot := 7, constantValue := 0 }, { name := "LOG2_ARRAY_FLOAT_INDEX_SCALE", type := .int, accessFlags := 25, slot := 8, constantValue := 0 }, { name := "LOG2_ARRAY_DOUBLE_INDEX_SCALE", type := .int, accessFlags := 25, slot := 9, constantValue := 0 }, { name := "LOG2_BYTE_BIT_SIZE", type := .int, accessFlags := 26, slot := 10, constantValue := 0 }, { name := "T_BOOLEAN", type := .int, accessFlags := 25, slot := 11, constantValue := 0 }, { name := "T_CHAR", type := .int, accessFlags := 25, slot := 12, constantValue := 0 }, { name := "T_FLOAT", type := .int, accessFlags := 25, slot := 13, constantValue := 0 }, { name := "T_DOUBLE", type := .int, accessFlags := 25, slot := 14, constantValue := 0 }, { name := "T_BYTE", type := .int, accessFlags := 25, slot := 15, constantValue := 0 }, { name := "T_SHORT", type := .int, accessFlags := 25, slot := 16, constantValue := 0 }, { name := "T_INT", type := .int, accessFlags := 25, slot := 17, constantValue := 0 }, { name := "T_LONG", type := .int, accessFlags := 25, slot := 18, constantValue := 0 }, { name := "JLA", type := (.object "jdk/internal/access/JavaLangAccess"), accessFlags := 26, slot := 19, constantValue := 0 }, { name := "SOFT_MAX_ARRAY_LENGTH", type := .int, accessFlags := 25, slot := 20, constantValue := 0 }]
  methods := #[k24m0]
  instanceTypes := #[]
  staticTypes := #[(.object "jdk/internal/misc/Unsafe"), .boolean, .int, .int, .int, .int, .int, .int, .int, .int, .int, .int, .int, .int, .int, .int, .int, .int, .int, (.object "jdk/internal/access/JavaLangAccess"), .int]
  resolved := Array.replicate 378 none
  statics := none }

def pool25 : Array CpInfo := pool [(2, .class_ 4), (1, u "java/lang/Object"), (0, u "<init>"), (0, u "()V"), (1, .class_ 10), (1, u "java/util/AbstractMap"), (42, .class_ 54), (0, u "java/util/Map"), (9, u "keySet"), (0, u "Ljava/util/Set;"), (0, .class_ 67), (0, u "java/util/AbstractMap$1"), (5, u "values"), (0, u "Ljava/util/Collection;"), (0, .class_ 76), (0, u "java/util/AbstractMap$2"), (104, .class_ 182), (0, u "java/util/AbstractMap$ViewCollection"), (0, .class_ 184), (0, u "java/util/AbstractMap$SimpleImmutableEntry"), (0, .class_ 186), (0, u "java/util/AbstractMap$SimpleEntry"), (0, .class_ 188), (0, u "java/util/AbstractMap$2$1"), (0, .class_ 190), (0, u "java/util/AbstractMap$1$1")] 5

def k25m0 : Method := { name := "<init>", desc := "()V", sig := { parameters := [], returnType := none }, accessFlags := 4, code := none }
/-- java/util/AbstractMap -/
def k25 : Class := { plain "java/util/AbstractMap" (some 0) with
  accessFlags := 1057
  interfaces := #[10]
  cf := some (fileOf pool25 8 #[.nestMembers #[181, 183, 185, 75, 187, 66, 189]] #[{ accessFlags := 4, nameIndex := 5, descriptorIndex := 6, attributes := #[] }] 1057 2 #[53] #[{ accessFlags := 128, nameIndex := 64, descriptorIndex := 65, attributes := #[] }, { accessFlags := 128, nameIndex := 73, descriptorIndex := 74, attributes := #[] }])
  fields := #[{ name := "keySet", type := (.object "java/util/Set"), accessFlags := 128, slot := 0, constantValue := 0 }, { name := "values", type := (.object "java/util/Collection"), accessFlags := 128, slot := 1, constantValue := 0 }]
  methods := #[k25m0]
  instanceTypes := #[(.object "java/util/Set"), (.object "java/util/Collection")]
  staticTypes := #[]
  resolved := Array.replicate 196 none
  statics := none }

def pool26 : Array CpInfo := pool [(2, .class_ 4), (1, u "java/util/AbstractMap"), (0, u "<init>"), (0, u "()V"), (1, .class_ 10), (1, u "java/util/ImmutableCollections"), (3, .class_ 16), (1, u "java/util/ImmutableCollections$AbstractImmutableMap"), (2, .class_ 20), (0, u "java/io/Serializable")] 66

def k26m0 : Method := { name := "<init>", desc := "()V", sig := { parameters := [], returnType := none }, accessFlags := 0, code := none }
/-- java/util/ImmutableCollections$AbstractImmutableMap -/
def k26 : Class := { plain "java/util/ImmutableCollections$AbstractImmutableMap" (some 25) with
  accessFlags := 1056
  interfaces := #[2]
  cf := some (fileOf pool26 14 #[.nestHost 8] #[{ accessFlags := 0, nameIndex := 5, descriptorIndex := 6, attributes := #[] }] 1056 2 #[19] #[])
  fields := #[]
  methods := #[k26m0]
  instanceTypes := #[(.object "java/util/Set"), (.object "java/util/Collection")]
  staticTypes := #[]
  resolved := Array.replicate 87 none
  statics := none }

def pool27 : Array CpInfo := pool [(1, .class_ 2), (0, u "java/util/ImmutableCollections"), (1, .class_ 6), (1, u "java/util/ImmutableCollections$AbstractImmutableMap"), (10, .class_ 19), (1, u "java/util/ImmutableCollections$MapN"), (0, u "size"), (0, u "I"), (4, u "table"), (0, u "[Ljava/lang/Object;")] 121

/-- java/util/ImmutableCollections$MapN -/
def k27 : Class := { plain "java/util/ImmutableCollections$MapN" (some 26) with
  accessFlags := 48
  interfaces := #[]
  cf := some (fileOf pool27 17 #[.nestHost 1] #[] 48 4 #[] #[{ accessFlags := 16, nameIndex := 26, descriptorIndex := 27, attributes := #[] }, { accessFlags := 16, nameIndex := 20, descriptorIndex := 21, attributes := #[] }])
  fields := #[{ name := "table", type := (.array (.object "java/lang/Object")), accessFlags := 16, slot := 2, constantValue := 0 }, { name := "size", type := .int, accessFlags := 16, slot := 3, constantValue := 0 }]
  methods := #[]
  instanceTypes := #[(.object "java/util/Set"), (.object "java/util/Collection"), (.array (.object "java/lang/Object")), .int]
  staticTypes := #[]
  resolved := Array.replicate 149 none
  statics := none }

def pool28 : Array CpInfo := pool [(2, .class_ 4), (1, u "java/util/ImmutableCollections$AbstractImmutableList"), (3, .class_ 10), (1, u "java/util/ImmutableCollections$ListN"), (0, u "elements"), (0, u "[Ljava/lang/Object;"), (2, u "allowNulls"), (0, u "Z"), (42, .class_ 60), (0, u "java/io/Serializable"), (53, .class_ 115), (0, u "java/util/ImmutableCollections")] 3

/-- java/util/ImmutableCollections$ListN -/
def k28 : Class := { plain "java/util/ImmutableCollections$ListN" (some 19) with
  accessFlags := 48
  interfaces := #[2]
  cf := some (fileOf pool28 8 #[.nestHost 114] #[] 48 2 #[59] #[{ accessFlags := 18, nameIndex := 11, descriptorIndex := 12, attributes := #[] }, { accessFlags := 18, nameIndex := 15, descriptorIndex := 16, attributes := #[] }])
  fields := #[{ name := "elements", type := (.array (.object "java/lang/Object")), accessFlags := 18, slot := 0, constantValue := 0 }, { name := "allowNulls", type := .boolean, accessFlags := 18, slot := 1, constantValue := 0 }]
  methods := #[]
  instanceTypes := #[(.array (.object "java/lang/Object")), .boolean]
  staticTypes := #[]
  resolved := Array.replicate 119 none
  statics := none }

def pool29 : Array CpInfo := pool [(1, u "java/lang/Cloneable"), (0, .class_ 1), (0, u "java/lang/Object"), (0, .class_ 3)] 3

/-- java/lang/Cloneable -/
def k29 : Class := { plain "java/lang/Cloneable" (some 0) with
  accessFlags := 1537
  interfaces := #[]
  cf := some (fileOf pool29 2 #[] #[] 1537 4 #[] #[])
  fields := #[]
  methods := #[]
  instanceTypes := #[]
  staticTypes := #[]
  resolved := Array.replicate 8 none
  statics := none }

/-- the primitive byte -/
def k30 : Class := { plain "byte" none with kind := .primitive 'B', accessFlags := 0x411 }
/-- [B -/
def k31 : Class := { plain "[B" (some 0) with kind := .array 30 .byte, interfaces := #[29, 2], accessFlags := 1041 }

/-- the primitive char -/
def k32 : Class := { plain "char" none with kind := .primitive 'C', accessFlags := 0x411 }
/-- [C -/
def k33 : Class := { plain "[C" (some 0) with kind := .array 32 .char, interfaces := #[29, 2], accessFlags := 1041 }

/-- the primitive int -/
def k34 : Class := { plain "int" none with kind := .primitive 'I', accessFlags := 0x411 }
/-- [I -/
def k35 : Class := { plain "[I" (some 0) with kind := .array 34 .int, interfaces := #[29, 2], accessFlags := 1041 }

/-- [Ljava/lang/Object; -/
def k36 : Class := { plain "[Ljava/lang/Object;" (some 0) with kind := .array 0 (.object "java/lang/Object"), interfaces := #[29, 2], accessFlags := 1041 }

def heap : Heap := #[{ cls := 7, slots := #[.long 0, .int 1, .null, .int 0, .null, .int 0, .int 0], vm := .statics 7 },
  { cls := 11, slots := #[.long 0, .int 0, .null, .ref 5, .ref 6, .null, .null, .ref 4, .int 0, .int 1], vm := .statics 11 },
  { cls := 23, slots := #[.null, .null, .null], vm := .statics 23 },
  { cls := 36, slots := #[], vm := .none },
  { cls := 27, slots := #[.null, .null, .ref 3, .int 0], vm := .none },
  { cls := 0, slots := #[], vm := .none },
  { cls := 28, slots := #[.null, .int 0], vm := .none }]
def classes : Array Class := #[k0, k1, k2, k3, k4, k5, k6, k7, k8, k9, k10, k11, k12, k13, k14, k15, k16, k17, k18, k19, k20, k21, k22, k23, k24, k25, k26, k27, k28, k29, k30, k31, k32, k33, k34, k35, k36]
def interned : List (Array UInt16 × Addr) := []
def slotsUsed : Nat := 26
def theMethod : MethodId := ⟨1, 1⟩
def args0 : Array Value := #[.int 5, .int 5, .int 5, .int 5, .int 5, .int 5]
def aboutOver (below : List Frame) : State where
  vm := { classes := classes, interned := interned.toArray }
  heap := heap
  slotsUsed := slotsUsed
  threads := #[{ frames := .invoking theMethod args0 :: below }]
def below0 : List Frame := [.native { method := ⟨0, 0⟩, args := #[] }]
def about1 : State := aboutOver below0
def p0 : Program := .bare "" "" ""
def e0 : Env := launch0.env 0 0 0
theorem w_frames : about1.frames = Frame.invoking theMethod args0 :: below0 := rfl
set_option maxRecDepth 65536 in
theorem w_args : argsFit about1.vm theMethod args0 = true := by decide +kernel
set_option maxRecDepth 65536 in
theorem w_heap : heapFits about1 = true := by decide +kernel
set_option maxRecDepth 65536 in
theorem w_runnable : about1.curStatus? = some .runnable := by decide +kernel
set_option maxRecDepth 65536 in
theorem w_alone : about1.alone = true := by decide +kernel
set_option maxRecDepth 65536 in
theorem w_named : about1.methodNamed? x = some theMethod := by decide +kernel
set_option maxRecDepth 65536 in
theorem w_hears : about1.hears theMethod below0 = true := by decide +kernel
set_option maxRecDepth 65536 in
theorem w_ripe : about1.ripe theMethod args0 below0 = true := by decide +kernel
theorem w_running : about1.status = .running := rfl
set_option maxRecDepth 65536 in
theorem w_room : about1.hasRoom e0.platform room_1 = true :=
  launch0.hasRoom_least _ room_1 (by decide +kernel) (by decide +kernel) (by decide +kernel) (by decide +kernel) (by decide +kernel) (by decide +kernel)
theorem allAtoms_all (ts : List Jvm.Cond) (a : Array Jvm.Value) (st : Jvm.State) : (allAtoms ts).before a st = ts.all (fun c => c.before a st) := by
  induction ts with
  | nil => rfl
  | cons c t ih =>
    show (Jvm.Cond.and c (allAtoms t)).before a st = _
    rw [Jvm.Cond.before_and, ih, List.all_cons]
def words1 : List Jvm.Cond := Jvm.Cond.code x code maxLocals ret :: tables_1
/-- a 'code' word, met by the world's own term for the bytes: nothing is compared byte by byte -/
theorem code_word {y : MethodName} {bytes : ByteArray} {mx : Nat} {rt : Option FieldType} {a : Array Value} {s : State} {m : MethodId} {meth : Method} {c : Code} (h1 : s.methodNamed? y = some m) (h2 : s.vm.method? m = some meth) (h3 : meth.code = some c) (h4 : c.code = bytes)
    (h5 : (c.maxLocals == mx && c.exceptionTable.isEmpty && decide (c.maxStack ≤ mostOperands) && decide (meth.sig.returnType = rt) && !meth.locks && decide (parseMethodDescriptor y.desc = some meth.sig)) = true) : (Jvm.Cond.code y bytes mx rt).before a s = true := by
  simp only [Bool.and_eq_true, beq_iff_eq, Bool.not_eq_true', decide_eq_true_eq] at h5
  obtain ⟨⟨⟨⟨⟨g1, g2⟩, g3⟩, g4⟩, g5⟩, g6⟩ := h5
  simp [Cond.before, Cond.holds, Cond.value, h1, h2, h3, h4, g1, g2, g3, g4, g5, g6]
def isCode : Jvm.Cond → Bool
  | .code _ _ _ _ => true
  | _ => false
theorem all_split {L : List Jvm.Cond} {P : Jvm.Cond → Bool} (h1 : L.all (fun c => isCode c || P c) = true) (h2 : ∀ c ∈ L.filter isCode, P c = true) : L.all P = true := by
  refine List.all_eq_true.mpr fun c hc => ?_
  have h := List.all_eq_true.mp h1 c hc
  rcases Bool.eq_false_or_eq_true (isCode c) with hi | hi
  · exact h2 c (List.mem_filter.mpr ⟨hc, hi⟩)
  · simpa [hi] using h
set_option maxRecDepth 65536 in
theorem w_c0 : (Jvm.Cond.code x code maxLocals ret).before args0 about1 = true := code_word (m := ⟨1, 1⟩) (meth := k1m1) (c := k1c1) (by decide +kernel) rfl rfl rfl (by decide +kernel)
set_option maxRecDepth 65536 in
theorem w_c1 : (Jvm.Cond.code ({ cls := "com/example/bunsan/bunsan/PartitionWholePinLaw", name := "str", desc := "(IIII)Ljava/lang/String;" } : Jvm.MethodName) method_3_code (5 : Nat) (Option.some (Jvm.ClassFile.FieldType.object "java/lang/String"))).before args0 about1 = true := code_word (m := ⟨1, 2⟩) (meth := k1m2) (c := k1c2) (by decide +kernel) rfl rfl rfl (by decide +kernel)
set_option maxRecDepth 65536 in
theorem w_c2 : (Jvm.Cond.code ({ cls := "java/lang/String", name := "<init>", desc := "([C)V" } : Jvm.MethodName) jdk_42_method_3_code (2 : Nat) (Option.none : Option Jvm.ClassFile.FieldType)).before args0 about1 = true := code_word (m := ⟨7, 1⟩) (meth := k7m1) (c := k7c1) (by decide +kernel) rfl rfl rfl (by decide +kernel)
set_option maxRecDepth 65536 in
theorem w_c3 : (Jvm.Cond.code ({ cls := "java/lang/String", name := "<init>", desc := "([CIILjava/lang/Void;)V" } : Jvm.MethodName) jdk_42_method_149_code (6 : Nat) (Option.none : Option Jvm.ClassFile.FieldType)).before args0 about1 = true := code_word (m := ⟨7, 3⟩) (meth := k7m3) (c := k7c3) (by decide +kernel) rfl rfl rfl (by decide +kernel)
set_option maxRecDepth 65536 in
theorem w_c4 : (Jvm.Cond.code ({ cls := "java/lang/Object", name := "<init>", desc := "()V" } : Jvm.MethodName) object_method_1_code (1 : Nat) (Option.none : Option Jvm.ClassFile.FieldType)).before args0 about1 = true := code_word (m := ⟨0, 0⟩) (meth := k0m0) (c := k0c0) (by decide +kernel) rfl rfl rfl (by decide +kernel)
set_option maxRecDepth 65536 in
theorem w_c5 : (Jvm.Cond.code ({ cls := "java/lang/StringUTF16", name := "compress", desc := "([CII)[B" } : Jvm.MethodName) jdk_52_method_16_code (6 : Nat) (Option.some (Jvm.ClassFile.FieldType.array Jvm.ClassFile.FieldType.byte))).before args0 about1 = true := code_word (m := ⟨8, 2⟩) (meth := k8m2) (c := k8c2) (by decide +kernel) rfl rfl rfl (by decide +kernel)
set_option maxRecDepth 65536 in
theorem w_c6 : (Jvm.Cond.code ({ cls := "java/lang/StringUTF16", name := "compress", desc := "([CI[BII)I" } : Jvm.MethodName) jdk_52_method_21_code (7 : Nat) (Option.some Jvm.ClassFile.FieldType.int)).before args0 about1 = true := code_word (m := ⟨8, 3⟩) (meth := k8m3) (c := k8c3) (by decide +kernel) rfl rfl rfl (by decide +kernel)
set_option maxRecDepth 65536 in
theorem w_c7 : (Jvm.Cond.code ({ cls := "java/lang/StringUTF16", name := "coderFromArrayLen", desc := "([BI)B" } : Jvm.MethodName) jdk_52_method_15_code (2 : Nat) (Option.some Jvm.ClassFile.FieldType.byte)).before args0 about1 = true := code_word (m := ⟨8, 1⟩) (meth := k8m1) (c := k8c1) (by decide +kernel) rfl rfl rfl (by decide +kernel)
set_option maxRecDepth 65536 in
theorem w_c8 : (Jvm.Cond.code ({ cls := "com/example/bunsan/bunsan/Partition", name := "whole", desc := "(Ljava/lang/String;)Lcom/example/bunsan/bunsan/Partition;" } : Jvm.MethodName) prog_34_method_3_code (1 : Nat) (Option.some (Jvm.ClassFile.FieldType.object "com/example/bunsan/bunsan/Partition"))).before args0 about1 = true := code_word (m := ⟨9, 1⟩) (meth := k9m1) (c := k9c1) (by decide +kernel) rfl rfl rfl (by decide +kernel)
set_option maxRecDepth 65536 in
theorem w_c9 : (Jvm.Cond.code ({ cls := "java/util/Map", name := "of", desc := "()Ljava/util/Map;" } : Jvm.MethodName) jdk_72_method_26_code (0 : Nat) (Option.some (Jvm.ClassFile.FieldType.object "java/util/Map"))).before args0 about1 = true := code_word (m := ⟨10, 0⟩) (meth := k10m0) (c := k10c0) (by decide +kernel) rfl rfl rfl (by decide +kernel)
set_option maxRecDepth 65536 in
theorem w_c10 : (Jvm.Cond.code ({ cls := "java/util/List", name := "of", desc := "(Ljava/lang/Object;)Ljava/util/List;" } : Jvm.MethodName) jdk_40_method_37_code (1 : Nat) (Option.some (Jvm.ClassFile.FieldType.object "java/util/List"))).before args0 about1 = true := code_word (m := ⟨15, 2⟩) (meth := k15m2) (c := k15c2) (by decide +kernel) rfl rfl rfl (by decide +kernel)
set_option maxRecDepth 65536 in
theorem w_c11 : (Jvm.Cond.code ({ cls := "java/util/ImmutableCollections$List12", name := "<init>", desc := "(Ljava/lang/Object;)V" } : Jvm.MethodName) jdk_44_method_1_code (2 : Nat) (Option.none : Option Jvm.ClassFile.FieldType)).before args0 about1 = true := code_word (m := ⟨20, 0⟩) (meth := k20m0) (c := k20c0) (by decide +kernel) rfl rfl rfl (by decide +kernel)
set_option maxRecDepth 65536 in
theorem w_c12 : (Jvm.Cond.code ({ cls := "java/util/ImmutableCollections$AbstractImmutableList", name := "<init>", desc := "()V" } : Jvm.MethodName) jdk_46_method_1_code (1 : Nat) (Option.none : Option Jvm.ClassFile.FieldType)).before args0 about1 = true := code_word (m := ⟨19, 0⟩) (meth := k19m0) (c := k19c0) (by decide +kernel) rfl rfl rfl (by decide +kernel)
set_option maxRecDepth 65536 in
theorem w_c13 : (Jvm.Cond.code ({ cls := "java/util/ImmutableCollections$AbstractImmutableCollection", name := "<init>", desc := "()V" } : Jvm.MethodName) jdk_47_method_1_code (1 : Nat) (Option.none : Option Jvm.ClassFile.FieldType)).before args0 about1 = true := code_word (m := ⟨17, 0⟩) (meth := k17m0) (c := k17c0) (by decide +kernel) rfl rfl rfl (by decide +kernel)
set_option maxRecDepth 65536 in
theorem w_c14 : (Jvm.Cond.code ({ cls := "java/util/AbstractCollection", name := "<init>", desc := "()V" } : Jvm.MethodName) jdk_22_method_1_code (1 : Nat) (Option.none : Option Jvm.ClassFile.FieldType)).before args0 about1 = true := code_word (m := ⟨16, 0⟩) (meth := k16m0) (c := k16c0) (by decide +kernel) rfl rfl rfl (by decide +kernel)
set_option maxRecDepth 65536 in
theorem w_c15 : (Jvm.Cond.code ({ cls := "java/util/Objects", name := "requireNonNull", desc := "(Ljava/lang/Object;)Ljava/lang/Object;" } : Jvm.MethodName) jdk_31_method_10_code (1 : Nat) (Option.some (Jvm.ClassFile.FieldType.object "java/lang/Object"))).before args0 about1 = true := code_word (m := ⟨21, 1⟩) (meth := k21m1) (c := k21c1) (by decide +kernel) rfl rfl rfl (by decide +kernel)
set_option maxRecDepth 65536 in
theorem w_c16 : (Jvm.Cond.code ({ cls := "com/example/bunsan/bunsan/Partition", name := "<init>", desc := "(Ljava/util/Map;Ljava/lang/String;Ljava/util/List;Ljava/util/Map;)V" } : Jvm.MethodName) prog_34_method_1_code (5 : Nat) (Option.none : Option Jvm.ClassFile.FieldType)).before args0 about1 = true := code_word (m := ⟨9, 0⟩) (meth := k9m0) (c := k9c0) (by decide +kernel) rfl rfl rfl (by decide +kernel)
set_option maxRecDepth 65536 in
theorem w_c17 : (Jvm.Cond.code ({ cls := "com/example/bunsan/bunsan/Partition", name := "collectionOf", desc := "(Ljava/lang/String;)Ljava/lang/String;" } : Jvm.MethodName) prog_34_method_4_code (2 : Nat) (Option.some (Jvm.ClassFile.FieldType.object "java/lang/String"))).before args0 about1 = true := code_word (m := ⟨9, 2⟩) (meth := k9m2) (c := k9c2) (by decide +kernel) rfl rfl rfl (by decide +kernel)
set_option maxRecDepth 65536 in
theorem w_c18 : (Jvm.Cond.code ({ cls := "com/example/bunsan/bunsan/Partition", name := "collections", desc := "()Ljava/util/List;" } : Jvm.MethodName) prog_34_method_6_code (1 : Nat) (Option.some (Jvm.ClassFile.FieldType.object "java/util/List"))).before args0 about1 = true := code_word (m := ⟨9, 3⟩) (meth := k9m3) (c := k9c3) (by decide +kernel) rfl rfl rfl (by decide +kernel)
set_option maxRecDepth 65536 in
theorem w_c19 : (Jvm.Cond.code ({ cls := "java/lang/String", name := "equals", desc := "(Ljava/lang/Object;)Z" } : Jvm.MethodName) jdk_42_method_66_code (3 : Nat) (Option.some Jvm.ClassFile.FieldType.boolean)).before args0 about1 = true := code_word (m := ⟨7, 2⟩) (meth := k7m2) (c := k7c2) (by decide +kernel) rfl rfl rfl (by decide +kernel)
set_option maxRecDepth 65536 in
theorem w_c20 : (Jvm.Cond.code ({ cls := "java/util/ImmutableCollections$List12", name := "size", desc := "()I" } : Jvm.MethodName) jdk_44_method_3_code (1 : Nat) (Option.some Jvm.ClassFile.FieldType.int)).before args0 about1 = true := code_word (m := ⟨20, 1⟩) (meth := k20m1) (c := k20c1) (by decide +kernel) rfl rfl rfl (by decide +kernel)
set_option maxRecDepth 65536 in
theorem w_c21 : (Jvm.Cond.code ({ cls := "java/util/ImmutableCollections$List12", name := "get", desc := "(I)Ljava/lang/Object;" } : Jvm.MethodName) jdk_44_method_5_code (2 : Nat) (Option.some (Jvm.ClassFile.FieldType.object "java/lang/Object"))).before args0 about1 = true := code_word (m := ⟨20, 2⟩) (meth := k20m2) (c := k20c2) (by decide +kernel) rfl rfl rfl (by decide +kernel)
def codes1 : List Jvm.Cond := [Jvm.Cond.code x code maxLocals ret, Jvm.Cond.code ({ cls := "com/example/bunsan/bunsan/PartitionWholePinLaw", name := "str", desc := "(IIII)Ljava/lang/String;" } : Jvm.MethodName) method_3_code (5 : Nat) (Option.some (Jvm.ClassFile.FieldType.object "java/lang/String")), Jvm.Cond.code ({ cls := "java/lang/String", name := "<init>", desc := "([C)V" } : Jvm.MethodName) jdk_42_method_3_code (2 : Nat) (Option.none : Option Jvm.ClassFile.FieldType), Jvm.Cond.code ({ cls := "java/lang/String", name := "<init>", desc := "([CIILjava/lang/Void;)V" } : Jvm.MethodName) jdk_42_method_149_code (6 : Nat) (Option.none : Option Jvm.ClassFile.FieldType), Jvm.Cond.code ({ cls := "java/lang/Object", name := "<init>", desc := "()V" } : Jvm.MethodName) object_method_1_code (1 : Nat) (Option.none : Option Jvm.ClassFile.FieldType), Jvm.Cond.code ({ cls := "java/lang/StringUTF16", name := "compress", desc := "([CII)[B" } : Jvm.MethodName) jdk_52_method_16_code (6 : Nat) (Option.some (Jvm.ClassFile.FieldType.array Jvm.ClassFile.FieldType.byte)), Jvm.Cond.code ({ cls := "java/lang/StringUTF16", name := "compress", desc := "([CI[BII)I" } : Jvm.MethodName) jdk_52_method_21_code (7 : Nat) (Option.some Jvm.ClassFile.FieldType.int), Jvm.Cond.code ({ cls := "java/lang/StringUTF16", name := "coderFromArrayLen", desc := "([BI)B" } : Jvm.MethodName) jdk_52_method_15_code (2 : Nat) (Option.some Jvm.ClassFile.FieldType.byte), Jvm.Cond.code ({ cls := "com/example/bunsan/bunsan/Partition", name := "whole", desc := "(Ljava/lang/String;)Lcom/example/bunsan/bunsan/Partition;" } : Jvm.MethodName) prog_34_method_3_code (1 : Nat) (Option.some (Jvm.ClassFile.FieldType.object "com/example/bunsan/bunsan/Partition")), Jvm.Cond.code ({ cls := "java/util/Map", name := "of", desc := "()Ljava/util/Map;" } : Jvm.MethodName) jdk_72_method_26_code (0 : Nat) (Option.some (Jvm.ClassFile.FieldType.object "java/util/Map")), Jvm.Cond.code ({ cls := "java/util/List", name := "of", desc := "(Ljava/lang/Object;)Ljava/util/List;" } : Jvm.MethodName) jdk_40_method_37_code (1 : Nat) (Option.some (Jvm.ClassFile.FieldType.object "java/util/List")), Jvm.Cond.code ({ cls := "java/util/ImmutableCollections$List12", name := "<init>", desc := "(Ljava/lang/Object;)V" } : Jvm.MethodName) jdk_44_method_1_code (2 : Nat) (Option.none : Option Jvm.ClassFile.FieldType), Jvm.Cond.code ({ cls := "java/util/ImmutableCollections$AbstractImmutableList", name := "<init>", desc := "()V" } : Jvm.MethodName) jdk_46_method_1_code (1 : Nat) (Option.none : Option Jvm.ClassFile.FieldType), Jvm.Cond.code ({ cls := "java/util/ImmutableCollections$AbstractImmutableCollection", name := "<init>", desc := "()V" } : Jvm.MethodName) jdk_47_method_1_code (1 : Nat) (Option.none : Option Jvm.ClassFile.FieldType), Jvm.Cond.code ({ cls := "java/util/AbstractCollection", name := "<init>", desc := "()V" } : Jvm.MethodName) jdk_22_method_1_code (1 : Nat) (Option.none : Option Jvm.ClassFile.FieldType), Jvm.Cond.code ({ cls := "java/util/Objects", name := "requireNonNull", desc := "(Ljava/lang/Object;)Ljava/lang/Object;" } : Jvm.MethodName) jdk_31_method_10_code (1 : Nat) (Option.some (Jvm.ClassFile.FieldType.object "java/lang/Object")), Jvm.Cond.code ({ cls := "com/example/bunsan/bunsan/Partition", name := "<init>", desc := "(Ljava/util/Map;Ljava/lang/String;Ljava/util/List;Ljava/util/Map;)V" } : Jvm.MethodName) prog_34_method_1_code (5 : Nat) (Option.none : Option Jvm.ClassFile.FieldType), Jvm.Cond.code ({ cls := "com/example/bunsan/bunsan/Partition", name := "collectionOf", desc := "(Ljava/lang/String;)Ljava/lang/String;" } : Jvm.MethodName) prog_34_method_4_code (2 : Nat) (Option.some (Jvm.ClassFile.FieldType.object "java/lang/String")), Jvm.Cond.code ({ cls := "com/example/bunsan/bunsan/Partition", name := "collections", desc := "()Ljava/util/List;" } : Jvm.MethodName) prog_34_method_6_code (1 : Nat) (Option.some (Jvm.ClassFile.FieldType.object "java/util/List")), Jvm.Cond.code ({ cls := "java/lang/String", name := "equals", desc := "(Ljava/lang/Object;)Z" } : Jvm.MethodName) jdk_42_method_66_code (3 : Nat) (Option.some Jvm.ClassFile.FieldType.boolean), Jvm.Cond.code ({ cls := "java/util/ImmutableCollections$List12", name := "size", desc := "()I" } : Jvm.MethodName) jdk_44_method_3_code (1 : Nat) (Option.some Jvm.ClassFile.FieldType.int), Jvm.Cond.code ({ cls := "java/util/ImmutableCollections$List12", name := "get", desc := "(I)Ljava/lang/Object;" } : Jvm.MethodName) jdk_44_method_5_code (2 : Nat) (Option.some (Jvm.ClassFile.FieldType.object "java/lang/Object"))]
set_option maxRecDepth 65536 in
theorem codes_eq : words1.filter isCode = codes1 := rfl
theorem w_codes : ∀ c ∈ words1.filter isCode, c.before args0 about1 = true := by
  rw [codes_eq]
  intro c hc
  simp only [codes1, List.mem_cons, List.not_mem_nil, or_false] at hc
  rcases hc with rfl | rfl | rfl | rfl | rfl | rfl | rfl | rfl | rfl | rfl | rfl | rfl | rfl | rfl | rfl | rfl | rfl | rfl | rfl | rfl | rfl | rfl
  · exact w_c0
  · exact w_c1
  · exact w_c2
  · exact w_c3
  · exact w_c4
  · exact w_c5
  · exact w_c6
  · exact w_c7
  · exact w_c8
  · exact w_c9
  · exact w_c10
  · exact w_c11
  · exact w_c12
  · exact w_c13
  · exact w_c14
  · exact w_c15
  · exact w_c16
  · exact w_c17
  · exact w_c18
  · exact w_c19
  · exact w_c20
  · exact w_c21
set_option maxRecDepth 65536 in
theorem w_t1 : (words1.take 24).all (fun c => isCode c || c.before args0 about1) = true := by decide +kernel
set_option maxRecDepth 65536 in
theorem w_t2 : ((words1.drop 24).take 24).all (fun c => isCode c || c.before args0 about1) = true := by decide +kernel
set_option maxRecDepth 65536 in
theorem w_t3 : (((words1.drop 24).drop 24).take 24).all (fun c => isCode c || c.before args0 about1) = true := by decide +kernel
set_option maxRecDepth 65536 in
theorem w_t4 : ((((words1.drop 24).drop 24).drop 24).take 24).all (fun c => isCode c || c.before args0 about1) = true := by decide +kernel
set_option maxRecDepth 65536 in
theorem w_t5 : (((((words1.drop 24).drop 24).drop 24).drop 24).take 24).all (fun c => isCode c || c.before args0 about1) = true := by decide +kernel
set_option maxRecDepth 65536 in
theorem w_t6 : (((((words1.drop 24).drop 24).drop 24).drop 24).drop 24).all (fun c => isCode c || c.before args0 about1) = true := by decide +kernel
theorem w_tables : (allAtoms (Jvm.Cond.code x code maxLocals ret :: tables_1)).before args0 about1 = true := by
  rw [allAtoms_all]
  show words1.all (fun c => c.before args0 about1) = true
  refine all_split ?_ w_codes
  rw [← List.take_append_drop 24 words1, List.all_append, w_t1, ← List.take_append_drop 24 (words1.drop 24), List.all_append, w_t2, ← List.take_append_drop 24 ((words1.drop 24).drop 24), List.all_append, w_t3, ← List.take_append_drop 24 (((words1.drop 24).drop 24).drop 24), List.all_append, w_t4, ← List.take_append_drop 24 ((((words1.drop 24).drop 24).drop 24).drop 24), List.all_append, w_t5, w_t6]
  rfl
set_option maxRecDepth 65536 in
theorem w_rest : rest_1_c.before args0 about1 = true := by decide +kernel
set_option maxRecDepth 65536 in
theorem w_case : (Jvm.Cond.and given_1 narrow_1).before args0 about1 = true := by decide +kernel
set_option maxRecDepth 65536 in
theorem w_consts : constsHeld consts_1 about1 := Jvm.Lit.constsHeldB_iff.mp (by decide +kernel)
theorem w_applies : (headSpec (Jvm.Cond.code x code maxLocals ret :: tables_1) room_1).applies x e0.platform about1 = true :=
  (Spec.applies_iff w_frames).mpr ⟨w_running, w_runnable, w_alone, w_named, w_hears, w_ripe, w_room, w_tables⟩
theorem atStart : AtStart classFile x code maxLocals ret World_1 tables_1 room_1 Calls_1 rest_1 Pre_1 launch0 p0 e0 about1 theMethod args0 below0 :=
  ⟨lists_1, trivial, launch0.admits_env _ _ _, launch0.least_env, fairChoices_fair.cas, fairChoices_fair.clock, w_frames, w_args, w_heap, w_applies, ⟨w_consts, trivial⟩, w_rest, w_case⟩
end start1
theorem witness_1 : WitnessClaimed_1 := ⟨start1.p0, start1.e0, start1.about1, start1.theMethod, start1.args0, start1.below0, start1.atStart⟩
end Jvm.Pilot.@@N@@
