import JvmDerived
import JvmDerived.Pilot.@@N@@Statement
import JvmDerived.Pilot.@@N@@Code
set_option linter.unusedVariables false
set_option linter.unusedSimpArgs false
namespace Jvm.RoadKit
open Sem ClassFile Op Lib Jvm.Stand Jvm.Free Jvm.LawKit
section OwnKit
/-- what stands at a point of the walk: the law's Stand, its written places all new, the heap named; w: may have interned -/
def own_X (w : Bool) (p : Program) (l : Launch) (e : Env) (R : Room) (s : State) (m : MethodId) (args : Array Value) (below : List Frame) (meth : Method) (c : Code) (Z : State) (T : State) (h : Heap) (k n : Nat) : Prop :=
  ∃ (L : List Loc) (vm : Vm), Stand p l e R (s.setVm vm) m args below meth c T L k n ∧ Fr Z.heap.size L ∧ T.heap = h ∧ (w = false → vm = s.vm) ∧ s.Since vm h.size
def own_Cx (p : Program) (s : State) (m : MethodId) (meth : Method) (c : Code) (Z : State) (own nm : String) (bytes : ByteArray) (maxL : Nat) (ret : Option FieldType) : Prop :=
  p.tables.exec = Jvm.exec ∧ c.code = bytes ∧ c.maxLocals = maxL ∧ meth.sig.returnType = ret ∧ meth.locks = false ∧ Z.Warmed39 s.vm ∧ s.vm.findClass own = some m.cls ∧ meth.name = nm
def own_Go (w : Bool) (p : Program) (l : Launch) (e : Env) (R : Room) (s : State) (m : MethodId) (args : Array Value) (below : List Frame) (meth : Method) (c : Code) (Z : State) (Q : Option Value → Heap → Prop) (T : State) (g : JFrame) : Prop :=
  ∃ (T' : State) (v : Option Value) (h' : Heap) (k' n' : Nat), own_X w p l e R s m args below meth c Z T' h' k' n' ∧ k' ≤ R.cells ∧ n' ≤ R.slots ∧ (meth.sig.returnType = none → v = none) ∧ Q v h' ∧
    ∀ fs, (∀ (f : JFrame) (acts : List Action), f.method = m → f.locked = none → f.entered = [] → (doReturn e (T'.setTop f) acts v).1 = T'.setFrames fs) → Steps p.tables e below (T.setTop g) (T'.setFrames fs)
/-- from the frame g, over the heap h, with k cells and n slots made, the walk comes to a return of which Q holds -/
def own_G (w : Bool) (p : Program) (l : Launch) (e : Env) (R : Room) (s : State) (m : MethodId) (args : Array Value) (below : List Frame) (meth : Method) (c : Code) (Z : State) (Q : Option Value → Heap → Prop) (h : Heap) (k n : Nat) (g : JFrame) : Prop :=
  ∀ T, own_X w p l e R s m args below meth c Z T h k n → own_Go w p l e R s m args below meth c Z Q T g
def own_D (bytes : ByteArray) (pc : Nat) (i : Instr) (len pc' : Nat) : Prop := decode bytes pc = .ok (i, len) ∧ pc' = pc + len
def own_B (bytes : ByteArray) (pc : Nat) (i : Instr) (off : Int) (pcF pcT : Nat) : Prop := decode bytes pc = .ok (i, 3) ∧ pcF = pc + 3 ∧ 0 ≤ (pc : Int) + off ∧ ((pc : Int) + off).toNat = pcT
def own_End (w : Bool) (U : State) (o : Outcome) (U' : State) (L : List Loc) (k n : Nat) : Prop := match w with | false => FrameEnd U o U' L k n | true => ReturnedEndW U o U' L k n
def own_Met (w : Bool) (l : Launch) (Z : State) (y : MethodName) (bytes : ByteArray) (maxL : Nat) (ret : Option FieldType) (ws : List Cond) (rm : Room) (as' : Array Value) (h : Heap) (Q : Option Value → Heap → Prop) : Prop :=
  MetFree l y (head1 (Cond.code y bytes maxL ret :: ws) rm) (fun a U => a = as' ∧ Z.Warmed39 U.vm ∧ U.heap = h) (fun _ _ _ _ _ => True)
    (fun _ U o U' => ∃ v L, o = .returned v ∧ (Q v U'.heap ∧ Fr Z.heap.size L ∧ h.size ≤ U'.heap.size) ∧ own_End w U o U' L rm.cells rm.slots)
/-! ## heap -/
abbrev own_O := Addr × String × List (String × String × String × Value)
abbrev own_A := Addr × FieldType × String × List Value
def own_OK (Z : State) (h : Heap) (o : own_O) : Prop := Exa Z h o.1 o.2.1 ∧ (∀ f ∈ o.2.2, Fld Z h o.1 f.1 f.2.1 f.2.2.1 f.2.2.2) ∧ o.2.2.Pairwise (fun f g => slotOf Z f.1 f.2.1 f.2.2.1 ≠ slotOf Z g.1 g.2.1 g.2.2.1)
def own_AK (Z : State) (h : Heap) (a : own_A) : Prop := ∃ cl : Cell, Arr Z h a.1 cl a.2.1 ∧ cl.slots.toList = a.2.2.2 ∧ (∀ v ∈ a.2.2.2, fits a.2.1 v = true) ∧ (a.2.2.1 ≠ "" → Exa Z h a.1 a.2.2.1) ∧ (∀ C, a.2.1 = .object C → a.2.2.1 ≠ "" → Ovr Z cl.cls C)
/-- the heap h: what stood at the law's start Z stands; the objects os and the arrays as, all new, all apart -/
def own_H (Z : State) (h : Heap) (os : List own_O) (as : List own_A) : Prop :=
  Ext Z.heap h ∧ (∀ o ∈ os, Z.heap.size ≤ o.1 ∧ own_OK Z h o) ∧ (∀ a ∈ as, Z.heap.size ≤ a.1 ∧ own_AK Z h a) ∧ (os.map (·.1) ++ as.map (·.1)).Nodup
variable {w : Bool} {p : Program} {l : Launch} {e : Env} {R : Room} {s : State} {m : MethodId} {args : Array Value} {below : List Frame} {meth : Method} {c : Code} {Z : State} {a0 : Array Value} {own nm : String} {bytes : ByteArray} {maxL : Nat} {ret : Option FieldType} {Q : Option Value → Heap → Prop} {h h' : Heap} {k n k' n' : Nat} {pc pc' pcT : Nat} {Ls Ls' : Array Slot} {st rest : List Value} {os os' : List own_O} {as as' : List own_A} {g g' : JFrame} {tyR : FieldType}
theorem own_H.start (Z : State) : own_H Z Z.heap [] [] := ⟨⟨Nat.le_refl _, fun _ _ q => q⟩, fun _ q => (nomatch q), fun _ q => (nomatch q), List.nodup_nil⟩
theorem own_OK.ext {o : own_O} (E : Ext h h') (F : own_OK Z h o) : own_OK Z h' o := ⟨F.1.ext E, fun f hf => (F.2.1 f hf).ext E, F.2.2⟩
theorem own_AK.ext {a : own_A} (E : Ext h h') (F : own_AK Z h a) : own_AK Z h' a := by
  obtain ⟨cl, h1, h2, h3, h4, h5⟩ := F; exact ⟨cl, h1.ext E, h2, h3, fun q => (h4 q).ext E, h5⟩
theorem own_H.ext (H : own_H Z h os as) (E : Ext h h') : own_H Z h' os as :=
  ⟨⟨Nat.le_trans H.1.1 E.1, fun a c q => E.2 a c (H.1.2 a c q)⟩, fun o ho => ⟨(H.2.1 o ho).1, (H.2.1 o ho).2.ext E⟩, fun a ha => ⟨(H.2.2.1 a ha).1, (H.2.2.1 a ha).2.ext E⟩, H.2.2.2⟩
theorem own_H.ltO (H : own_H Z h os as) {o : own_O} (ho : o ∈ os) : o.1 < h.size := (H.2.1 o ho).2.1.lt
theorem own_H.ltA (H : own_H Z h os as) {a : own_A} (ha : a ∈ as) : a.1 < h.size := by obtain ⟨-, cl, h1, -⟩ := H.2.2.1 a ha; exact h1.lt
theorem own_H.fresh (H : own_H Z h os as) : h.size ∉ os.map (·.1) ++ as.map (·.1) := fun q => by
  rcases List.mem_append.mp q with q | q
  · obtain ⟨o, ho, e⟩ := List.mem_map.mp q; exact absurd (H.ltO ho) (by rw [e]; exact Nat.lt_irrefl _)
  · obtain ⟨o, ho, e⟩ := List.mem_map.mp q; exact absurd (H.ltA ho) (by rw [e]; exact Nat.lt_irrefl _)
theorem own_H.addO (H : own_H Z h os as) (E : Ext h h') {C : String} {fs : List (String × String × String × Value)} (F : own_OK Z h' (h.size, C, fs)) : own_H Z h' ((h.size, C, fs) :: os) as := by
  have H' := H.ext E
  refine ⟨H'.1, fun o ho => ?_, H'.2.2.1, ?_⟩
  · rcases List.mem_cons.mp ho with rfl | ho
    · exact ⟨H.1.1, F⟩
    · exact H'.2.1 o ho
  · exact List.nodup_cons.mpr ⟨H.fresh, H.2.2.2⟩
theorem own_H.addA (H : own_H Z h os as) (E : Ext h h') {ty : FieldType} {ad : String} {vs : List Value} (F : own_AK Z h' (h.size, ty, ad, vs)) : own_H Z h' os ((h.size, ty, ad, vs) :: as) := by
  have H' := H.ext E
  refine ⟨H'.1, H'.2.1, fun o ho => ?_, ?_⟩
  · rcases List.mem_cons.mp ho with rfl | ho
    · exact ⟨H.1.1, F⟩
    · exact H'.2.2.1 o ho
  · have q := H.fresh
    rw [List.mem_append] at q
    have q2 := List.nodup_append.mp H.2.2.2
    refine List.nodup_append.mpr ⟨q2.1, List.nodup_cons.mpr ⟨fun z => q (Or.inr z), q2.2.1⟩, fun x hx y hy => ?_⟩
    rcases List.mem_cons.mp hy with rfl | hy
    · intro z; exact q (Or.inl ((show x = h.size from z) ▸ hx))
    · exact q2.2.2 x hx y hy
theorem own_mem {α : Type} {L : List α} {i : Nat} {x : α} (hx : L[i]? = some x) : x ∈ L := List.mem_of_getElem? hx
theorem own_H.atO (H : own_H Z h os as) {i : Nat} {a : Addr} {C : String} {fs : List (String × String × String × Value)} (ho : os[i]? = some (a, C, fs)) : Exa Z h a C := (H.2.1 _ (own_mem ho)).2.1
theorem own_H.newO (H : own_H Z h os as) {i : Nat} {a : Addr} {C : String} {fs : List (String × String × String × Value)} (ho : os[i]? = some (a, C, fs)) : Z.heap.size ≤ a := (H.2.1 _ (own_mem ho)).1
theorem own_H.fld (H : own_H Z h os as) {i q : Nat} {a : Addr} {C O f d : String} {v : Value} {fs : List (String × String × String × Value)} (ho : os[i]? = some (a, C, fs)) (hf : fs[q]? = some (O, f, d, v)) : Fld Z h a O f d v := (H.2.1 _ (own_mem ho)).2.2.1 _ (own_mem hf)
theorem own_H.neOO (H : own_H Z h os as) {i j : Nat} {x y : own_O} (hx : os[i]? = some x) (hy : os[j]? = some y) (ij : i ≠ j) : x.1 ≠ y.1 := fun e => by
  have q := (List.nodup_append.mp H.2.2.2).1
  have h1 : (os.map (·.1))[i]? = some x.1 := by rw [List.getElem?_map, hx]; rfl
  have h2 : (os.map (·.1))[j]? = some y.1 := by rw [List.getElem?_map, hy]; rfl
  rw [← e] at h2
  have hi := (List.getElem?_eq_some_iff.mp h1).1
  exact ij ((List.getElem?_inj hi q).mp (h1.trans h2.symm))
theorem own_H.neAA (H : own_H Z h os as) {i j : Nat} {x y : own_A} (hx : as[i]? = some x) (hy : as[j]? = some y) (ij : i ≠ j) : x.1 ≠ y.1 := fun e => by
  have q := (List.nodup_append.mp H.2.2.2).2.1
  have h1 : (as.map (·.1))[i]? = some x.1 := by rw [List.getElem?_map, hx]; rfl
  have h2 : (as.map (·.1))[j]? = some y.1 := by rw [List.getElem?_map, hy]; rfl
  rw [← e] at h2
  have hi := (List.getElem?_eq_some_iff.mp h1).1
  exact ij ((List.getElem?_inj hi q).mp (h1.trans h2.symm))
theorem own_H.neOA (H : own_H Z h os as) {x : own_O} {y : own_A} (hx : x ∈ os) (hy : y ∈ as) : x.1 ≠ y.1 :=
  (List.nodup_append.mp H.2.2.2).2.2 _ (List.mem_map.mpr ⟨x, hx, rfl⟩) _ (List.mem_map.mpr ⟨y, hy, rfl⟩)
theorem own_set_map {α β : Type} {L : List α} {f : α → β} {i : Nat} {x x' : α} (hx : L[i]? = some x) (e : f x' = f x) : (L.set i x').map f = L.map f := by
  apply List.ext_getElem?
  intro j
  rw [List.getElem?_map, List.getElem?_map, List.getElem?_set]
  by_cases ij : i = j
  · subst ij; rw [hx]; have := (List.getElem?_eq_some_iff.mp hx).1; simp [this, e]
  · simp [ij]
theorem own_H.wrO (H : own_H Z h os as) {i q : Nat} {a : Addr} {C O f d : String} {v v0 : Value} {fs : List (String × String × String × Value)} (ho : os[i]? = some (a, C, fs)) (hf : fs[q]? = some (O, f, d, v0)) (W : Wr h h' a (slotOf Z O f d) v) :
    own_H Z h' (os.set i (a, C, fs.set q (O, f, d, v))) as := by
  have na := H.newO ho
  have hlen := (List.getElem?_eq_some_iff.mp ho).1
  have hql := (List.getElem?_eq_some_iff.mp hf).1
  refine ⟨?_, fun x hx => ?_, fun y hy => ?_, ?_⟩
  · refine ⟨by rw [Wr.size W]; exact H.1.1, fun b cb hb => ?_⟩
    obtain ⟨cb', e1, -, -, -, e5, -⟩ := wr_at W (H.1.2 b cb hb)
    have : b ≠ a := Nat.ne_of_lt (Nat.lt_of_lt_of_le (Array.getElem?_eq_some_iff.mp hb).1 na)
    rw [← e5 this]; exact e1
  · obtain ⟨j, hj⟩ := List.mem_iff_getElem?.mp hx
    rw [List.getElem?_set] at hj
    by_cases ij : i = j
    · subst ij
      rw [if_pos rfl, if_pos hlen] at hj
      obtain rfl := Option.some.inj hj
      obtain ⟨n1, E, F, Pw⟩ := H.2.1 _ (own_mem ho)
      refine ⟨n1, E.wr W, fun z hz => ?_, ?_⟩
      · obtain ⟨r, hr⟩ := List.mem_iff_getElem?.mp hz
        rw [List.getElem?_set] at hr
        by_cases qr : q = r
        · subst qr
          rw [if_pos rfl, if_pos hql] at hr
          obtain rfl := Option.some.inj hr
          exact Fld.same (w := v0) W (F _ (own_mem (show (a, C, fs).2.2[q]? = some (O, f, d, v0) from hf)))
        · rw [if_neg qr] at hr
          refine Fld.other W (F _ (own_mem hr)) (Or.inr fun e => ?_)
          have P2 : ∀ i j : Nat, i < j → ∀ x y, fs[i]? = some x → fs[j]? = some y → slotOf Z x.1 x.2.1 x.2.2.1 ≠ slotOf Z y.1 y.2.1 y.2.2.1 := fun i j ij x y hx hy => by
            obtain ⟨h1, rfl⟩ := List.getElem?_eq_some_iff.mp hx
            obtain ⟨h2, rfl⟩ := List.getElem?_eq_some_iff.mp hy
            exact List.pairwise_iff_getElem.mp Pw i j h1 h2 ij
          rcases Nat.lt_or_gt_of_ne qr with lt | lt
          · exact P2 q r lt _ _ hf hr e.symm
          · exact P2 r q lt _ _ hr hf e
      · have hm : (fs.set q (O, f, d, v)).map (fun f => slotOf Z f.1 f.2.1 f.2.2.1) = fs.map (fun f => slotOf Z f.1 f.2.1 f.2.2.1) := own_set_map hf rfl
        have t := List.pairwise_map.mpr Pw
        rw [← hm] at t
        exact List.pairwise_map.mp t
    · rw [if_neg ij] at hj
      obtain ⟨n1, E, F, Pw⟩ := H.2.1 _ (own_mem hj)
      exact ⟨n1, E.wr W, fun z hz => Fld.other W (F z hz) (Or.inl (H.neOO hj ho (Ne.symm ij))), Pw⟩
  · obtain ⟨n1, cl, h1, h2, h3, h4, h5⟩ := H.2.2.1 y hy
    exact ⟨n1, cl, h1.other W (Ne.symm (H.neOA (own_mem ho) hy)), h2, h3, fun q => (h4 q).wr W, h5⟩
  · rw [own_set_map (f := fun z => z.1) (x' := (a, C, fs.set q (O, f, d, v))) ho rfl]; exact H.2.2.2
theorem own_H.wrA (H : own_H Z h os as) {i q : Nat} {a : Addr} {ty : FieldType} {ad : String} {v : Value} {vs : List Value} (ha : as[i]? = some (a, ty, ad, vs)) (hq : q < vs.length) (hv : fits ty v = true) (W : Wr h h' a q v) :
    own_H Z h' os (as.set i (a, ty, ad, vs.set q v)) := by
  have na := (H.2.2.1 _ (own_mem ha)).1
  have hlen := (List.getElem?_eq_some_iff.mp ha).1
  refine ⟨?_, fun x hx => ?_, fun y hy => ?_, ?_⟩
  · refine ⟨by rw [Wr.size W]; exact H.1.1, fun b cb hb => ?_⟩
    obtain ⟨cb', e1, -, -, -, e5, -⟩ := wr_at W (H.1.2 b cb hb)
    have : b ≠ a := Nat.ne_of_lt (Nat.lt_of_lt_of_le (Array.getElem?_eq_some_iff.mp hb).1 na)
    rw [← e5 this]; exact e1
  · obtain ⟨n1, E, F, Pw⟩ := H.2.1 _ hx
    exact ⟨n1, E.wr W, fun z hz => Fld.other W (F z hz) (Or.inl (H.neOA hx (own_mem ha))), Pw⟩
  · obtain ⟨j, hj⟩ := List.mem_iff_getElem?.mp hy
    rw [List.getElem?_set] at hj
    by_cases ij : i = j
    · subst ij
      rw [if_pos rfl, if_pos hlen] at hj
      obtain rfl := Option.some.inj hj
      obtain ⟨n1, cl, h1, h2, h3, h4, h5⟩ := H.2.2.1 _ (own_mem ha)
      refine ⟨n1, _, h1.same W, ?_, fun z hz => ?_, fun q => (h4 q).wr W, h5⟩
      · show (cl.setSlot q v).slots.toList = vs.set q v
        rw [show (cl.setSlot q v).slots = cl.slots.setIfInBounds q v from rfl, Array.toList_setIfInBounds, show cl.slots.toList = vs from h2]
      · rcases List.mem_or_eq_of_mem_set hz with hz | rfl
        · exact h3 z hz
        · exact hv
    · rw [if_neg ij] at hj
      obtain ⟨n1, cl, h1, h2, h3, h4, h5⟩ := H.2.2.1 _ (own_mem hj)
      exact ⟨n1, cl, h1.other W (H.neAA hj ha (Ne.symm ij)), h2, h3, fun q => (h4 q).wr W, h5⟩
  · rw [own_set_map (f := fun z => z.1) (x' := (a, ty, ad, vs.set q v)) ha rfl]; exact H.2.2.2
theorem own_le {a b : Nat} (h : Nat.ble a b = true) : a ≤ b := Nat.le_of_ble_eq_true h
theorem own_idx {j : Int32} {q : Nat} (hj : j.toInt = (q : Int)) : j.toNatClampNeg = q := by simp only [Int32.toNatClampNeg, hj]; rfl
theorem own_in {j : Int32} {q N : Nat} (hj : j.toInt = (q : Int)) (hq : q < N) : ¬ (j < 0 ∨ N ≤ j.toNatClampNeg) := by
  rw [own_idx hj, Int32.lt_iff_toInt_lt, hj, show (0 : Int32).toInt = 0 from rfl]; omega
theorem own_len {N : Int32} {q : Nat} (hN : N.toInt = (q : Int)) : q.toInt32 = N := by
  have := Int32.toInt_lt N
  exact Int32.toInt_inj.mp ((len_toInt (by omega)).trans hN.symm)
/-! ## steps -/
theorem own_zw {vm : Vm} (hZ : Z.Warmed39 s.vm) {q : Nat} (hS : s.Since vm q) : Z.Warmed39 (s.setVm vm).vm := State.Warmed39.trans (t := s) hZ hS.1
theorem own_pure (K : own_Cx p s m meth c Z own nm bytes maxL ret)
    (f : ∀ {T : State} {L : List Loc} {vm : Vm}, Stand p l e R (s.setVm vm) m args below meth c T L k n → Z.Warmed39 (s.setVm vm).vm → (s.setVm vm).vm.findClass own = some m.cls → T.heap = h → ∀ target, Steps p.tables e below (T.setTop g') target → Steps p.tables e below (T.setTop g) target)
    (hr : own_G w p l e R s m args below meth c Z Q h k n g') : own_G w p l e R s m args below meth c Z Q h k n g := by
  intro T hX
  obtain ⟨T', v, h', k', n', hX', r1, r2, r3, r4, r5⟩ := hr T hX
  obtain ⟨L, vm, X, -, eT, -, hS⟩ := hX
  exact ⟨T', v, h', k', n', hX', r1, r2, r3, r4, fun fs q => f X (own_zw K.2.2.2.2.2.1 hS) (by rw [show (s.setVm vm).vm = vm from rfl, hS.1.alike.findClass]; exact K.2.2.2.2.2.2.1) eT _ (r5 fs q)⟩
theorem own_since {vm : Vm} {q q' : Nat} (hS : s.Since vm q) (hq : q ≤ q') : s.Since vm q' := ⟨hS.1, hS.2.mono hq⟩
theorem own_step {P : Heap → Prop} (K : own_Cx p s m meth c Z own nm bytes maxL ret)
    (f : ∀ {T : State} {L : List Loc} {vm : Vm}, Stand p l e R (s.setVm vm) m args below meth c T L k n → Z.Warmed39 (s.setVm vm).vm → (s.setVm vm).vm.findClass own = some m.cls → T.heap = h → Fr Z.heap.size L →
      ∃ (T' : State) (h' : Heap) (L' : List Loc), Stand p l e R (s.setVm vm) m args below meth c T' L' k' n' ∧ Fr Z.heap.size L' ∧ T'.heap = h' ∧ h.size ≤ h'.size ∧ P h' ∧ ∀ target, Steps p.tables e below (T'.setTop g') target → Steps p.tables e below (T.setTop g) target)
    (hr : ∀ h', P h' → own_G w p l e R s m args below meth c Z Q h' k' n' g') : own_G w p l e R s m args below meth c Z Q h k n g := by
  intro T hX
  obtain ⟨L, vm, X, N, eT, hw, hS⟩ := hX
  obtain ⟨T1, h1, L1, X1, N1, e1, z1, P1, st⟩ := f X (own_zw K.2.2.2.2.2.1 hS) (by rw [show (s.setVm vm).vm = vm from rfl, hS.1.alike.findClass]; exact K.2.2.2.2.2.2.1) eT N
  obtain ⟨T', v, h', k', n', hX', r1, r2, r3, r4, r5⟩ := hr h1 P1 T1 ⟨L1, vm, X1, N1, e1, hw, own_since hS z1⟩
  exact ⟨T', v, h', k', n', hX', r1, r2, r3, r4, fun fs q => st _ (r5 fs q)⟩
theorem own_iload (K : own_Cx p s m meth c Z own nm bytes maxL ret) {kk : Nat} {v : Int32} (hd : own_D bytes pc (.iload kk) 2 pc') (hl : Ls[kk]? = some (.val (.int v))) (hr : own_G w p l e R s m args below meth c Z Q h k n (mkF m pc' Ls (.int v :: st))) : own_G w p l e R s m args below meth c Z Q h k n (mkF m pc Ls (st)) := by
  obtain ⟨hd, rfl⟩ := hd
  exact own_pure K (fun X _ _ _ _ q => XS.iload X.here K.1 rfl (hb K.2.1 hd) hl q) hr
theorem own_iloadN (K : own_Cx p s m meth c Z own nm bytes maxL ret) {kk : Fin 4} {v : Int32} (hd : own_D bytes pc (.iload_n kk) 1 pc') (hl : Ls[kk.val]? = some (.val (.int v))) (hr : own_G w p l e R s m args below meth c Z Q h k n (mkF m pc' Ls (.int v :: st))) : own_G w p l e R s m args below meth c Z Q h k n (mkF m pc Ls (st)) := by
  obtain ⟨hd, rfl⟩ := hd
  exact own_pure K (fun X _ _ _ _ q => XS.iloadN X.here K.1 rfl (hb K.2.1 hd) hl q) hr
theorem own_istore (K : own_Cx p s m meth c Z own nm bytes maxL ret) {kk : Nat} {v : Int32} (hd : own_D bytes pc (.istore kk) 2 pc') (hl : storeLocals Ls kk (.int v) = some Ls') (hr : own_G w p l e R s m args below meth c Z Q h k n (mkF m pc' Ls' (st))) : own_G w p l e R s m args below meth c Z Q h k n (mkF m pc Ls (.int v :: st)) := by
  obtain ⟨hd, rfl⟩ := hd
  exact own_pure K (fun X _ _ _ _ q => XS.istore X.here K.1 rfl (hb K.2.1 hd) rfl hl q) hr
theorem own_istoreN (K : own_Cx p s m meth c Z own nm bytes maxL ret) {kk : Fin 4} {v : Int32} (hd : own_D bytes pc (.istore_n kk) 1 pc') (hl : storeLocals Ls kk.val (.int v) = some Ls') (hr : own_G w p l e R s m args below meth c Z Q h k n (mkF m pc' Ls' (st))) : own_G w p l e R s m args below meth c Z Q h k n (mkF m pc Ls (.int v :: st)) := by
  obtain ⟨hd, rfl⟩ := hd
  exact own_pure K (fun X _ _ _ _ q => XS.istoreN X.here K.1 rfl (hb K.2.1 hd) rfl hl q) hr
theorem own_lload (K : own_Cx p s m meth c Z own nm bytes maxL ret) {kk : Nat} {v : Int64} (hd : own_D bytes pc (.lload kk) 2 pc') (hl : Ls[kk]? = some (.val (.long v))) (hr : own_G w p l e R s m args below meth c Z Q h k n (mkF m pc' Ls (.long v :: st))) : own_G w p l e R s m args below meth c Z Q h k n (mkF m pc Ls (st)) := by
  obtain ⟨hd, rfl⟩ := hd
  exact own_pure K (fun X _ _ _ _ q => XT.lload X.here K.1 rfl (hb K.2.1 hd) hl q) hr
theorem own_lloadN (K : own_Cx p s m meth c Z own nm bytes maxL ret) {kk : Fin 4} {v : Int64} (hd : own_D bytes pc (.lload_n kk) 1 pc') (hl : Ls[kk.val]? = some (.val (.long v))) (hr : own_G w p l e R s m args below meth c Z Q h k n (mkF m pc' Ls (.long v :: st))) : own_G w p l e R s m args below meth c Z Q h k n (mkF m pc Ls (st)) := by
  obtain ⟨hd, rfl⟩ := hd
  exact own_pure K (fun X _ _ _ _ q => XT.lloadN X.here K.1 rfl (hb K.2.1 hd) hl q) hr
theorem own_lstore (K : own_Cx p s m meth c Z own nm bytes maxL ret) {kk : Nat} {v : Int64} (hd : own_D bytes pc (.lstore kk) 2 pc') (hl : storeLocals Ls kk (.long v) = some Ls') (hr : own_G w p l e R s m args below meth c Z Q h k n (mkF m pc' Ls' (st))) : own_G w p l e R s m args below meth c Z Q h k n (mkF m pc Ls (.long v :: st)) := by
  obtain ⟨hd, rfl⟩ := hd
  exact own_pure K (fun X _ _ _ _ q => XT.lstore X.here K.1 rfl (hb K.2.1 hd) rfl hl q) hr
theorem own_lstoreN (K : own_Cx p s m meth c Z own nm bytes maxL ret) {kk : Fin 4} {v : Int64} (hd : own_D bytes pc (.lstore_n kk) 1 pc') (hl : storeLocals Ls kk.val (.long v) = some Ls') (hr : own_G w p l e R s m args below meth c Z Q h k n (mkF m pc' Ls' (st))) : own_G w p l e R s m args below meth c Z Q h k n (mkF m pc Ls (.long v :: st)) := by
  obtain ⟨hd, rfl⟩ := hd
  exact own_pure K (fun X _ _ _ _ q => XT.lstoreN X.here K.1 rfl (hb K.2.1 hd) rfl hl q) hr
theorem own_dload (K : own_Cx p s m meth c Z own nm bytes maxL ret) {kk : Nat} {v : UInt64} (hd : own_D bytes pc (.dload kk) 2 pc') (hl : Ls[kk]? = some (.val (.double v))) (hr : own_G w p l e R s m args below meth c Z Q h k n (mkF m pc' Ls (.double v :: st))) : own_G w p l e R s m args below meth c Z Q h k n (mkF m pc Ls (st)) := by
  obtain ⟨hd, rfl⟩ := hd
  exact own_pure K (fun X _ _ _ _ q => XS.dload X.here K.1 rfl (hb K.2.1 hd) hl q) hr
theorem own_dloadN (K : own_Cx p s m meth c Z own nm bytes maxL ret) {kk : Fin 4} {v : UInt64} (hd : own_D bytes pc (.dload_n kk) 1 pc') (hl : Ls[kk.val]? = some (.val (.double v))) (hr : own_G w p l e R s m args below meth c Z Q h k n (mkF m pc' Ls (.double v :: st))) : own_G w p l e R s m args below meth c Z Q h k n (mkF m pc Ls (st)) := by
  obtain ⟨hd, rfl⟩ := hd
  exact own_pure K (fun X _ _ _ _ q => XS.dloadN X.here K.1 rfl (hb K.2.1 hd) hl q) hr
theorem own_dstore (K : own_Cx p s m meth c Z own nm bytes maxL ret) {kk : Nat} {v : UInt64} (hd : own_D bytes pc (.dstore kk) 2 pc') (hl : storeLocals Ls kk (.double v) = some Ls') (hr : own_G w p l e R s m args below meth c Z Q h k n (mkF m pc' Ls' (st))) : own_G w p l e R s m args below meth c Z Q h k n (mkF m pc Ls (.double v :: st)) := by
  obtain ⟨hd, rfl⟩ := hd
  exact own_pure K (fun X _ _ _ _ q => XS.dstore X.here K.1 rfl (hb K.2.1 hd) rfl hl q) hr
theorem own_dstoreN (K : own_Cx p s m meth c Z own nm bytes maxL ret) {kk : Fin 4} {v : UInt64} (hd : own_D bytes pc (.dstore_n kk) 1 pc') (hl : storeLocals Ls kk.val (.double v) = some Ls') (hr : own_G w p l e R s m args below meth c Z Q h k n (mkF m pc' Ls' (st))) : own_G w p l e R s m args below meth c Z Q h k n (mkF m pc Ls (.double v :: st)) := by
  obtain ⟨hd, rfl⟩ := hd
  exact own_pure K (fun X _ _ _ _ q => XS.dstoreN X.here K.1 rfl (hb K.2.1 hd) rfl hl q) hr
theorem own_aload (K : own_Cx p s m meth c Z own nm bytes maxL ret) {kk : Nat} {v : Value} (hd : own_D bytes pc (.aload kk) 2 pc') (hl : Ls[kk]? = some (.val v)) (hv : v.isRef = true) (hr : own_G w p l e R s m args below meth c Z Q h k n (mkF m pc' Ls (v :: st))) : own_G w p l e R s m args below meth c Z Q h k n (mkF m pc Ls (st)) := by
  obtain ⟨hd, rfl⟩ := hd
  exact own_pure K (fun X _ _ _ _ q => XS.aload X.here K.1 rfl (hb K.2.1 hd) hl hv q) hr
theorem own_aloadN (K : own_Cx p s m meth c Z own nm bytes maxL ret) {kk : Fin 4} {v : Value} (hd : own_D bytes pc (.aload_n kk) 1 pc') (hl : Ls[kk.val]? = some (.val v)) (hv : v.isRef = true) (hr : own_G w p l e R s m args below meth c Z Q h k n (mkF m pc' Ls (v :: st))) : own_G w p l e R s m args below meth c Z Q h k n (mkF m pc Ls (st)) := by
  obtain ⟨hd, rfl⟩ := hd
  exact own_pure K (fun X _ _ _ _ q => XS.aloadN X.here K.1 rfl (hb K.2.1 hd) hl hv q) hr
theorem own_astore (K : own_Cx p s m meth c Z own nm bytes maxL ret) {kk : Nat} {v : Value} (hd : own_D bytes pc (.astore kk) 2 pc') (hv : v.isRef = true) (hl : storeLocals Ls kk v = some Ls') (hr : own_G w p l e R s m args below meth c Z Q h k n (mkF m pc' Ls' (st))) : own_G w p l e R s m args below meth c Z Q h k n (mkF m pc Ls (v :: st)) := by
  obtain ⟨hd, rfl⟩ := hd
  exact own_pure K (fun X _ _ _ _ q => XS.astore X.here K.1 rfl (hb K.2.1 hd) rfl hv hl q) hr
theorem own_astoreN (K : own_Cx p s m meth c Z own nm bytes maxL ret) {kk : Fin 4} {v : Value} (hd : own_D bytes pc (.astore_n kk) 1 pc') (hv : v.isRef = true) (hl : storeLocals Ls kk.val v = some Ls') (hr : own_G w p l e R s m args below meth c Z Q h k n (mkF m pc' Ls' (st))) : own_G w p l e R s m args below meth c Z Q h k n (mkF m pc Ls (v :: st)) := by
  obtain ⟨hd, rfl⟩ := hd
  exact own_pure K (fun X _ _ _ _ q => XS.astoreN X.here K.1 rfl (hb K.2.1 hd) rfl hv hl q) hr
theorem own_iconst (K : own_Cx p s m meth c Z own nm bytes maxL ret) {i : Int} {v : Int32} (hd : own_D bytes pc (.iconst i) 1 pc') (hv : Int32.ofInt i = v) (hr : own_G w p l e R s m args below meth c Z Q h k n (mkF m pc' Ls (.int v :: st))) : own_G w p l e R s m args below meth c Z Q h k n (mkF m pc Ls st) := by
  obtain ⟨hd, rfl⟩ := hd
  subst hv
  exact own_pure K (fun X _ _ _ _ q => XS.iconst X.here K.1 rfl (hb K.2.1 hd) q) hr
theorem own_bipush (K : own_Cx p s m meth c Z own nm bytes maxL ret) {i : Int} {v : Int32} (hd : own_D bytes pc (.bipush i) 2 pc') (hv : (Int8.ofInt i).toInt32 = v) (hr : own_G w p l e R s m args below meth c Z Q h k n (mkF m pc' Ls (.int v :: st))) : own_G w p l e R s m args below meth c Z Q h k n (mkF m pc Ls st) := by
  obtain ⟨hd, rfl⟩ := hd
  subst hv
  exact own_pure K (fun X _ _ _ _ q => XS.bipush X.here K.1 rfl (hb K.2.1 hd) q) hr
theorem own_sipush (K : own_Cx p s m meth c Z own nm bytes maxL ret) {i : Int} {v : Int32} (hd : own_D bytes pc (.sipush i) 3 pc') (hv : (Int16.ofInt i).toInt32 = v) (hr : own_G w p l e R s m args below meth c Z Q h k n (mkF m pc' Ls (.int v :: st))) : own_G w p l e R s m args below meth c Z Q h k n (mkF m pc Ls st) := by
  obtain ⟨hd, rfl⟩ := hd
  subst hv
  exact own_pure K (fun X _ _ _ _ q => XS.sipush X.here K.1 rfl (hb K.2.1 hd) q) hr
theorem own_lconst (K : own_Cx p s m meth c Z own nm bytes maxL ret) {i : Fin 2} {v : Int64} (hd : own_D bytes pc (.lconst i) 1 pc') (hv : Int64.ofNat i = v) (hr : own_G w p l e R s m args below meth c Z Q h k n (mkF m pc' Ls (.long v :: st))) : own_G w p l e R s m args below meth c Z Q h k n (mkF m pc Ls st) := by
  obtain ⟨hd, rfl⟩ := hd
  subst hv
  exact own_pure K (fun X _ _ _ _ q => XT.lconst X.here K.1 rfl (hb K.2.1 hd) q) hr
theorem own_dconst0 (K : own_Cx p s m meth c Z own nm bytes maxL ret) {v : UInt64} (hd : own_D bytes pc (.dconst 0) 1 pc') (hv : FP.dconst0 = v) (hr : own_G w p l e R s m args below meth c Z Q h k n (mkF m pc' Ls (.double v :: st))) : own_G w p l e R s m args below meth c Z Q h k n (mkF m pc Ls st) := by
  obtain ⟨hd, rfl⟩ := hd
  exact own_pure K (fun X _ _ _ _ q => XS.dconst0 X.here K.1 rfl (hb K.2.1 hd) hv q) hr
theorem own_dconst1 (K : own_Cx p s m meth c Z own nm bytes maxL ret) {v : UInt64} (hd : own_D bytes pc (.dconst 1) 1 pc') (hv : FP.dconst1 = v) (hr : own_G w p l e R s m args below meth c Z Q h k n (mkF m pc' Ls (.double v :: st))) : own_G w p l e R s m args below meth c Z Q h k n (mkF m pc Ls st) := by
  obtain ⟨hd, rfl⟩ := hd
  exact own_pure K (fun X _ _ _ _ q => XS.dconst1 X.here K.1 rfl (hb K.2.1 hd) hv q) hr
theorem own_aconstNull (K : own_Cx p s m meth c Z own nm bytes maxL ret)  (hd : own_D bytes pc (.aconst_null) 1 pc') (hr : own_G w p l e R s m args below meth c Z Q h k n (mkF m pc' Ls (.null :: st))) : own_G w p l e R s m args below meth c Z Q h k n (mkF m pc Ls (st)) := by
  obtain ⟨hd, rfl⟩ := hd
  exact own_pure K (fun X _ _ _ _ q => XS.aconstNull X.here K.1 rfl (hb K.2.1 hd)  q) hr
theorem own_iadd (K : own_Cx p s m meth c Z own nm bytes maxL ret) {x y : Int32} (hd : own_D bytes pc (.iadd) 1 pc') (hr : own_G w p l e R s m args below meth c Z Q h k n (mkF m pc' Ls (.int (x + y) :: st))) : own_G w p l e R s m args below meth c Z Q h k n (mkF m pc Ls (.int y :: .int x :: st)) := by
  obtain ⟨hd, rfl⟩ := hd
  exact own_pure K (fun X _ _ _ _ q => XS.iadd X.here K.1 rfl (hb K.2.1 hd) rfl q) hr
theorem own_isub (K : own_Cx p s m meth c Z own nm bytes maxL ret) {x y : Int32} (hd : own_D bytes pc (.isub) 1 pc') (hr : own_G w p l e R s m args below meth c Z Q h k n (mkF m pc' Ls (.int (x - y) :: st))) : own_G w p l e R s m args below meth c Z Q h k n (mkF m pc Ls (.int y :: .int x :: st)) := by
  obtain ⟨hd, rfl⟩ := hd
  exact own_pure K (fun X _ _ _ _ q => XS.isub X.here K.1 rfl (hb K.2.1 hd) rfl q) hr
theorem own_iand (K : own_Cx p s m meth c Z own nm bytes maxL ret) {x y : Int32} (hd : own_D bytes pc (.iand) 1 pc') (hr : own_G w p l e R s m args below meth c Z Q h k n (mkF m pc' Ls (.int (x &&& y) :: st))) : own_G w p l e R s m args below meth c Z Q h k n (mkF m pc Ls (.int y :: .int x :: st)) := by
  obtain ⟨hd, rfl⟩ := hd
  exact own_pure K (fun X _ _ _ _ q => XS.iand X.here K.1 rfl (hb K.2.1 hd) rfl q) hr
theorem own_imul (K : own_Cx p s m meth c Z own nm bytes maxL ret) {x y : Int32} (hd : own_D bytes pc (.imul) 1 pc') (hr : own_G w p l e R s m args below meth c Z Q h k n (mkF m pc' Ls (.int (x * y) :: st))) : own_G w p l e R s m args below meth c Z Q h k n (mkF m pc Ls (.int y :: .int x :: st)) := by
  obtain ⟨hd, rfl⟩ := hd
  exact own_pure K (fun X _ _ _ _ q => XS.imul X.here K.1 rfl (hb K.2.1 hd) rfl q) hr
theorem own_ixor (K : own_Cx p s m meth c Z own nm bytes maxL ret) {x y : Int32} (hd : own_D bytes pc (.ixor) 1 pc') (hr : own_G w p l e R s m args below meth c Z Q h k n (mkF m pc' Ls (.int (x ^^^ y) :: st))) : own_G w p l e R s m args below meth c Z Q h k n (mkF m pc Ls (.int y :: .int x :: st)) := by
  obtain ⟨hd, rfl⟩ := hd
  exact own_pure K (fun X _ _ _ _ q => XT.ixor X.here K.1 rfl (hb K.2.1 hd) rfl q) hr
theorem own_ior (K : own_Cx p s m meth c Z own nm bytes maxL ret) {x y : Int32} (hd : own_D bytes pc (.ior) 1 pc') (hr : own_G w p l e R s m args below meth c Z Q h k n (mkF m pc' Ls (.int (x ||| y) :: st))) : own_G w p l e R s m args below meth c Z Q h k n (mkF m pc Ls (.int y :: .int x :: st)) := by
  obtain ⟨hd, rfl⟩ := hd
  exact own_pure K (fun X _ _ _ _ q => XT.ior X.here K.1 rfl (hb K.2.1 hd) rfl q) hr
theorem own_ishl (K : own_Cx p s m meth c Z own nm bytes maxL ret) {x y : Int32} (hd : own_D bytes pc (.ishl) 1 pc') (hr : own_G w p l e R s m args below meth c Z Q h k n (mkF m pc' Ls (.int (x <<< (y &&& 31)) :: st))) : own_G w p l e R s m args below meth c Z Q h k n (mkF m pc Ls (.int y :: .int x :: st)) := by
  obtain ⟨hd, rfl⟩ := hd
  exact own_pure K (fun X _ _ _ _ q => XT.ishl X.here K.1 rfl (hb K.2.1 hd) rfl q) hr
theorem own_ishr (K : own_Cx p s m meth c Z own nm bytes maxL ret) {x y : Int32} (hd : own_D bytes pc (.ishr) 1 pc') (hr : own_G w p l e R s m args below meth c Z Q h k n (mkF m pc' Ls (.int (x >>> (y &&& 31)) :: st))) : own_G w p l e R s m args below meth c Z Q h k n (mkF m pc Ls (.int y :: .int x :: st)) := by
  obtain ⟨hd, rfl⟩ := hd
  exact own_pure K (fun X _ _ _ _ q => XT.ishr X.here K.1 rfl (hb K.2.1 hd) rfl q) hr
theorem own_iushr (K : own_Cx p s m meth c Z own nm bytes maxL ret) {x y : Int32} (hd : own_D bytes pc (.iushr) 1 pc') (hr : own_G w p l e R s m args below meth c Z Q h k n (mkF m pc' Ls (.int (XT.ushr x y) :: st))) : own_G w p l e R s m args below meth c Z Q h k n (mkF m pc Ls (.int y :: .int x :: st)) := by
  obtain ⟨hd, rfl⟩ := hd
  exact own_pure K (fun X _ _ _ _ q => XT.iushr X.here K.1 rfl (hb K.2.1 hd) rfl q) hr
theorem own_ladd (K : own_Cx p s m meth c Z own nm bytes maxL ret) {x y : Int64} (hd : own_D bytes pc (.ladd) 1 pc') (hr : own_G w p l e R s m args below meth c Z Q h k n (mkF m pc' Ls (.long (x + y) :: st))) : own_G w p l e R s m args below meth c Z Q h k n (mkF m pc Ls (.long y :: .long x :: st)) := by
  obtain ⟨hd, rfl⟩ := hd
  exact own_pure K (fun X _ _ _ _ q => XT.ladd X.here K.1 rfl (hb K.2.1 hd) rfl q) hr
theorem own_lsub (K : own_Cx p s m meth c Z own nm bytes maxL ret) {x y : Int64} (hd : own_D bytes pc (.lsub) 1 pc') (hr : own_G w p l e R s m args below meth c Z Q h k n (mkF m pc' Ls (.long (x - y) :: st))) : own_G w p l e R s m args below meth c Z Q h k n (mkF m pc Ls (.long y :: .long x :: st)) := by
  obtain ⟨hd, rfl⟩ := hd
  exact own_pure K (fun X _ _ _ _ q => XT.lsub X.here K.1 rfl (hb K.2.1 hd) rfl q) hr
theorem own_lmul (K : own_Cx p s m meth c Z own nm bytes maxL ret) {x y : Int64} (hd : own_D bytes pc (.lmul) 1 pc') (hr : own_G w p l e R s m args below meth c Z Q h k n (mkF m pc' Ls (.long (x * y) :: st))) : own_G w p l e R s m args below meth c Z Q h k n (mkF m pc Ls (.long y :: .long x :: st)) := by
  obtain ⟨hd, rfl⟩ := hd
  exact own_pure K (fun X _ _ _ _ q => XT.lmul X.here K.1 rfl (hb K.2.1 hd) rfl q) hr
theorem own_land (K : own_Cx p s m meth c Z own nm bytes maxL ret) {x y : Int64} (hd : own_D bytes pc (.land) 1 pc') (hr : own_G w p l e R s m args below meth c Z Q h k n (mkF m pc' Ls (.long (x &&& y) :: st))) : own_G w p l e R s m args below meth c Z Q h k n (mkF m pc Ls (.long y :: .long x :: st)) := by
  obtain ⟨hd, rfl⟩ := hd
  exact own_pure K (fun X _ _ _ _ q => XT.land X.here K.1 rfl (hb K.2.1 hd) rfl q) hr
theorem own_lor (K : own_Cx p s m meth c Z own nm bytes maxL ret) {x y : Int64} (hd : own_D bytes pc (.lor) 1 pc') (hr : own_G w p l e R s m args below meth c Z Q h k n (mkF m pc' Ls (.long (x ||| y) :: st))) : own_G w p l e R s m args below meth c Z Q h k n (mkF m pc Ls (.long y :: .long x :: st)) := by
  obtain ⟨hd, rfl⟩ := hd
  exact own_pure K (fun X _ _ _ _ q => XT.lor X.here K.1 rfl (hb K.2.1 hd) rfl q) hr
theorem own_lxor (K : own_Cx p s m meth c Z own nm bytes maxL ret) {x y : Int64} (hd : own_D bytes pc (.lxor) 1 pc') (hr : own_G w p l e R s m args below meth c Z Q h k n (mkF m pc' Ls (.long (x ^^^ y) :: st))) : own_G w p l e R s m args below meth c Z Q h k n (mkF m pc Ls (.long y :: .long x :: st)) := by
  obtain ⟨hd, rfl⟩ := hd
  exact own_pure K (fun X _ _ _ _ q => XT.lxor X.here K.1 rfl (hb K.2.1 hd) rfl q) hr
theorem own_lshl (K : own_Cx p s m meth c Z own nm bytes maxL ret) {x : Int64} {y : Int32} (hd : own_D bytes pc (.lshl) 1 pc') (hr : own_G w p l e R s m args below meth c Z Q h k n (mkF m pc' Ls (.long (x <<< (y.toInt64 &&& 63)) :: st))) : own_G w p l e R s m args below meth c Z Q h k n (mkF m pc Ls (.int y :: .long x :: st)) := by
  obtain ⟨hd, rfl⟩ := hd
  exact own_pure K (fun X _ _ _ _ q => XT.lshl X.here K.1 rfl (hb K.2.1 hd) rfl q) hr
theorem own_lshr (K : own_Cx p s m meth c Z own nm bytes maxL ret) {x : Int64} {y : Int32} (hd : own_D bytes pc (.lshr) 1 pc') (hr : own_G w p l e R s m args below meth c Z Q h k n (mkF m pc' Ls (.long (x >>> (y.toInt64 &&& 63)) :: st))) : own_G w p l e R s m args below meth c Z Q h k n (mkF m pc Ls (.int y :: .long x :: st)) := by
  obtain ⟨hd, rfl⟩ := hd
  exact own_pure K (fun X _ _ _ _ q => XT.lshr X.here K.1 rfl (hb K.2.1 hd) rfl q) hr
theorem own_lushr (K : own_Cx p s m meth c Z own nm bytes maxL ret) {x : Int64} {y : Int32} (hd : own_D bytes pc (.lushr) 1 pc') (hr : own_G w p l e R s m args below meth c Z Q h k n (mkF m pc' Ls (.long (XT.ushrL x y) :: st))) : own_G w p l e R s m args below meth c Z Q h k n (mkF m pc Ls (.int y :: .long x :: st)) := by
  obtain ⟨hd, rfl⟩ := hd
  exact own_pure K (fun X _ _ _ _ q => XT.lushr X.here K.1 rfl (hb K.2.1 hd) rfl q) hr
theorem own_lcmp (K : own_Cx p s m meth c Z own nm bytes maxL ret) {x y : Int64} (hd : own_D bytes pc (.lcmp) 1 pc') (hr : own_G w p l e R s m args below meth c Z Q h k n (mkF m pc' Ls (.int (XT.cmpL x y) :: st))) : own_G w p l e R s m args below meth c Z Q h k n (mkF m pc Ls (.long y :: .long x :: st)) := by
  obtain ⟨hd, rfl⟩ := hd
  exact own_pure K (fun X _ _ _ _ q => XT.lcmp X.here K.1 rfl (hb K.2.1 hd) rfl q) hr
theorem own_idiv (K : own_Cx p s m meth c Z own nm bytes maxL ret) {x y : Int32} (hd : own_D bytes pc (.idiv) 1 pc') (hy : y ≠ 0) (hr : own_G w p l e R s m args below meth c Z Q h k n (mkF m pc' Ls (.int (x / y) :: st))) : own_G w p l e R s m args below meth c Z Q h k n (mkF m pc Ls (.int y :: .int x :: st)) := by
  obtain ⟨hd, rfl⟩ := hd
  exact own_pure K (fun X _ _ _ _ q => XS.idiv X.here K.1 rfl (hb K.2.1 hd) rfl hy q) hr
theorem own_ldiv (K : own_Cx p s m meth c Z own nm bytes maxL ret) {x y : Int64} (hd : own_D bytes pc (.ldiv) 1 pc') (hy : y ≠ 0) (hr : own_G w p l e R s m args below meth c Z Q h k n (mkF m pc' Ls (.long (x / y) :: st))) : own_G w p l e R s m args below meth c Z Q h k n (mkF m pc Ls (.long y :: .long x :: st)) := by
  obtain ⟨hd, rfl⟩ := hd
  exact own_pure K (fun X _ _ _ _ q => XT.ldiv X.here K.1 rfl (hb K.2.1 hd) rfl hy q) hr
theorem own_irem (K : own_Cx p s m meth c Z own nm bytes maxL ret) {x y : Int32} (hd : own_D bytes pc .irem 1 pc') (hy : y ≠ 0) (hr : own_G w p l e R s m args below meth c Z Q h k n (mkF m pc' Ls (.int (x % y) :: st))) : own_G w p l e R s m args below meth c Z Q h k n (mkF m pc Ls (.int y :: .int x :: st)) := by
  obtain ⟨hd, rfl⟩ := hd
  exact own_pure K (fun X _ _ _ _ q => iremM X K.1 rfl (hb K.2.1 hd) rfl hy q) hr
theorem own_ineg (K : own_Cx p s m meth c Z own nm bytes maxL ret) {x : Int32} (hd : own_D bytes pc (.ineg) 1 pc') (hr : own_G w p l e R s m args below meth c Z Q h k n (mkF m pc' Ls (.int (-x) :: st))) : own_G w p l e R s m args below meth c Z Q h k n (mkF m pc Ls (.int x :: st)) := by
  obtain ⟨hd, rfl⟩ := hd
  exact own_pure K (fun X _ _ _ _ q => XS.ineg X.here K.1 rfl (hb K.2.1 hd) rfl q) hr
theorem own_lneg (K : own_Cx p s m meth c Z own nm bytes maxL ret) {x : Int64} (hd : own_D bytes pc (.lneg) 1 pc') (hr : own_G w p l e R s m args below meth c Z Q h k n (mkF m pc' Ls (.long (-x) :: st))) : own_G w p l e R s m args below meth c Z Q h k n (mkF m pc Ls (.long x :: st)) := by
  obtain ⟨hd, rfl⟩ := hd
  exact own_pure K (fun X _ _ _ _ q => XT.lneg X.here K.1 rfl (hb K.2.1 hd) rfl q) hr
theorem own_i2l (K : own_Cx p s m meth c Z own nm bytes maxL ret) {x : Int32} (hd : own_D bytes pc (.i2l) 1 pc') (hr : own_G w p l e R s m args below meth c Z Q h k n (mkF m pc' Ls (.long (x.toInt64) :: st))) : own_G w p l e R s m args below meth c Z Q h k n (mkF m pc Ls (.int x :: st)) := by
  obtain ⟨hd, rfl⟩ := hd
  exact own_pure K (fun X _ _ _ _ q => XT.i2l X.here K.1 rfl (hb K.2.1 hd) rfl q) hr
theorem own_l2i (K : own_Cx p s m meth c Z own nm bytes maxL ret) {x : Int64} (hd : own_D bytes pc (.l2i) 1 pc') (hr : own_G w p l e R s m args below meth c Z Q h k n (mkF m pc' Ls (.int (x.toInt32) :: st))) : own_G w p l e R s m args below meth c Z Q h k n (mkF m pc Ls (.long x :: st)) := by
  obtain ⟨hd, rfl⟩ := hd
  exact own_pure K (fun X _ _ _ _ q => XT.l2i X.here K.1 rfl (hb K.2.1 hd) rfl q) hr
theorem own_i2b (K : own_Cx p s m meth c Z own nm bytes maxL ret) {x : Int32} (hd : own_D bytes pc (.i2b) 1 pc') (hr : own_G w p l e R s m args below meth c Z Q h k n (mkF m pc' Ls (.int (x.toInt8.toInt32) :: st))) : own_G w p l e R s m args below meth c Z Q h k n (mkF m pc Ls (.int x :: st)) := by
  obtain ⟨hd, rfl⟩ := hd
  exact own_pure K (fun X _ _ _ _ q => XT.i2b X.here K.1 rfl (hb K.2.1 hd) rfl q) hr
theorem own_i2c (K : own_Cx p s m meth c Z own nm bytes maxL ret) {x : Int32} (hd : own_D bytes pc (.i2c) 1 pc') (hr : own_G w p l e R s m args below meth c Z Q h k n (mkF m pc' Ls (.int (x.toUInt32.toUInt16.toUInt32.toInt32) :: st))) : own_G w p l e R s m args below meth c Z Q h k n (mkF m pc Ls (.int x :: st)) := by
  obtain ⟨hd, rfl⟩ := hd
  exact own_pure K (fun X _ _ _ _ q => XT.i2c X.here K.1 rfl (hb K.2.1 hd) rfl q) hr
theorem own_i2s (K : own_Cx p s m meth c Z own nm bytes maxL ret) {x : Int32} (hd : own_D bytes pc (.i2s) 1 pc') (hr : own_G w p l e R s m args below meth c Z Q h k n (mkF m pc' Ls (.int (x.toInt16.toInt32) :: st))) : own_G w p l e R s m args below meth c Z Q h k n (mkF m pc Ls (.int x :: st)) := by
  obtain ⟨hd, rfl⟩ := hd
  exact own_pure K (fun X _ _ _ _ q => XT.i2s X.here K.1 rfl (hb K.2.1 hd) rfl q) hr
theorem own_i2d (K : own_Cx p s m meth c Z own nm bytes maxL ret) {x : Int32} (hd : own_D bytes pc (.i2d) 1 pc') (hr : own_G w p l e R s m args below meth c Z Q h k n (mkF m pc' Ls (.double (FP.i2d x) :: st))) : own_G w p l e R s m args below meth c Z Q h k n (mkF m pc Ls (.int x :: st)) := by
  obtain ⟨hd, rfl⟩ := hd
  exact own_pure K (fun X _ _ _ _ q => XS.i2dS X.here K.1 rfl (hb K.2.1 hd) rfl rfl q) hr
theorem own_l2d (K : own_Cx p s m meth c Z own nm bytes maxL ret) {x : Int64} (hd : own_D bytes pc (.l2d) 1 pc') (hr : own_G w p l e R s m args below meth c Z Q h k n (mkF m pc' Ls (.double (FP.l2d x) :: st))) : own_G w p l e R s m args below meth c Z Q h k n (mkF m pc Ls (.long x :: st)) := by
  obtain ⟨hd, rfl⟩ := hd
  exact own_pure K (fun X _ _ _ _ q => XS.l2dS X.here K.1 rfl (hb K.2.1 hd) rfl rfl q) hr
theorem own_dneg (K : own_Cx p s m meth c Z own nm bytes maxL ret) {x : UInt64} (hd : own_D bytes pc (.dneg) 1 pc') (hr : own_G w p l e R s m args below meth c Z Q h k n (mkF m pc' Ls (.double (FP.dneg x) :: st))) : own_G w p l e R s m args below meth c Z Q h k n (mkF m pc Ls (.double x :: st)) := by
  obtain ⟨hd, rfl⟩ := hd
  exact own_pure K (fun X _ _ _ _ q => XS.dnegS X.here K.1 rfl (hb K.2.1 hd) rfl rfl q) hr
theorem own_dcmp (K : own_Cx p s m meth c Z own nm bytes maxL ret) {oo : CmpOp} {x y : UInt64} (hd : own_D bytes pc (.dcmp oo) 1 pc') (hr : own_G w p l e R s m args below meth c Z Q h k n (mkF m pc' Ls (.int (cmpValue (FP.dcmp x y) oo) :: st))) : own_G w p l e R s m args below meth c Z Q h k n (mkF m pc Ls (.double y :: .double x :: st)) := by
  obtain ⟨hd, rfl⟩ := hd
  exact own_pure K (fun X _ _ _ _ q => XS.dcmpS X.here K.1 rfl (hb K.2.1 hd) rfl rfl q) hr
theorem own_dadd (K : own_Cx p s m meth c Z own nm bytes maxL ret) {x y : UInt64} (hd : own_D bytes pc (.dadd) 1 pc') (hn : Jvm.Free.Fl.NoNaN64 (FP.dadd x y)) (hr : own_G w p l e R s m args below meth c Z Q h k n (mkF m pc' Ls (.double (FP.dadd x y) :: st))) : own_G w p l e R s m args below meth c Z Q h k n (mkF m pc Ls (.double y :: .double x :: st)) := by
  obtain ⟨hd, rfl⟩ := hd
  exact own_pure K (fun X _ _ _ _ q => XS.daddS X.here K.1 rfl (hb K.2.1 hd) rfl hn rfl q) hr
theorem own_dsub (K : own_Cx p s m meth c Z own nm bytes maxL ret) {x y : UInt64} (hd : own_D bytes pc (.dsub) 1 pc') (hn : Jvm.Free.Fl.NoNaN64 (FP.dsub x y)) (hr : own_G w p l e R s m args below meth c Z Q h k n (mkF m pc' Ls (.double (FP.dsub x y) :: st))) : own_G w p l e R s m args below meth c Z Q h k n (mkF m pc Ls (.double y :: .double x :: st)) := by
  obtain ⟨hd, rfl⟩ := hd
  exact own_pure K (fun X _ _ _ _ q => XS.dsubS X.here K.1 rfl (hb K.2.1 hd) rfl hn rfl q) hr
theorem own_dmul (K : own_Cx p s m meth c Z own nm bytes maxL ret) {x y : UInt64} (hd : own_D bytes pc (.dmul) 1 pc') (hn : Jvm.Free.Fl.NoNaN64 (FP.dmul x y)) (hr : own_G w p l e R s m args below meth c Z Q h k n (mkF m pc' Ls (.double (FP.dmul x y) :: st))) : own_G w p l e R s m args below meth c Z Q h k n (mkF m pc Ls (.double y :: .double x :: st)) := by
  obtain ⟨hd, rfl⟩ := hd
  exact own_pure K (fun X _ _ _ _ q => XS.dmulS X.here K.1 rfl (hb K.2.1 hd) rfl hn rfl q) hr
theorem own_ddiv (K : own_Cx p s m meth c Z own nm bytes maxL ret) {x y : UInt64} (hd : own_D bytes pc (.ddiv) 1 pc') (hn : Jvm.Free.Fl.NoNaN64 (FP.ddiv x y)) (hr : own_G w p l e R s m args below meth c Z Q h k n (mkF m pc' Ls (.double (FP.ddiv x y) :: st))) : own_G w p l e R s m args below meth c Z Q h k n (mkF m pc Ls (.double y :: .double x :: st)) := by
  obtain ⟨hd, rfl⟩ := hd
  exact own_pure K (fun X _ _ _ _ q => XS.ddivS X.here K.1 rfl (hb K.2.1 hd) rfl hn rfl q) hr
theorem own_dup (K : own_Cx p s m meth c Z own nm bytes maxL ret) {x : Value} (hd : own_D bytes pc (.dup) 1 pc') (hc : x.category = 1) (hr : own_G w p l e R s m args below meth c Z Q h k n (mkF m pc' Ls (x :: x :: st))) : own_G w p l e R s m args below meth c Z Q h k n (mkF m pc Ls (x :: st)) := by
  obtain ⟨hd, rfl⟩ := hd
  exact own_pure K (fun X _ _ _ _ q => XS.dup X.here K.1 rfl (hb K.2.1 hd) rfl hc q) hr
theorem own_pop (K : own_Cx p s m meth c Z own nm bytes maxL ret) {x : Value} (hd : own_D bytes pc (.pop) 1 pc') (hc : x.category = 1) (hr : own_G w p l e R s m args below meth c Z Q h k n (mkF m pc' Ls (st))) : own_G w p l e R s m args below meth c Z Q h k n (mkF m pc Ls (x :: st)) := by
  obtain ⟨hd, rfl⟩ := hd
  exact own_pure K (fun X _ _ _ _ q => XT.pop X.here K.1 rfl (hb K.2.1 hd) rfl hc q) hr
theorem own_dupX1 (K : own_Cx p s m meth c Z own nm bytes maxL ret) {x y : Value} (hd : own_D bytes pc (.dup_x1) 1 pc') (hc : x.category = 1) (hc' : y.category = 1) (hr : own_G w p l e R s m args below meth c Z Q h k n (mkF m pc' Ls (x :: y :: x :: st))) : own_G w p l e R s m args below meth c Z Q h k n (mkF m pc Ls (x :: y :: st)) := by
  obtain ⟨hd, rfl⟩ := hd
  exact own_pure K (fun X _ _ _ _ q => XT.dupX1 X.here K.1 rfl (hb K.2.1 hd) rfl hc hc' q) hr
theorem own_dup2 (K : own_Cx p s m meth c Z own nm bytes maxL ret) {x y : Value} (hd : own_D bytes pc (.dup2) 1 pc') (hc : x.category = 1) (hc' : y.category = 1) (hr : own_G w p l e R s m args below meth c Z Q h k n (mkF m pc' Ls (x :: y :: x :: y :: st))) : own_G w p l e R s m args below meth c Z Q h k n (mkF m pc Ls (x :: y :: st)) := by
  obtain ⟨hd, rfl⟩ := hd
  exact own_pure K (fun X _ _ _ _ q => XT.dup2 X.here K.1 rfl (hb K.2.1 hd) rfl hc hc' q) hr
theorem own_iinc (K : own_Cx p s m meth c Z own nm bytes maxL ret) {kk : Nat} {cst : Int} {x y : Int32} (hd : own_D bytes pc (.iinc kk cst) 3 pc') (hl : Ls[kk]? = some (.val (.int x))) (hy : x + Int32.ofInt cst = y) (hl' : storeLocals Ls kk (.int y) = some Ls') (hr : own_G w p l e R s m args below meth c Z Q h k n (mkF m pc' Ls' st)) : own_G w p l e R s m args below meth c Z Q h k n (mkF m pc Ls st) := by
  obtain ⟨hd, rfl⟩ := hd
  subst hy
  exact own_pure K (fun X _ _ _ _ q => XS.iinc X.here K.1 rfl (hb K.2.1 hd) hl hl' q) hr
theorem own_goto (K : own_Cx p s m meth c Z own nm bytes maxL ret) {off : Int} {pcF : Nat} (hd : own_B bytes pc (.goto off) off pcF pcT) (hr : own_G w p l e R s m args below meth c Z Q h k n (mkF m pcT Ls st)) : own_G w p l e R s m args below meth c Z Q h k n (mkF m pc Ls st) := by
  obtain ⟨hd, -, h1, h2⟩ := hd
  exact own_pure K (fun X _ _ _ _ q => XS.goto X.here K.1 rfl rfl (hb K.2.1 hd) h1 h2 q) hr
theorem own_ldcI (K : own_Cx p s m meth c Z own nm bytes maxL ret) {i : Nat} {v : Int32} (hd : own_D bytes pc (.ldc i) 2 pc') (wc : (Cond.constant own i v).before a0 Z = true) (hr : own_G w p l e R s m args below meth c Z Q h k n (mkF m pc' Ls (.int v :: st))) : own_G w p l e R s m args below meth c Z Q h k n (mkF m pc Ls st) := by
  obtain ⟨hd, rfl⟩ := hd
  exact own_pure K (fun X hZ ho _ _ q => X.ldcI K.1 ho (mvT hZ wc) rfl (hb K.2.1 hd) q) hr
theorem own_ldc2J (K : own_Cx p s m meth c Z own nm bytes maxL ret) {i : Nat} {v : Int64} (hd : own_D bytes pc (.ldc2_w i) 3 pc') (wc : (Cond.constantLong own i v).before a0 Z = true) (hr : own_G w p l e R s m args below meth c Z Q h k n (mkF m pc' Ls (.long v :: st))) : own_G w p l e R s m args below meth c Z Q h k n (mkF m pc Ls st) := by
  obtain ⟨hd, rfl⟩ := hd
  exact own_pure K (fun X hZ ho _ _ q => X.ldc2J K.1 ho (mvT hZ wc) rfl (hb K.2.1 hd) q) hr
theorem own_ldc2D (K : own_Cx p s m meth c Z own nm bytes maxL ret) {i : Nat} {v : UInt64} (hd : own_D bytes pc (.ldc2_w i) 3 pc') (wc : (Cond.constantDouble own i v).before a0 Z = true) (hr : own_G w p l e R s m args below meth c Z Q h k n (mkF m pc' Ls (.double v :: st))) : own_G w p l e R s m args below meth c Z Q h k n (mkF m pc Ls st) := by
  obtain ⟨hd, rfl⟩ := hd
  exact own_pure K (fun X hZ ho _ _ q => X.ldc2DoubleC K.1 ho (mvT hZ wc) (g := mkF m pc Ls st) rfl (hb K.2.1 hd) _ q) hr
theorem own_i0_eq (x : Int32) : (ifCond.holds .eq x = true) = (x = 0) := by simp [ifCond.holds, Int32.lt_iff_toInt_lt, Int32.le_iff_toInt_le]
theorem own_ii_eq (x y : Int32) : (if_icmp.holds .eq x y = true) = (x = y) := by simp [if_icmp.holds, Int32.lt_iff_toInt_lt, Int32.le_iff_toInt_le]
theorem own_ifeq (K : own_Cx p s m meth c Z own nm bytes maxL ret) {off : Int} {pcF : Nat} {x : Int32} (hd : own_B bytes pc (.ifCond .eq off) off pcF pcT) (hT : (x = 0) → own_G w p l e R s m args below meth c Z Q h k n (mkF m pcT Ls st)) (hF : ¬ (x = 0) → own_G w p l e R s m args below meth c Z Q h k n (mkF m pcF Ls st)) : own_G w p l e R s m args below meth c Z Q h k n (mkF m pc Ls (.int x :: st)) := by
  obtain ⟨hd, rfl, h1, h2⟩ := hd
  by_cases q : ifCond.holds .eq x = true
  · exact own_pure K (fun X _ _ _ _ r => XS.ifYes X.here K.1 rfl rfl (hb K.2.1 hd) rfl q h1 h2 r) (hT ((own_i0_eq x).mp q))
  · exact own_pure K (fun X _ _ _ _ r => XS.ifNo X.here K.1 rfl (hb K.2.1 hd) rfl (Bool.eq_false_iff.mpr q) r) (hF fun z => q ((own_i0_eq x).mpr z))
theorem own_icmpeq (K : own_Cx p s m meth c Z own nm bytes maxL ret) {off : Int} {pcF : Nat} {x y : Int32} (hd : own_B bytes pc (.if_icmp .eq off) off pcF pcT) (hT : (x = y) → own_G w p l e R s m args below meth c Z Q h k n (mkF m pcT Ls st)) (hF : ¬ (x = y) → own_G w p l e R s m args below meth c Z Q h k n (mkF m pcF Ls st)) : own_G w p l e R s m args below meth c Z Q h k n (mkF m pc Ls (.int y :: .int x :: st)) := by
  obtain ⟨hd, rfl, h1, h2⟩ := hd
  by_cases q : if_icmp.holds .eq x y = true
  · exact own_pure K (fun X _ _ _ _ r => XS.icmpYes X.here K.1 rfl rfl (hb K.2.1 hd) rfl q h1 h2 r) (hT ((own_ii_eq x y).mp q))
  · exact own_pure K (fun X _ _ _ _ r => XS.icmpNo X.here K.1 rfl (hb K.2.1 hd) rfl (Bool.eq_false_iff.mpr q) r) (hF fun z => q ((own_ii_eq x y).mpr z))
theorem own_i0_ne (x : Int32) : (ifCond.holds .ne x = true) = (x ≠ 0) := by simp [ifCond.holds, Int32.lt_iff_toInt_lt, Int32.le_iff_toInt_le]
theorem own_ii_ne (x y : Int32) : (if_icmp.holds .ne x y = true) = (x ≠ y) := by simp [if_icmp.holds, Int32.lt_iff_toInt_lt, Int32.le_iff_toInt_le]
theorem own_ifne (K : own_Cx p s m meth c Z own nm bytes maxL ret) {off : Int} {pcF : Nat} {x : Int32} (hd : own_B bytes pc (.ifCond .ne off) off pcF pcT) (hT : (x ≠ 0) → own_G w p l e R s m args below meth c Z Q h k n (mkF m pcT Ls st)) (hF : ¬ (x ≠ 0) → own_G w p l e R s m args below meth c Z Q h k n (mkF m pcF Ls st)) : own_G w p l e R s m args below meth c Z Q h k n (mkF m pc Ls (.int x :: st)) := by
  obtain ⟨hd, rfl, h1, h2⟩ := hd
  by_cases q : ifCond.holds .ne x = true
  · exact own_pure K (fun X _ _ _ _ r => XS.ifYes X.here K.1 rfl rfl (hb K.2.1 hd) rfl q h1 h2 r) (hT ((own_i0_ne x).mp q))
  · exact own_pure K (fun X _ _ _ _ r => XS.ifNo X.here K.1 rfl (hb K.2.1 hd) rfl (Bool.eq_false_iff.mpr q) r) (hF fun z => q ((own_i0_ne x).mpr z))
theorem own_icmpne (K : own_Cx p s m meth c Z own nm bytes maxL ret) {off : Int} {pcF : Nat} {x y : Int32} (hd : own_B bytes pc (.if_icmp .ne off) off pcF pcT) (hT : (x ≠ y) → own_G w p l e R s m args below meth c Z Q h k n (mkF m pcT Ls st)) (hF : ¬ (x ≠ y) → own_G w p l e R s m args below meth c Z Q h k n (mkF m pcF Ls st)) : own_G w p l e R s m args below meth c Z Q h k n (mkF m pc Ls (.int y :: .int x :: st)) := by
  obtain ⟨hd, rfl, h1, h2⟩ := hd
  by_cases q : if_icmp.holds .ne x y = true
  · exact own_pure K (fun X _ _ _ _ r => XS.icmpYes X.here K.1 rfl rfl (hb K.2.1 hd) rfl q h1 h2 r) (hT ((own_ii_ne x y).mp q))
  · exact own_pure K (fun X _ _ _ _ r => XS.icmpNo X.here K.1 rfl (hb K.2.1 hd) rfl (Bool.eq_false_iff.mpr q) r) (hF fun z => q ((own_ii_ne x y).mpr z))
theorem own_i0_lt (x : Int32) : (ifCond.holds .lt x = true) = (x.toInt < 0) := by simp [ifCond.holds, Int32.lt_iff_toInt_lt, Int32.le_iff_toInt_le]
theorem own_ii_lt (x y : Int32) : (if_icmp.holds .lt x y = true) = (x.toInt < y.toInt) := by simp [if_icmp.holds, Int32.lt_iff_toInt_lt, Int32.le_iff_toInt_le]
theorem own_iflt (K : own_Cx p s m meth c Z own nm bytes maxL ret) {off : Int} {pcF : Nat} {x : Int32} (hd : own_B bytes pc (.ifCond .lt off) off pcF pcT) (hT : (x.toInt < 0) → own_G w p l e R s m args below meth c Z Q h k n (mkF m pcT Ls st)) (hF : ¬ (x.toInt < 0) → own_G w p l e R s m args below meth c Z Q h k n (mkF m pcF Ls st)) : own_G w p l e R s m args below meth c Z Q h k n (mkF m pc Ls (.int x :: st)) := by
  obtain ⟨hd, rfl, h1, h2⟩ := hd
  by_cases q : ifCond.holds .lt x = true
  · exact own_pure K (fun X _ _ _ _ r => XS.ifYes X.here K.1 rfl rfl (hb K.2.1 hd) rfl q h1 h2 r) (hT ((own_i0_lt x).mp q))
  · exact own_pure K (fun X _ _ _ _ r => XS.ifNo X.here K.1 rfl (hb K.2.1 hd) rfl (Bool.eq_false_iff.mpr q) r) (hF fun z => q ((own_i0_lt x).mpr z))
theorem own_icmplt (K : own_Cx p s m meth c Z own nm bytes maxL ret) {off : Int} {pcF : Nat} {x y : Int32} (hd : own_B bytes pc (.if_icmp .lt off) off pcF pcT) (hT : (x.toInt < y.toInt) → own_G w p l e R s m args below meth c Z Q h k n (mkF m pcT Ls st)) (hF : ¬ (x.toInt < y.toInt) → own_G w p l e R s m args below meth c Z Q h k n (mkF m pcF Ls st)) : own_G w p l e R s m args below meth c Z Q h k n (mkF m pc Ls (.int y :: .int x :: st)) := by
  obtain ⟨hd, rfl, h1, h2⟩ := hd
  by_cases q : if_icmp.holds .lt x y = true
  · exact own_pure K (fun X _ _ _ _ r => XS.icmpYes X.here K.1 rfl rfl (hb K.2.1 hd) rfl q h1 h2 r) (hT ((own_ii_lt x y).mp q))
  · exact own_pure K (fun X _ _ _ _ r => XS.icmpNo X.here K.1 rfl (hb K.2.1 hd) rfl (Bool.eq_false_iff.mpr q) r) (hF fun z => q ((own_ii_lt x y).mpr z))
theorem own_i0_ge (x : Int32) : (ifCond.holds .ge x = true) = (0 ≤ x.toInt) := by simp [ifCond.holds, Int32.lt_iff_toInt_lt, Int32.le_iff_toInt_le]
theorem own_ii_ge (x y : Int32) : (if_icmp.holds .ge x y = true) = (y.toInt ≤ x.toInt) := by simp [if_icmp.holds, Int32.lt_iff_toInt_lt, Int32.le_iff_toInt_le]
theorem own_ifge (K : own_Cx p s m meth c Z own nm bytes maxL ret) {off : Int} {pcF : Nat} {x : Int32} (hd : own_B bytes pc (.ifCond .ge off) off pcF pcT) (hT : (0 ≤ x.toInt) → own_G w p l e R s m args below meth c Z Q h k n (mkF m pcT Ls st)) (hF : ¬ (0 ≤ x.toInt) → own_G w p l e R s m args below meth c Z Q h k n (mkF m pcF Ls st)) : own_G w p l e R s m args below meth c Z Q h k n (mkF m pc Ls (.int x :: st)) := by
  obtain ⟨hd, rfl, h1, h2⟩ := hd
  by_cases q : ifCond.holds .ge x = true
  · exact own_pure K (fun X _ _ _ _ r => XS.ifYes X.here K.1 rfl rfl (hb K.2.1 hd) rfl q h1 h2 r) (hT ((own_i0_ge x).mp q))
  · exact own_pure K (fun X _ _ _ _ r => XS.ifNo X.here K.1 rfl (hb K.2.1 hd) rfl (Bool.eq_false_iff.mpr q) r) (hF fun z => q ((own_i0_ge x).mpr z))
theorem own_icmpge (K : own_Cx p s m meth c Z own nm bytes maxL ret) {off : Int} {pcF : Nat} {x y : Int32} (hd : own_B bytes pc (.if_icmp .ge off) off pcF pcT) (hT : (y.toInt ≤ x.toInt) → own_G w p l e R s m args below meth c Z Q h k n (mkF m pcT Ls st)) (hF : ¬ (y.toInt ≤ x.toInt) → own_G w p l e R s m args below meth c Z Q h k n (mkF m pcF Ls st)) : own_G w p l e R s m args below meth c Z Q h k n (mkF m pc Ls (.int y :: .int x :: st)) := by
  obtain ⟨hd, rfl, h1, h2⟩ := hd
  by_cases q : if_icmp.holds .ge x y = true
  · exact own_pure K (fun X _ _ _ _ r => XS.icmpYes X.here K.1 rfl rfl (hb K.2.1 hd) rfl q h1 h2 r) (hT ((own_ii_ge x y).mp q))
  · exact own_pure K (fun X _ _ _ _ r => XS.icmpNo X.here K.1 rfl (hb K.2.1 hd) rfl (Bool.eq_false_iff.mpr q) r) (hF fun z => q ((own_ii_ge x y).mpr z))
theorem own_i0_gt (x : Int32) : (ifCond.holds .gt x = true) = (0 < x.toInt) := by simp [ifCond.holds, Int32.lt_iff_toInt_lt, Int32.le_iff_toInt_le]
theorem own_ii_gt (x y : Int32) : (if_icmp.holds .gt x y = true) = (y.toInt < x.toInt) := by simp [if_icmp.holds, Int32.lt_iff_toInt_lt, Int32.le_iff_toInt_le]
theorem own_ifgt (K : own_Cx p s m meth c Z own nm bytes maxL ret) {off : Int} {pcF : Nat} {x : Int32} (hd : own_B bytes pc (.ifCond .gt off) off pcF pcT) (hT : (0 < x.toInt) → own_G w p l e R s m args below meth c Z Q h k n (mkF m pcT Ls st)) (hF : ¬ (0 < x.toInt) → own_G w p l e R s m args below meth c Z Q h k n (mkF m pcF Ls st)) : own_G w p l e R s m args below meth c Z Q h k n (mkF m pc Ls (.int x :: st)) := by
  obtain ⟨hd, rfl, h1, h2⟩ := hd
  by_cases q : ifCond.holds .gt x = true
  · exact own_pure K (fun X _ _ _ _ r => XS.ifYes X.here K.1 rfl rfl (hb K.2.1 hd) rfl q h1 h2 r) (hT ((own_i0_gt x).mp q))
  · exact own_pure K (fun X _ _ _ _ r => XS.ifNo X.here K.1 rfl (hb K.2.1 hd) rfl (Bool.eq_false_iff.mpr q) r) (hF fun z => q ((own_i0_gt x).mpr z))
theorem own_icmpgt (K : own_Cx p s m meth c Z own nm bytes maxL ret) {off : Int} {pcF : Nat} {x y : Int32} (hd : own_B bytes pc (.if_icmp .gt off) off pcF pcT) (hT : (y.toInt < x.toInt) → own_G w p l e R s m args below meth c Z Q h k n (mkF m pcT Ls st)) (hF : ¬ (y.toInt < x.toInt) → own_G w p l e R s m args below meth c Z Q h k n (mkF m pcF Ls st)) : own_G w p l e R s m args below meth c Z Q h k n (mkF m pc Ls (.int y :: .int x :: st)) := by
  obtain ⟨hd, rfl, h1, h2⟩ := hd
  by_cases q : if_icmp.holds .gt x y = true
  · exact own_pure K (fun X _ _ _ _ r => XS.icmpYes X.here K.1 rfl rfl (hb K.2.1 hd) rfl q h1 h2 r) (hT ((own_ii_gt x y).mp q))
  · exact own_pure K (fun X _ _ _ _ r => XS.icmpNo X.here K.1 rfl (hb K.2.1 hd) rfl (Bool.eq_false_iff.mpr q) r) (hF fun z => q ((own_ii_gt x y).mpr z))
theorem own_i0_le (x : Int32) : (ifCond.holds .le x = true) = (x.toInt ≤ 0) := by simp [ifCond.holds, Int32.lt_iff_toInt_lt, Int32.le_iff_toInt_le]
theorem own_ii_le (x y : Int32) : (if_icmp.holds .le x y = true) = (x.toInt ≤ y.toInt) := by simp [if_icmp.holds, Int32.lt_iff_toInt_lt, Int32.le_iff_toInt_le]
theorem own_ifle (K : own_Cx p s m meth c Z own nm bytes maxL ret) {off : Int} {pcF : Nat} {x : Int32} (hd : own_B bytes pc (.ifCond .le off) off pcF pcT) (hT : (x.toInt ≤ 0) → own_G w p l e R s m args below meth c Z Q h k n (mkF m pcT Ls st)) (hF : ¬ (x.toInt ≤ 0) → own_G w p l e R s m args below meth c Z Q h k n (mkF m pcF Ls st)) : own_G w p l e R s m args below meth c Z Q h k n (mkF m pc Ls (.int x :: st)) := by
  obtain ⟨hd, rfl, h1, h2⟩ := hd
  by_cases q : ifCond.holds .le x = true
  · exact own_pure K (fun X _ _ _ _ r => XS.ifYes X.here K.1 rfl rfl (hb K.2.1 hd) rfl q h1 h2 r) (hT ((own_i0_le x).mp q))
  · exact own_pure K (fun X _ _ _ _ r => XS.ifNo X.here K.1 rfl (hb K.2.1 hd) rfl (Bool.eq_false_iff.mpr q) r) (hF fun z => q ((own_i0_le x).mpr z))
theorem own_icmple (K : own_Cx p s m meth c Z own nm bytes maxL ret) {off : Int} {pcF : Nat} {x y : Int32} (hd : own_B bytes pc (.if_icmp .le off) off pcF pcT) (hT : (x.toInt ≤ y.toInt) → own_G w p l e R s m args below meth c Z Q h k n (mkF m pcT Ls st)) (hF : ¬ (x.toInt ≤ y.toInt) → own_G w p l e R s m args below meth c Z Q h k n (mkF m pcF Ls st)) : own_G w p l e R s m args below meth c Z Q h k n (mkF m pc Ls (.int y :: .int x :: st)) := by
  obtain ⟨hd, rfl, h1, h2⟩ := hd
  by_cases q : if_icmp.holds .le x y = true
  · exact own_pure K (fun X _ _ _ _ r => XS.icmpYes X.here K.1 rfl rfl (hb K.2.1 hd) rfl q h1 h2 r) (hT ((own_ii_le x y).mp q))
  · exact own_pure K (fun X _ _ _ _ r => XS.icmpNo X.here K.1 rfl (hb K.2.1 hd) rfl (Bool.eq_false_iff.mpr q) r) (hF fun z => q ((own_ii_le x y).mpr z))
theorem own_ifnullN (K : own_Cx p s m meth c Z own nm bytes maxL ret) {off : Int} {pcF : Nat} (hd : own_B bytes pc (.ifnull off) off pcF pcT) (hr : own_G w p l e R s m args below meth c Z Q h k n (mkF m pcT Ls st)) : own_G w p l e R s m args below meth c Z Q h k n (mkF m pc Ls (.null :: st)) := by
  obtain ⟨hd, rfl, h1, h2⟩ := hd
  exact own_pure K (fun X _ _ _ _ r => XS.ifnullYes X.here K.1 rfl rfl (hb K.2.1 hd) rfl h1 h2 r) hr
theorem own_ifnullR (K : own_Cx p s m meth c Z own nm bytes maxL ret) {off : Int} {pcF : Nat} {b : Addr} (hd : own_B bytes pc (.ifnull off) off pcF pcT) (hr : own_G w p l e R s m args below meth c Z Q h k n (mkF m pcF Ls st)) : own_G w p l e R s m args below meth c Z Q h k n (mkF m pc Ls (.ref b :: st)) := by
  obtain ⟨hd, rfl, h1, h2⟩ := hd
  exact own_pure K (fun X _ _ _ _ r => XS.ifnullNo X.here K.1 rfl (hb K.2.1 hd) rfl r) hr
theorem own_ifnonnullN (K : own_Cx p s m meth c Z own nm bytes maxL ret) {off : Int} {pcF : Nat} (hd : own_B bytes pc (.ifnonnull off) off pcF pcT) (hr : own_G w p l e R s m args below meth c Z Q h k n (mkF m pcF Ls st)) : own_G w p l e R s m args below meth c Z Q h k n (mkF m pc Ls (.null :: st)) := by
  obtain ⟨hd, rfl, h1, h2⟩ := hd
  exact own_pure K (fun X _ _ _ _ r => XT.ifnonnullNo X.here K.1 rfl (hb K.2.1 hd) rfl r) hr
theorem own_ifnonnullR (K : own_Cx p s m meth c Z own nm bytes maxL ret) {off : Int} {pcF : Nat} {b : Addr} (hd : own_B bytes pc (.ifnonnull off) off pcF pcT) (hr : own_G w p l e R s m args below meth c Z Q h k n (mkF m pcT Ls st)) : own_G w p l e R s m args below meth c Z Q h k n (mkF m pc Ls (.ref b :: st)) := by
  obtain ⟨hd, rfl, h1, h2⟩ := hd
  exact own_pure K (fun X _ _ _ _ r => XT.ifnonnullYes X.here K.1 rfl rfl (hb K.2.1 hd) rfl h1 h2 r) hr
theorem own_acmpeq (K : own_Cx p s m meth c Z own nm bytes maxL ret) {off : Int} {pcF : Nat} {x y : Value} (hd : own_B bytes pc (.if_acmp .eq off) off pcF pcT) (h1' : x.isRef = true) (h2' : y.isRef = true) (hT : (x = y) → own_G w p l e R s m args below meth c Z Q h k n (mkF m pcT Ls st)) (hF : ¬ (x = y) → own_G w p l e R s m args below meth c Z Q h k n (mkF m pcF Ls st)) : own_G w p l e R s m args below meth c Z Q h k n (mkF m pc Ls (y :: x :: st)) := by
  obtain ⟨hd, rfl, h1, h2⟩ := hd
  by_cases q : x = y
  · exact own_pure K (fun X _ _ _ _ r => XT.acmpYes X.here K.1 rfl rfl (hb K.2.1 hd) rfl h1' h2' (decide_eq_true q) h1 h2 r) (hT q)
  · exact own_pure K (fun X _ _ _ _ r => XT.acmpNo X.here K.1 rfl (hb K.2.1 hd) rfl h1' h2' (decide_eq_false q) r) (hF q)
theorem own_acmpne (K : own_Cx p s m meth c Z own nm bytes maxL ret) {off : Int} {pcF : Nat} {x y : Value} (hd : own_B bytes pc (.if_acmp .ne off) off pcF pcT) (h1' : x.isRef = true) (h2' : y.isRef = true) (hT : (x ≠ y) → own_G w p l e R s m args below meth c Z Q h k n (mkF m pcT Ls st)) (hF : ¬ (x ≠ y) → own_G w p l e R s m args below meth c Z Q h k n (mkF m pcF Ls st)) : own_G w p l e R s m args below meth c Z Q h k n (mkF m pc Ls (y :: x :: st)) := by
  obtain ⟨hd, rfl, h1, h2⟩ := hd
  by_cases q : x ≠ y
  · exact own_pure K (fun X _ _ _ _ r => XT.acmpYes X.here K.1 rfl rfl (hb K.2.1 hd) rfl h1' h2' (decide_eq_true q) h1 h2 r) (hT q)
  · exact own_pure K (fun X _ _ _ _ r => XT.acmpNo X.here K.1 rfl (hb K.2.1 hd) rfl h1' h2' (decide_eq_false q) r) (hF q)
theorem own_getfield (K : own_Cx p s m meth c Z own nm bytes maxL ret) {i j q : Nat} {R0 O f d host C : String} {v : Value} {a : Addr} {fs : List (String × String × String × Value)} (hd : own_D bytes pc (.getfield i) 3 pc') (wl : (Cond.fieldLink own i R0 f d).before a0 Z = true ∨ (Cond.fieldLinkNest own i R0 f d host).before a0 Z = true) (via : Via Z R0 O f d) (H : own_H Z h os as) (ho : os[j]? = some (a, C, fs)) (hf : fs[q]? = some (O, f, d, v)) (hr : own_G w p l e R s m args below meth c Z Q h k n (mkF m pc' Ls (v :: st))) : own_G w p l e R s m args below meth c Z Q h k n (mkF m pc Ls (.ref a :: st)) := by
  obtain ⟨hd, rfl⟩ := hd
  refine own_step K (P := fun h' => h' = h) (fun X hZ hw eT N => ?_) (fun h' e => by subst e; exact hr)
  obtain ⟨T', X', e', st⟩ := getF X K.1 hZ hw wl via eT (H.fld ho hf) (g := mkF m pc Ls (.ref a :: st)) rfl rfl (hb K.2.1 hd)
  exact ⟨T', _, _, X', N, e', Nat.le_refl _, rfl, st⟩
theorem own_putfield (K : own_Cx p s m meth c Z own nm bytes maxL ret) {i j q kk : Nat} {R0 O f d host C : String} {v v0 : Value} {a : Addr} {fs : List (String × String × String × Value)} {ty : FieldType} (hd : own_D bytes pc (.putfield i) 3 pc') (wl : (Cond.fieldLink own i R0 f d).before a0 Z = true ∨ (Cond.fieldLinkNest own i R0 f d host).before a0 Z = true) (via : Via Z R0 O f d) (H : own_H Z h os as) (ho : os[j]? = some (a, C, fs)) (hf : fs[q]? = some (O, f, d, v0))
    (L : (Cond.lays C O f d).before a0 Z = true ∨ ((Cond.laysFinal C O f d).before a0 Z = true ∧ own = O ∧ nm = "<init>")) (wi : (Cond.instantiable C kk).before a0 Z = true) (hty : parseFieldDescriptor d = some ty) (hn : narrow ty v = v) (hfit : fits ty v = true) (hr : ∀ h', own_H Z h' (os.set j (a, C, fs.set q (O, f, d, v))) as → own_G w p l e R s m args below meth c Z Q h' k n (mkF m pc' Ls st)) : own_G w p l e R s m args below meth c Z Q h k n (mkF m pc Ls (v :: .ref a :: st)) := by
  obtain ⟨hd, rfl⟩ := hd
  refine own_step K (P := fun h' => own_H Z h' (os.set j (a, C, fs.set q (O, f, d, v))) as) (fun X hZ hw eT N => ?_) hr
  obtain ⟨T', h', X', e', W, st⟩ := putF X K.1 hZ hw wl via eT (H.fld ho hf) (H.atO ho) (L.imp id (fun z => ⟨z.1, z.2.1, K.2.2.2.2.2.2.2.trans z.2.2⟩)) wi hty hn hfit (g := mkF m pc Ls (v :: .ref a :: st)) rfl rfl (hb K.2.1 hd)
  exact ⟨T', h', _, X', Fr.snoc X' N (H.newO ho), e', Nat.le_of_eq (Wr.size W).symm, H.wrO ho hf W, st⟩
theorem own_new (K : own_Cx p s m meth c Z own nm bytes maxL ret) {i kk : Nat} {C : String} {fs : List (String × String × String × Value)} (hd : own_D bytes pc (.new i) 3 pc') (w1 : (Cond.classLink own i C).before a0 Z = true) (w2 : (Cond.instantiable C kk).before a0 Z = true) (w3 : (Cond.initialized C).before a0 Z = true) (H : own_H Z h os as)
    (hF : ∀ f ∈ fs, Laid Z a0 C f.1 f.2.1 f.2.2.1 ∧ ∃ ty, parseFieldDescriptor f.2.2.1 = some ty ∧ f.2.2.2 = defaultValue ty) (hP : fs.Pairwise (fun f g => slotOf Z f.1 f.2.1 f.2.2.1 ≠ slotOf Z g.1 g.2.1 g.2.2.1)) (hc : k + 1 ≤ R.cells) (hl : n + kk ≤ R.slots)
    (hr : ∀ h' a, own_H Z h' ((a, C, fs) :: os) as → own_G w p l e R s m args below meth c Z Q h' (k + 1) (n + kk) (mkF m pc' Ls (.ref a :: st))) : own_G w p l e R s m args below meth c Z Q h k n (mkF m pc Ls st) := by
  obtain ⟨hd, rfl⟩ := hd
  refine own_step K (P := fun h' => own_H Z h' ((h.size, C, fs) :: os) as) (fun X hZ hw eT N => ?_) (fun h' H' => hr h' _ H')
  obtain ⟨T', h', X', e', E, A, D, -, st⟩ := newO X K.1 hZ hw w1 w2 w3 eT (g := mkF m pc Ls st) rfl (hb K.2.1 hd) hc hl
  exact ⟨T', h', _, X', N, e', E.1, H.addO E ⟨A, fun f hf => by obtain ⟨hL, ty, t1, t2⟩ := hF f hf; show Fld Z h' h.size f.1 f.2.1 f.2.2.1 f.2.2.2; rw [t2]; exact D hL t1, hP⟩, st⟩
theorem own_newarray (K : own_Cx p s m meth c Z own nm bytes maxL ret) {aty : ArrayType} {ty : FieldType} {N : Int32} {q : Nat} {ad : String} {vs : List Value} (hd : own_D bytes pc (.newarray aty) 2 pc') (hty : newarray.typeOf aty = ty) (w1 : (Cond.arrayClass ty).before a0 Z = true) (H : own_H Z h os as) (hN : N.toInt = (q : Int)) (had : "[" ++ ty.toString = ad) (hvs : vs = List.replicate q (defaultValue ty)) (hq : q * 8 ≤ 536870912) (hc : k + 1 ≤ R.cells) (hl : n + q ≤ R.slots)
    (hr : ∀ h' a, own_H Z h' os ((a, ty, ad, vs) :: as) → own_G w p l e R s m args below meth c Z Q h' (k + 1) (n + q) (mkF m pc' Ls (.ref a :: st))) : own_G w p l e R s m args below meth c Z Q h k n (mkF m pc Ls (.int N :: st)) := by
  obtain ⟨hd, rfl⟩ := hd
  subst hty
  refine own_step K (P := fun h' => own_H Z h' os ((h.size, newarray.typeOf aty, ad, vs) :: as)) (fun X hZ hw eT N => ?_) (fun h' H' => hr h' _ H')
  have hNq := own_idx hN
  obtain ⟨T', h', cA, X', e', E, A, Ex, st⟩ := newPE X K.1 hZ w1 eT (g := mkF m pc Ls (.int _ :: st)) rfl (hb K.2.1 hd) rfl (by rw [Int32.lt_iff_toInt_lt, hN, show (0 : Int32).toInt = 0 from rfl]; omega) (cap := q) (Nat.le_of_eq hNq) hq hc hl had
  refine ⟨T', h', _, X', N, e', E.1, H.addA E ⟨_, A, ?_, ?_, fun _ => Ex, fun C hC => ?_⟩, st⟩
  · show (newA cA (newarray.typeOf aty) _).slots.toList = vs
    simp [newA, hNq, hvs]
  · intro v hv
    rw [show v = defaultValue (newarray.typeOf aty) from List.eq_of_mem_replicate (hvs ▸ hv)]
    cases aty <;> rfl
  · cases aty <;> cases hC
theorem own_iaload (K : own_Cx p s m meth c Z own nm bytes maxL ret) {i q : Nat} {a : Addr} {ad : String} {vs : List Value} {v : Value} {j : Int32} (hd : own_D bytes pc .iaload 1 pc') (H : own_H Z h os as) (ha : as[i]? = some (a, .int, ad, vs)) (hj : j.toInt = (q : Int)) (hv : vs[q]? = some v) (hr : own_G w p l e R s m args below meth c Z Q h k n (mkF m pc' Ls (v :: st))) : own_G w p l e R s m args below meth c Z Q h k n (mkF m pc Ls (.int j :: .ref a :: st)) := by
  obtain ⟨hd, rfl⟩ := hd
  obtain ⟨-, cl, A, e1, -⟩ := H.2.2.1 _ (own_mem ha)
  have hq := (List.getElem?_eq_some_iff.mp hv).1
  have hsz : cl.slots.size = vs.length := by rw [← Array.length_toList]; exact congrArg List.length e1
  exact own_pure K (fun X hZ _ eT _ r => X.iaload K.1 (by rw [eT]; exact A.1) (State.isArrayOf_alike hZ.alike A.2.1) A.2.2 (by rw [hsz]; exact own_in hj hq) (by rw [own_idx hj, ← Array.getElem?_toList]; exact (show cl.slots.toList = vs from e1) ▸ hv) (g := mkF m pc Ls (.int j :: .ref a :: st)) rfl rfl (hb K.2.1 hd) _ r) hr
theorem own_laload (K : own_Cx p s m meth c Z own nm bytes maxL ret) {i q : Nat} {a : Addr} {ad : String} {vs : List Value} {v : Value} {j : Int32} (hd : own_D bytes pc .laload 1 pc') (H : own_H Z h os as) (ha : as[i]? = some (a, .long, ad, vs)) (hj : j.toInt = (q : Int)) (hv : vs[q]? = some v) (hr : own_G w p l e R s m args below meth c Z Q h k n (mkF m pc' Ls (v :: st))) : own_G w p l e R s m args below meth c Z Q h k n (mkF m pc Ls (.int j :: .ref a :: st)) := by
  obtain ⟨hd, rfl⟩ := hd
  obtain ⟨-, cl, A, e1, -⟩ := H.2.2.1 _ (own_mem ha)
  have hq := (List.getElem?_eq_some_iff.mp hv).1
  have hsz : cl.slots.size = vs.length := by rw [← Array.length_toList]; exact congrArg List.length e1
  exact own_pure K (fun X hZ _ eT _ r => X.laload K.1 (by rw [eT]; exact A.1) (State.isArrayOf_alike hZ.alike A.2.1) A.2.2 (by rw [hsz]; exact own_in hj hq) (by rw [own_idx hj, ← Array.getElem?_toList]; exact (show cl.slots.toList = vs from e1) ▸ hv) (g := mkF m pc Ls (.int j :: .ref a :: st)) rfl rfl (hb K.2.1 hd) _ r) hr
theorem own_daload (K : own_Cx p s m meth c Z own nm bytes maxL ret) {i q : Nat} {a : Addr} {ad : String} {vs : List Value} {v : Value} {j : Int32} (hd : own_D bytes pc .daload 1 pc') (H : own_H Z h os as) (ha : as[i]? = some (a, .double, ad, vs)) (hj : j.toInt = (q : Int)) (hv : vs[q]? = some v) (hr : own_G w p l e R s m args below meth c Z Q h k n (mkF m pc' Ls (v :: st))) : own_G w p l e R s m args below meth c Z Q h k n (mkF m pc Ls (.int j :: .ref a :: st)) := by
  obtain ⟨hd, rfl⟩ := hd
  obtain ⟨-, cl, A, e1, -⟩ := H.2.2.1 _ (own_mem ha)
  have hq := (List.getElem?_eq_some_iff.mp hv).1
  have hsz : cl.slots.size = vs.length := by rw [← Array.length_toList]; exact congrArg List.length e1
  exact own_pure K (fun X hZ _ eT _ r => X.daload K.1 (by rw [eT]; exact A.1) (State.isArrayOf_alike hZ.alike A.2.1) A.2.2 (by rw [hsz]; exact own_in hj hq) (by rw [own_idx hj, ← Array.getElem?_toList]; exact (show cl.slots.toList = vs from e1) ▸ hv) (g := mkF m pc Ls (.int j :: .ref a :: st)) rfl rfl (hb K.2.1 hd) _ r) hr
theorem own_caload (K : own_Cx p s m meth c Z own nm bytes maxL ret) {i q : Nat} {a : Addr} {ad : String} {vs : List Value} {v : Value} {j : Int32} (hd : own_D bytes pc .caload 1 pc') (H : own_H Z h os as) (ha : as[i]? = some (a, .char, ad, vs)) (hj : j.toInt = (q : Int)) (hv : vs[q]? = some v) (hr : own_G w p l e R s m args below meth c Z Q h k n (mkF m pc' Ls (v :: st))) : own_G w p l e R s m args below meth c Z Q h k n (mkF m pc Ls (.int j :: .ref a :: st)) := by
  obtain ⟨hd, rfl⟩ := hd
  obtain ⟨-, cl, A, e1, -⟩ := H.2.2.1 _ (own_mem ha)
  have hq := (List.getElem?_eq_some_iff.mp hv).1
  have hsz : cl.slots.size = vs.length := by rw [← Array.length_toList]; exact congrArg List.length e1
  exact own_pure K (fun X hZ _ eT _ r => X.caload K.1 (by rw [eT]; exact A.1) (State.isArrayOf_alike hZ.alike A.2.1) A.2.2 (by rw [hsz]; exact own_in hj hq) (by rw [own_idx hj, ← Array.getElem?_toList]; exact (show cl.slots.toList = vs from e1) ▸ hv) (g := mkF m pc Ls (.int j :: .ref a :: st)) rfl rfl (hb K.2.1 hd) _ r) hr
theorem own_baload (K : own_Cx p s m meth c Z own nm bytes maxL ret) {i q : Nat} {a : Addr} {ad : String} {vs : List Value} {v : Value} {j : Int32} (hd : own_D bytes pc .baload 1 pc') (H : own_H Z h os as) (ha : as[i]? = some (a, .byte, ad, vs)) (hj : j.toInt = (q : Int)) (hv : vs[q]? = some v) (hr : own_G w p l e R s m args below meth c Z Q h k n (mkF m pc' Ls (v :: st))) : own_G w p l e R s m args below meth c Z Q h k n (mkF m pc Ls (.int j :: .ref a :: st)) := by
  obtain ⟨hd, rfl⟩ := hd
  obtain ⟨-, cl, A, e1, -⟩ := H.2.2.1 _ (own_mem ha)
  have hq := (List.getElem?_eq_some_iff.mp hv).1
  have hsz : cl.slots.size = vs.length := by rw [← Array.length_toList]; exact congrArg List.length e1
  exact own_pure K (fun X hZ _ eT _ r => X.baloadBytes K.1 (by rw [eT]; exact A.1) (State.isArrayOf_alike hZ.alike A.2.1) A.2.2 (by rw [hsz]; exact own_in hj hq) (by rw [own_idx hj, ← Array.getElem?_toList]; exact (show cl.slots.toList = vs from e1) ▸ hv) (g := mkF m pc Ls (.int j :: .ref a :: st)) rfl rfl (hb K.2.1 hd) _ r) hr
theorem own_aaload (K : own_Cx p s m meth c Z own nm bytes maxL ret) {i q : Nat} {a : Addr} {ad : String} {ty : FieldType} {vs : List Value} {v : Value} {j : Int32} (hd : own_D bytes pc .aaload 1 pc') (H : own_H Z h os as) (ha : as[i]? = some (a, ty, ad, vs)) (hty : ty.isReference = true) (hj : j.toInt = (q : Int)) (hv : vs[q]? = some v) (hr : own_G w p l e R s m args below meth c Z Q h k n (mkF m pc' Ls (v :: st))) : own_G w p l e R s m args below meth c Z Q h k n (mkF m pc Ls (.int j :: .ref a :: st)) := by
  obtain ⟨hd, rfl⟩ := hd
  obtain ⟨-, cl, A, e1, -⟩ := H.2.2.1 _ (own_mem ha)
  have hq := (List.getElem?_eq_some_iff.mp hv).1
  have hsz : cl.slots.size = vs.length := by rw [← Array.length_toList]; exact congrArg List.length e1
  exact own_pure K (fun X hZ _ eT _ r => X.aaload K.1 (by rw [eT]; exact A.1) (State.isArrayOf_alike hZ.alike A.2.1) hty A.2.2 (by rw [hsz]; exact own_in hj hq) (by rw [own_idx hj, ← Array.getElem?_toList]; exact (show cl.slots.toList = vs from e1) ▸ hv) (g := mkF m pc Ls (.int j :: .ref a :: st)) rfl rfl (hb K.2.1 hd) _ r) hr
theorem own_iastore (K : own_Cx p s m meth c Z own nm bytes maxL ret) {i q : Nat} {a : Addr} {ad : String} {vs : List Value} {j : Int32} {x : Int32} (hd : own_D bytes pc .iastore 1 pc') (H : own_H Z h os as) (ha : as[i]? = some (a, .int, ad, vs)) (hj : j.toInt = (q : Int)) (hq : q < vs.length) (hr : ∀ h', own_H Z h' os (as.set i (a, .int, ad, vs.set q (.int x))) → own_G w p l e R s m args below meth c Z Q h' k n (mkF m pc' Ls st)) : own_G w p l e R s m args below meth c Z Q h k n (mkF m pc Ls (.int x :: .int j :: .ref a :: st)) := by
  obtain ⟨hd, rfl⟩ := hd
  obtain ⟨na, cl, A, e1, -⟩ := H.2.2.1 _ (own_mem ha)
  have hsz : cl.slots.size = vs.length := by rw [← Array.length_toList]; exact congrArg List.length e1
  refine own_step K (P := fun h' => own_H Z h' os (as.set i (a, .int, ad, vs.set q (.int x)))) (fun X hZ _ eT N => ?_) hr
  obtain ⟨T', h', X', e', W, st⟩ := stI X K.1 hZ eT A (by rw [hsz]; exact own_in hj hq) (g := mkF m pc Ls (.int x :: .int j :: .ref a :: st)) rfl rfl (hb K.2.1 hd)
  exact ⟨T', h', _, X', Fr.snoc X' N na, e', Nat.le_of_eq (Wr.size W).symm, H.wrA ha hq (rfl) (by rw [own_idx hj] at W; exact W), st⟩
theorem own_lastore (K : own_Cx p s m meth c Z own nm bytes maxL ret) {i q : Nat} {a : Addr} {ad : String} {vs : List Value} {j : Int32} {x : Int64} (hd : own_D bytes pc .lastore 1 pc') (H : own_H Z h os as) (ha : as[i]? = some (a, .long, ad, vs)) (hj : j.toInt = (q : Int)) (hq : q < vs.length) (hr : ∀ h', own_H Z h' os (as.set i (a, .long, ad, vs.set q (.long x))) → own_G w p l e R s m args below meth c Z Q h' k n (mkF m pc' Ls st)) : own_G w p l e R s m args below meth c Z Q h k n (mkF m pc Ls (.long x :: .int j :: .ref a :: st)) := by
  obtain ⟨hd, rfl⟩ := hd
  obtain ⟨na, cl, A, e1, -⟩ := H.2.2.1 _ (own_mem ha)
  have hsz : cl.slots.size = vs.length := by rw [← Array.length_toList]; exact congrArg List.length e1
  refine own_step K (P := fun h' => own_H Z h' os (as.set i (a, .long, ad, vs.set q (.long x)))) (fun X hZ _ eT N => ?_) hr
  obtain ⟨T', h', X', e', W, st⟩ := stJ X K.1 hZ eT A (by rw [hsz]; exact own_in hj hq) (g := mkF m pc Ls (.long x :: .int j :: .ref a :: st)) rfl rfl (hb K.2.1 hd)
  exact ⟨T', h', _, X', Fr.snoc X' N na, e', Nat.le_of_eq (Wr.size W).symm, H.wrA ha hq (rfl) (by rw [own_idx hj] at W; exact W), st⟩
theorem own_dastore (K : own_Cx p s m meth c Z own nm bytes maxL ret) {i q : Nat} {a : Addr} {ad : String} {vs : List Value} {j : Int32} {x : UInt64} (hd : own_D bytes pc .dastore 1 pc') (H : own_H Z h os as) (ha : as[i]? = some (a, .double, ad, vs)) (hj : j.toInt = (q : Int)) (hq : q < vs.length) (hr : ∀ h', own_H Z h' os (as.set i (a, .double, ad, vs.set q (.double x))) → own_G w p l e R s m args below meth c Z Q h' k n (mkF m pc' Ls st)) : own_G w p l e R s m args below meth c Z Q h k n (mkF m pc Ls (.double x :: .int j :: .ref a :: st)) := by
  obtain ⟨hd, rfl⟩ := hd
  obtain ⟨na, cl, A, e1, -⟩ := H.2.2.1 _ (own_mem ha)
  have hsz : cl.slots.size = vs.length := by rw [← Array.length_toList]; exact congrArg List.length e1
  refine own_step K (P := fun h' => own_H Z h' os (as.set i (a, .double, ad, vs.set q (.double x)))) (fun X hZ _ eT N => ?_) hr
  obtain ⟨T', h', X', e', W, st⟩ := stD X K.1 hZ eT A (by rw [hsz]; exact own_in hj hq) (g := mkF m pc Ls (.double x :: .int j :: .ref a :: st)) rfl rfl (hb K.2.1 hd)
  exact ⟨T', h', _, X', Fr.snoc X' N na, e', Nat.le_of_eq (Wr.size W).symm, H.wrA ha hq (rfl) (by rw [own_idx hj] at W; exact W), st⟩
theorem own_castore (K : own_Cx p s m meth c Z own nm bytes maxL ret) {i q : Nat} {a : Addr} {ad : String} {vs : List Value} {j : Int32} {x : Int32} (hd : own_D bytes pc .castore 1 pc') (H : own_H Z h os as) (ha : as[i]? = some (a, .char, ad, vs)) (hj : j.toInt = (q : Int)) (hq : q < vs.length) (hr : ∀ h', own_H Z h' os (as.set i (a, .char, ad, vs.set q (.int (nar .char x)))) → own_G w p l e R s m args below meth c Z Q h' k n (mkF m pc' Ls st)) : own_G w p l e R s m args below meth c Z Q h k n (mkF m pc Ls (.int x :: .int j :: .ref a :: st)) := by
  obtain ⟨hd, rfl⟩ := hd
  obtain ⟨na, cl, A, e1, -⟩ := H.2.2.1 _ (own_mem ha)
  have hsz : cl.slots.size = vs.length := by rw [← Array.length_toList]; exact congrArg List.length e1
  refine own_step K (P := fun h' => own_H Z h' os (as.set i (a, .char, ad, vs.set q (.int (nar .char x))))) (fun X hZ _ eT N => ?_) hr
  obtain ⟨T', h', X', e', W, st⟩ := stC X K.1 hZ eT A (by rw [hsz]; exact own_in hj hq) (g := mkF m pc Ls (.int x :: .int j :: .ref a :: st)) rfl rfl (hb K.2.1 hd)
  exact ⟨T', h', _, X', Fr.snoc X' N na, e', Nat.le_of_eq (Wr.size W).symm, H.wrA ha hq (by first | exact fits_nar_char _ | exact fits_nar_char | (simp [fits_nar_char]; done)) (by rw [own_idx hj] at W; exact W), st⟩
theorem own_bastore (K : own_Cx p s m meth c Z own nm bytes maxL ret) {i q : Nat} {a : Addr} {ad : String} {vs : List Value} {j : Int32} {x : Int32} (hd : own_D bytes pc .bastore 1 pc') (H : own_H Z h os as) (ha : as[i]? = some (a, .byte, ad, vs)) (hj : j.toInt = (q : Int)) (hq : q < vs.length) (hr : ∀ h', own_H Z h' os (as.set i (a, .byte, ad, vs.set q (.int (nar .byte x)))) → own_G w p l e R s m args below meth c Z Q h' k n (mkF m pc' Ls st)) : own_G w p l e R s m args below meth c Z Q h k n (mkF m pc Ls (.int x :: .int j :: .ref a :: st)) := by
  obtain ⟨hd, rfl⟩ := hd
  obtain ⟨na, cl, A, e1, -⟩ := H.2.2.1 _ (own_mem ha)
  have hsz : cl.slots.size = vs.length := by rw [← Array.length_toList]; exact congrArg List.length e1
  refine own_step K (P := fun h' => own_H Z h' os (as.set i (a, .byte, ad, vs.set q (.int (nar .byte x))))) (fun X hZ _ eT N => ?_) hr
  obtain ⟨T', h', X', e', W, st⟩ := stB X K.1 hZ eT A (by rw [hsz]; exact own_in hj hq) (g := mkF m pc Ls (.int x :: .int j :: .ref a :: st)) rfl rfl (hb K.2.1 hd)
  exact ⟨T', h', _, X', Fr.snoc X' N na, e', Nat.le_of_eq (Wr.size W).symm, H.wrA ha hq (by first | exact fits_nar_byte _ | exact fits_nar_byte | (simp [fits_nar_byte]; done)) (by rw [own_idx hj] at W; exact W), st⟩
theorem own_arraylength (K : own_Cx p s m meth c Z own nm bytes maxL ret) {i : Nat} {a : Addr} {ad : String} {ty : FieldType} {vs : List Value} {N : Int32} (hd : own_D bytes pc .arraylength 1 pc') (H : own_H Z h os as) (ha : as[i]? = some (a, ty, ad, vs)) (hN : N.toInt = (vs.length : Int)) (hr : own_G w p l e R s m args below meth c Z Q h k n (mkF m pc' Ls (.int N :: st))) : own_G w p l e R s m args below meth c Z Q h k n (mkF m pc Ls (.ref a :: st)) := by
  obtain ⟨hd, rfl⟩ := hd
  obtain ⟨-, cl, A, e1, -⟩ := H.2.2.1 _ (own_mem ha)
  have hsz : cl.slots.size = vs.length := by rw [← Array.length_toList]; exact congrArg List.length e1
  have e2 : cl.slots.size.toInt32 = N := by rw [hsz]; exact own_len hN
  exact own_pure K (fun X hZ _ eT _ r => X.arraylength K.1 (by rw [eT]; exact A.1) (State.isArrayOf_alike hZ.alike A.2.1) (g := mkF m pc Ls (.ref a :: st)) rfl rfl (hb K.2.1 hd) _ (by rw [e2]; exact r)) hr
theorem own_checkcast (K : own_Cx p s m meth c Z own nm bytes maxL ret) {i : Nat} {a : Addr} {Kn : String} (hd : own_D bytes pc (.checkcast i) 3 pc') (w1 : (Cond.classLink own i Kn).before a0 Z = true) (I : Ins Z h a Kn true) (hr : own_G w p l e R s m args below meth c Z Q h k n (mkF m pc' Ls (.ref a :: st))) : own_G w p l e R s m args below meth c Z Q h k n (mkF m pc Ls (.ref a :: st)) := by
  obtain ⟨hd, rfl⟩ := hd
  refine own_step K (P := fun h' => h' = h) (fun X hZ hw eT N => ?_) (fun h' e => by subst e; exact hr)
  obtain ⟨T', X', e', st⟩ := castY X K.1 hZ hw w1 eT I (g := mkF m pc Ls (.ref a :: st)) rfl rfl (hb K.2.1 hd)
  exact ⟨T', _, _, X', N, e', Nat.le_refl _, rfl, st⟩
theorem own_H.exaA (H : own_H Z h os as) {i : Nat} {a : Addr} {ty : FieldType} {ad : String} {vs : List Value} (ha : as[i]? = some (a, ty, ad, vs)) (hn : ad ≠ "") : Exa Z h a ad := by
  obtain ⟨-, cl, -, -, -, h4, -⟩ := H.2.2.1 _ (own_mem ha); exact h4 hn
theorem own_clone (K : own_Cx p s m meth c Z own nm bytes maxL ret) {i j : Nat} {a : Addr} {ty : FieldType} {ad : String} {vs : List Value} (hd : own_D bytes pc (.invokevirtual i) 3 pc') (w1 : (Cond.methodLink own i ⟨ad, "clone", "()Ljava/lang/Object;"⟩).before a0 Z = true) (w2 : (Cond.sameMethod ad "java/lang/Object" "clone" "()Ljava/lang/Object;").before a0 Z = true) (w3 : (Cond.native ⟨"java/lang/Object", "clone", "()Ljava/lang/Object;"⟩).before a0 Z = true)
    (w4 : (Cond.instanceMethod ⟨"java/lang/Object", "clone", "()Ljava/lang/Object;"⟩).before a0 Z = true) (w5 : (Cond.selects ad ⟨ad, "clone", "()Ljava/lang/Object;"⟩ ⟨"java/lang/Object", "clone", "()Ljava/lang/Object;"⟩).before a0 Z = true) (w6 : (Cond.castable ad "java/lang/Cloneable").before a0 Z = true)
    (H : own_H Z h os as) (ha : as[j]? = some (a, ty, ad, vs)) (hn : ad ≠ "") (hsz : Ls.size = maxL) (hf : 1 ≤ R.frames) {W : Nat} (hW : (st.map fun v => v.category).sum ≤ W) (hl : W + 14 ≤ R.locals) (hc : k + 1 ≤ R.cells) (hsl : n + vs.length ≤ R.slots)
    (hr : ∀ h' b, own_H Z h' os ((b, ty, ad, vs) :: as) → own_G w p l e R s m args below meth c Z Q h' (k + 1) (n + vs.length) (mkF m pc' Ls (.ref b :: st))) : own_G w p l e R s m args below meth c Z Q h k n (mkF m pc Ls (.ref a :: st)) := by
  obtain ⟨hd, rfl⟩ := hd
  obtain ⟨-, cl, A, e1, e3, e4, e5⟩ := H.2.2.1 _ (own_mem ha)
  have hsz' : cl.slots.size = vs.length := by rw [← Array.length_toList]; exact congrArg List.length e1
  have F : FitC Z cl := fun i v hv => by
    obtain ⟨hs, k, hk, comp, hkind⟩ := A.2.1
    have hm : v ∈ vs := by
      have : cl.slots.toList[i]? = some v := by rw [Array.getElem?_toList]; exact hv
      exact (show cl.slots.toList = vs from e1) ▸ own_mem this
    simp [State.fitsSlot, State.slotType?, hk, hkind, show fits ty v = true from e3 v hm]
  refine own_step K (P := fun h' => own_H Z h' os ((h.size, ty, ad, vs) :: as)) (fun X hZ hw eT N => ?_) (fun h' H' => hr h' _ H')
  obtain ⟨T', h', X', e', E, A', Ex, st⟩ := cloneA X K.1 hZ hw w1 w2 w3 w4 w5 w6 eT A (e4 hn) F (g := mkF m pc Ls (.ref a :: st)) rfl (hsz.trans K.2.2.1.symm) rfl (hb K.2.1 hd) hf (W := W) (by show 2 * 0 + _ ≤ W; simpa using hW) hl (cap := vs.length) (Nat.le_of_eq hsz') hc hsl
  exact ⟨T', h', _, X', N, e', E.1, H.addA E ⟨_, A', e1, e3, fun _ => Ex, e5⟩, st⟩
theorem own_initO (K : own_Cx p s m meth c Z own nm bytes maxL ret) {i : Nat} {a : Addr} (hd : own_D bytes pc (.invokespecial i) 3 pc') (w1 : (Cond.methodLink own i Lib.objectInit).before a0 Z = true) (w2 : (Cond.instanceMethod Lib.objectInit).before a0 Z = true) (w3 : (Cond.code Lib.objectInit ⟨#[0xb1]⟩ 1 none).before a0 Z = true) (hsz : Ls.size = maxL) (hf : 1 ≤ R.frames) {W : Nat} (hW : (st.map fun v => v.category).sum ≤ W) (hl : W + 12 ≤ R.locals) (hr : own_G w p l e R s m args below meth c Z Q h k n (mkF m pc' Ls st)) : own_G w p l e R s m args below meth c Z Q h k n (mkF m pc Ls (.ref a :: st)) := by
  obtain ⟨hd, rfl⟩ := hd
  refine own_step K (P := fun h' => h' = h) (fun X hZ hw eT N => ?_) (fun h' e => by subst e; exact hr)
  obtain ⟨T', X', e', st⟩ := initO X K.1 hZ hw w1 w2 w3 eT (g := mkF m pc Ls (.ref a :: st)) rfl (hsz.trans K.2.2.1.symm) rfl (hb K.2.1 hd) hf (W := W) (by show 2 * 0 + _ ≤ W; simpa using hW) hl
  exact ⟨T', _, _, X', N, e', Nat.le_refl _, rfl, st⟩
theorem own_static (K : own_Cx p s m meth c Z own nm bytes maxL ret) {i ml W : Nat} {y : MethodName} {b : ByteArray} {rt : Option FieldType} {rm : Room} {argsL : List Value} {Qc : Option Value → Heap → Prop} {ps : List FieldType} {r : Option FieldType} (hd : own_D bytes pc (.invokestatic i) 3 pc') (w1 : (Cond.methodLink own i y).before a0 Z = true) (w2 : (Cond.static y).before a0 Z = true) (w3 : (Cond.initialized y.cls).before a0 Z = true) (w4 : (Cond.code y b ml rt).before a0 Z = true)
    (hM : own_Met false l Z y b ml rt [] rm argsL.toArray h Qc) (hp : parseMethodDescriptor y.desc = some ⟨ps, r⟩) (hlen : argsL.length = ps.length) (hst : st = argsL.reverse ++ rest) (hsz : Ls.size = maxL) (hy : y.cls ≠ "java/lang/invoke/MethodHandle" ∧ y.cls ≠ "java/lang/invoke/VarHandle") (hW : (rest.map fun v => v.category).sum ≤ W) (hf : rm.frames + 1 ≤ R.frames) (hl : W + (ml + 11) + rm.locals ≤ R.locals) (hc : k + rm.cells ≤ R.cells) (hs : n + rm.slots ≤ R.slots)
    (hr : ∀ v h', Qc v h' → own_G w p l e R s m args below meth c Z Q h' (k + rm.cells) (n + rm.slots) (mkF m (pc') Ls (v.toList ++ rest))) : own_G w p l e R s m args below meth c Z Q h k n (mkF m pc Ls st) := by
  obtain ⟨hd, rfl⟩ := hd
  intro T hX
  obtain ⟨L, vm, X, N, eT, hw, hS⟩ := hX
  have hZ := own_zw K.2.2.2.2.2.1 hS
  have hown : (s.setVm vm).vm.findClass own = some m.cls := by rw [show (s.setVm vm).vm = vm from rfl, hS.1.alike.findClass]; exact K.2.2.2.2.2.2.1
  obtain ⟨v, vm1, ⟨T1, L1, k1, n1⟩, -, X1, ⟨Lc, ⟨hQ, N1, z1⟩, l1, y1, x1⟩, st1⟩ := Jvm.LawKit.callS X K.1 (y := y) hown (mvT hZ w1) (mvT hZ w2) (mvT hZ w3) (mvT hZ w4) hy (backOf (W := W) (Q := fun v h'' L => Qc v h'' ∧ Fr Z.heap.size L ∧ h.size ≤ h''.size) (show MetFree _ _ _ _ _ _ from hM) hZ w4 w3 hf hl) (g := mkF m pc Ls st) rfl (hsz.trans K.2.2.1.symm) (argsL := argsL) (rest := rest) (lenOf hp hlen) hst (by show 2 * 0 + _ ≤ W; simpa using hW) (hb K.2.1 hd) (fun _ _ => ⟨rfl, eT, hc, hs⟩)
  dsimp only [Pt.U, Pt.locs, Pt.cells, Pt.slots] at X1 l1 y1 x1 st1 hQ z1
  subst l1 y1 x1
  obtain ⟨T', v', h', k', n', hX', r1, r2, r3, r4, r5⟩ := hr v T1.heap hQ T1 ⟨_, vm, X1, N.app N1, rfl, hw, own_since hS z1⟩
  exact ⟨T', v', h', k', n', hX', r1, r2, r3, r4, fun fs q => st1 _ (r5 fs q)⟩
theorem own_special (K : own_Cx p s m meth c Z own nm bytes maxL ret) {i ml W : Nat} {y : MethodName} {b : ByteArray} {rm : Room} {a : Addr} {argsL : List Value} {Qc : Option Value → Heap → Prop} {ps : List FieldType} {r : Option FieldType} (hd : own_D bytes pc (.invokespecial i) 3 pc') (hy1 : y.name = "<init>") (w1 : (Cond.methodLink own i y).before a0 Z = true) (w2 : (Cond.instanceMethod y).before a0 Z = true) (w3 : (Cond.initialized y.cls).before a0 Z = true) (w4 : (Cond.code y b ml none).before a0 Z = true)
    (hM : own_Met false l Z y b ml none [] rm (.ref a :: argsL).toArray h Qc) (hp : parseMethodDescriptor y.desc = some ⟨ps, r⟩) (hlen : argsL.length = ps.length) (hst : st = argsL.reverse ++ .ref a :: rest) (hsz : Ls.size = maxL) (hy : y.cls ≠ "java/lang/invoke/MethodHandle" ∧ y.cls ≠ "java/lang/invoke/VarHandle") (hW : (rest.map fun v => v.category).sum ≤ W) (hf : rm.frames + 1 ≤ R.frames) (hl : W + (ml + 11) + rm.locals ≤ R.locals) (hc : k + rm.cells ≤ R.cells) (hs : n + rm.slots ≤ R.slots)
    (hr : ∀ v h', Qc v h' → own_G w p l e R s m args below meth c Z Q h' (k + rm.cells) (n + rm.slots) (mkF m (pc') Ls (v.toList ++ rest))) : own_G w p l e R s m args below meth c Z Q h k n (mkF m pc Ls st) := by
  obtain ⟨hd, rfl⟩ := hd
  intro T hX
  obtain ⟨L, vm, X, N, eT, hw, hS⟩ := hX
  have hZ := own_zw K.2.2.2.2.2.1 hS
  have hown : (s.setVm vm).vm.findClass own = some m.cls := by rw [show (s.setVm vm).vm = vm from rfl, hS.1.alike.findClass]; exact K.2.2.2.2.2.2.1
  obtain ⟨v, vm1, ⟨T1, L1, k1, n1⟩, -, X1, ⟨Lc, ⟨hQ, N1, z1⟩, l1, y1, x1⟩, st1⟩ := X.specialBack K.1 (y := y) hy1 hown (mvT hZ w1) (mvT hZ w2) (mvT hZ w4) hy (backOf (W := W) (Q := fun v h'' L => Qc v h'' ∧ Fr Z.heap.size L ∧ h.size ≤ h''.size) (show MetFree _ _ _ _ _ _ from hM) hZ w4 w3 hf hl) (g := mkF m pc Ls st) rfl (hsz.trans K.2.2.1.symm) (Steps.refl _) (a := a) (argsL := argsL) (rest := rest) (lenOf hp hlen) hst (by show 2 * 0 + _ ≤ W; simpa using hW) (hb K.2.1 hd) (fun _ _ => ⟨rfl, eT, hc, hs⟩)
  dsimp only [Pt.U, Pt.locs, Pt.cells, Pt.slots] at X1 l1 y1 x1 st1 hQ z1
  subst l1 y1 x1
  obtain ⟨T', v', h', k', n', hX', r1, r2, r3, r4, r5⟩ := hr v T1.heap hQ T1 ⟨_, vm, X1, N.app N1, rfl, hw, own_since hS z1⟩
  exact ⟨T', v', h', k', n', hX', r1, r2, r3, r4, fun fs q => st1.trans (r5 fs q)⟩
theorem own_virtual (K : own_Cx p s m meth c Z own nm bytes maxL ret) {i ml W : Nat} {y : MethodName} {C : String} {b : ByteArray} {rt : Option FieldType} {rm : Room} {a : Addr} {argsL : List Value} {Qc : Option Value → Heap → Prop} {ps : List FieldType} {r : Option FieldType} (hd : own_D bytes pc (.invokevirtual i) 3 pc') (w1 : (Cond.methodLink own i y).before a0 Z = true) (w2 : (Cond.declares y).before a0 Z = true) (w5 : (Cond.selects C y y).before a0 Z = true) (w6 : (Cond.instanceMethod y).before a0 Z = true) (w3 : (Cond.initialized y.cls).before a0 Z = true) (w4 : (Cond.code y b ml rt).before a0 Z = true)
    (E : Exa Z h a C) (hM : own_Met false l Z y b ml rt [] rm (.ref a :: argsL).toArray h Qc) (hp : parseMethodDescriptor y.desc = some ⟨ps, r⟩) (hlen : argsL.length = ps.length) (hst : st = argsL.reverse ++ .ref a :: rest) (hsz : Ls.size = maxL) (hy : y.cls ≠ "java/lang/invoke/MethodHandle" ∧ y.cls ≠ "java/lang/invoke/VarHandle") (hW : (rest.map fun v => v.category).sum ≤ W) (hf : rm.frames + 1 ≤ R.frames) (hl : W + (ml + 11) + rm.locals ≤ R.locals) (hc : k + rm.cells ≤ R.cells) (hs : n + rm.slots ≤ R.slots)
    (hr : ∀ v h', Qc v h' → own_G w p l e R s m args below meth c Z Q h' (k + rm.cells) (n + rm.slots) (mkF m (pc') Ls (v.toList ++ rest))) : own_G w p l e R s m args below meth c Z Q h k n (mkF m pc Ls st) := by
  obtain ⟨hd, rfl⟩ := hd
  intro T hX
  obtain ⟨L, vm, X, N, eT, hw, hS⟩ := hX
  have hZ := own_zw K.2.2.2.2.2.1 hS
  have hown : (s.setVm vm).vm.findClass own = some m.cls := by rw [show (s.setVm vm).vm = vm from rfl, hS.1.alike.findClass]; exact K.2.2.2.2.2.2.1
  obtain ⟨cq, kq, qa, qb, qc⟩ := isOf (s := s.setVm vm) hZ eT E
  obtain ⟨v, vm1, ⟨T1, L1, k1, n1⟩, -, X1, ⟨Lc, ⟨hQ, N1, z1⟩, l1, y1, x1⟩, st1⟩ := X.virtualBack K.1 (y := y) (z := y) hown (mvT hZ w1) (mvT hZ w2) (notFace_of_selects (C := C) (args := #[]) (mvT hZ w5)) (mvT hZ w5) (mvT hZ w6) hy (backOf (W := W) (Q := fun v h'' L => Qc v h'' ∧ Fr Z.heap.size L ∧ h.size ≤ h''.size) (show MetFree _ _ _ _ _ _ from hM) hZ w4 w3 hf hl) qa qc (g := mkF m pc Ls st) rfl (hsz.trans K.2.2.1.symm) (Steps.refl _) (argsL := argsL) (rest := rest) (lenOf hp hlen) hst (by show 2 * 0 + _ ≤ W; simpa using hW) (hb K.2.1 hd) (fun _ _ => ⟨rfl, eT, hc, hs⟩)
  dsimp only [Pt.U, Pt.locs, Pt.cells, Pt.slots] at X1 l1 y1 x1 st1 hQ z1
  subst l1 y1 x1
  obtain ⟨T', v', h', k', n', hX', r1, r2, r3, r4, r5⟩ := hr v T1.heap hQ T1 ⟨_, vm, X1, N.app N1, rfl, hw, own_since hS z1⟩
  exact ⟨T', v', h', k', n', hX', r1, r2, r3, r4, fun fs q => st1.trans (r5 fs q)⟩
theorem own_virtualZ (K : own_Cx p s m meth c Z own nm bytes maxL ret) {i ml W : Nat} {y z : MethodName} {C : String} {b : ByteArray} {rt : Option FieldType} {rm : Room} {a : Addr} {argsL : List Value} {Qc : Option Value → Heap → Prop} {ps : List FieldType} {r : Option FieldType} (hd : own_D bytes pc (.invokevirtual i) 3 pc') (w1 : (Cond.methodLink own i y).before a0 Z = true) (w2 : (Cond.declares y).before a0 Z = true) (w5 : (Cond.selects C y z).before a0 Z = true) (w6 : (Cond.instanceMethod z).before a0 Z = true) (w3 : (Cond.initialized z.cls).before a0 Z = true) (w4 : (Cond.code z b ml rt).before a0 Z = true)
    (E : Exa Z h a C) (hnf : ∀ vm, s.Warmed39 vm → NotFace (s.setVm vm) y) (hM : own_Met false l Z z b ml rt [] rm (.ref a :: argsL).toArray h Qc) (hp : parseMethodDescriptor y.desc = some ⟨ps, r⟩) (hlen : argsL.length = ps.length) (hst : st = argsL.reverse ++ .ref a :: rest) (hsz : Ls.size = maxL) (hy : y.cls ≠ "java/lang/invoke/MethodHandle" ∧ y.cls ≠ "java/lang/invoke/VarHandle") (hW : (rest.map fun v => v.category).sum ≤ W) (hf : rm.frames + 1 ≤ R.frames) (hl : W + (ml + 11) + rm.locals ≤ R.locals) (hc : k + rm.cells ≤ R.cells) (hs : n + rm.slots ≤ R.slots)
    (hr : ∀ v h', Qc v h' → own_G w p l e R s m args below meth c Z Q h' (k + rm.cells) (n + rm.slots) (mkF m (pc') Ls (v.toList ++ rest))) : own_G w p l e R s m args below meth c Z Q h k n (mkF m pc Ls st) := by
  obtain ⟨hd, rfl⟩ := hd
  intro T hX
  obtain ⟨L, vm, X, N, eT, hw, hS⟩ := hX
  have hZ := own_zw K.2.2.2.2.2.1 hS
  have hown : (s.setVm vm).vm.findClass own = some m.cls := by rw [show (s.setVm vm).vm = vm from rfl, hS.1.alike.findClass]; exact K.2.2.2.2.2.2.1
  obtain ⟨cq, kq, qa, qb, qc⟩ := isOf (s := s.setVm vm) hZ eT E
  obtain ⟨v, vm1, ⟨T1, L1, k1, n1⟩, -, X1, ⟨Lc, ⟨hQ, N1, z1⟩, l1, y1, x1⟩, st1⟩ := X.virtualBack K.1 (y := y) (z := z) hown (mvT hZ w1) (mvT hZ w2) (hnf vm hS.1) (mvT hZ w5) (mvT hZ w6) hy (backOf (W := W) (Q := fun v h'' L => Qc v h'' ∧ Fr Z.heap.size L ∧ h.size ≤ h''.size) (show MetFree _ _ _ _ _ _ from hM) hZ w4 w3 hf hl) qa qc (g := mkF m pc Ls st) rfl (hsz.trans K.2.2.1.symm) (Steps.refl _) (argsL := argsL) (rest := rest) (lenOf hp hlen) hst (by show 2 * 0 + _ ≤ W; simpa using hW) (hb K.2.1 hd) (fun _ _ => ⟨rfl, eT, hc, hs⟩)
  dsimp only [Pt.U, Pt.locs, Pt.cells, Pt.slots] at X1 l1 y1 x1 st1 hQ z1
  subst l1 y1 x1
  obtain ⟨T', v', h', k', n', hX', r1, r2, r3, r4, r5⟩ := hr v T1.heap hQ T1 ⟨_, vm, X1, N.app N1, rfl, hw, own_since hS z1⟩
  exact ⟨T', v', h', k', n', hX', r1, r2, r3, r4, fun fs q => st1.trans (r5 fs q)⟩
theorem own_retI (K : own_Cx p s m meth c Z own nm bytes maxL (some .int)) {z : Int32} (hd : own_D bytes pc .ireturn 1 pc') (hk : k ≤ R.cells) (hn : n ≤ R.slots) (hQ : Q (some (.int z)) h) : own_G w p l e R s m args below meth c Z Q h k n (mkF m pc Ls (.int z :: st)) := by
  obtain ⟨hd, -⟩ := hd
  intro T hX
  obtain ⟨L, vm, X, N, eT, hw, hS⟩ := hX
  exact ⟨T, some (.int z), h, k, n, ⟨L, vm, X, N, eT, hw, hS⟩, hk, hn, (fun q => by rw [K.2.2.2.1] at q; cases q), hQ, fun fs q => retOut X K.1 K.2.2.2.1 (rfl) (Or.inl ⟨rfl, Or.inl rfl, z, rfl⟩) (hb K.2.1 hd) q⟩
theorem own_retZ (K : own_Cx p s m meth c Z own nm bytes maxL (some .boolean)) {z : Int32} (hz : z = 0 ∨ z = 1) (hd : own_D bytes pc .ireturn 1 pc') (hk : k ≤ R.cells) (hn : n ≤ R.slots) (hQ : Q (some (.int z)) h) : own_G w p l e R s m args below meth c Z Q h k n (mkF m pc Ls (.int z :: st)) := by
  obtain ⟨hd, -⟩ := hd
  intro T hX
  obtain ⟨L, vm, X, N, eT, hw, hS⟩ := hX
  exact ⟨T, some (.int z), h, k, n, ⟨L, vm, X, N, eT, hw, hS⟩, hk, hn, (fun q => by rw [K.2.2.2.1] at q; cases q), hQ, fun fs q => retOut X K.1 K.2.2.2.1 (by rcases hz with rfl | rfl <;> decide) (Or.inl ⟨rfl, Or.inr (Or.inl rfl), z, rfl⟩) (hb K.2.1 hd) q⟩
theorem own_retC (K : own_Cx p s m meth c Z own nm bytes maxL (some .char)) {z : Int32} (hz : narrow .char (.int z) = .int z) (hd : own_D bytes pc .ireturn 1 pc') (hk : k ≤ R.cells) (hn : n ≤ R.slots) (hQ : Q (some (.int z)) h) : own_G w p l e R s m args below meth c Z Q h k n (mkF m pc Ls (.int z :: st)) := by
  obtain ⟨hd, -⟩ := hd
  intro T hX
  obtain ⟨L, vm, X, N, eT, hw, hS⟩ := hX
  exact ⟨T, some (.int z), h, k, n, ⟨L, vm, X, N, eT, hw, hS⟩, hk, hn, (fun q => by rw [K.2.2.2.1] at q; cases q), hQ, fun fs q => retOut X K.1 K.2.2.2.1 (hz) (Or.inl ⟨rfl, Or.inr (Or.inr (Or.inr (Or.inl rfl))), z, rfl⟩) (hb K.2.1 hd) q⟩
theorem own_retBy (K : own_Cx p s m meth c Z own nm bytes maxL (some .byte)) {z : Int32} (hz : narrow .byte (.int z) = .int z) (hd : own_D bytes pc .ireturn 1 pc') (hk : k ≤ R.cells) (hn : n ≤ R.slots) (hQ : Q (some (.int z)) h) : own_G w p l e R s m args below meth c Z Q h k n (mkF m pc Ls (.int z :: st)) := by
  obtain ⟨hd, -⟩ := hd
  intro T hX
  obtain ⟨L, vm, X, N, eT, hw, hS⟩ := hX
  exact ⟨T, some (.int z), h, k, n, ⟨L, vm, X, N, eT, hw, hS⟩, hk, hn, (fun q => by rw [K.2.2.2.1] at q; cases q), hQ, fun fs q => retOut X K.1 K.2.2.2.1 (hz) (Or.inl ⟨rfl, Or.inr (Or.inr (Or.inl rfl)), z, rfl⟩) (hb K.2.1 hd) q⟩
theorem own_retL (K : own_Cx p s m meth c Z own nm bytes maxL (some .long)) {z : Int64} (hd : own_D bytes pc .lreturn 1 pc') (hk : k ≤ R.cells) (hn : n ≤ R.slots) (hQ : Q (some (.long z)) h) : own_G w p l e R s m args below meth c Z Q h k n (mkF m pc Ls (.long z :: st)) := by
  obtain ⟨hd, -⟩ := hd
  intro T hX
  obtain ⟨L, vm, X, N, eT, hw, hS⟩ := hX
  exact ⟨T, some (.long z), h, k, n, ⟨L, vm, X, N, eT, hw, hS⟩, hk, hn, (fun q => by rw [K.2.2.2.1] at q; cases q), hQ, fun fs q => retOut X K.1 K.2.2.2.1 (rfl) (Or.inr (Or.inl ⟨rfl, rfl, z, rfl⟩)) (hb K.2.1 hd) q⟩
theorem own_retD (K : own_Cx p s m meth c Z own nm bytes maxL (some .double)) {z : UInt64} (hd : own_D bytes pc .dreturn 1 pc') (hk : k ≤ R.cells) (hn : n ≤ R.slots) (hQ : Q (some (.double z)) h) : own_G w p l e R s m args below meth c Z Q h k n (mkF m pc Ls (.double z :: st)) := by
  obtain ⟨hd, -⟩ := hd
  intro T hX
  obtain ⟨L, vm, X, N, eT, hw, hS⟩ := hX
  exact ⟨T, some (.double z), h, k, n, ⟨L, vm, X, N, eT, hw, hS⟩, hk, hn, (fun q => by rw [K.2.2.2.1] at q; cases q), hQ, fun fs q => retOut X K.1 K.2.2.2.1 (rfl) (Or.inr (Or.inr (Or.inl ⟨rfl, rfl, z, rfl⟩))) (hb K.2.1 hd) q⟩
theorem own_retA (K : own_Cx p s m meth c Z own nm bytes maxL (some tyR)) {v : Value} (hty : tyR.isReference = true) (hv : v.isRef = true) (hd : own_D bytes pc .areturn 1 pc') (hk : k ≤ R.cells) (hn : n ≤ R.slots) (hQ : Q (some (v)) h) : own_G w p l e R s m args below meth c Z Q h k n (mkF m pc Ls (v :: st)) := by
  obtain ⟨hd, -⟩ := hd
  intro T hX
  obtain ⟨L, vm, X, N, eT, hw, hS⟩ := hX
  exact ⟨T, some (v), h, k, n, ⟨L, vm, X, N, eT, hw, hS⟩, hk, hn, (fun q => by rw [K.2.2.2.1] at q; cases q), hQ, fun fs q => retOut X K.1 K.2.2.2.1 (by rcases ref_cases hv with rfl | ⟨a, rfl⟩ <;> cases tyR <;> first | rfl | cases hty) (Or.inr (Or.inr (Or.inr (Or.inr ⟨rfl, hty, hv⟩)))) (hb K.2.1 hd) q⟩
theorem own_retV (K : own_Cx p s m meth c Z own nm bytes maxL none) (hd : own_D bytes pc .return_ 1 pc') (hk : k ≤ R.cells) (hn : n ≤ R.slots) (hQ : Q none h) : own_G w p l e R s m args below meth c Z Q h k n (mkF m pc Ls []) := by
  obtain ⟨hd, -⟩ := hd
  intro T hX
  obtain ⟨L, vm, X, N, eT, hw, hS⟩ := hX
  exact ⟨T, none, h, k, n, ⟨L, vm, X, N, eT, hw, hS⟩, hk, hn, (fun _ => rfl), hQ, fun fs q => X.returnOut K.1 K.2.2.2.1 (hb K.2.1 hd) q⟩
theorem own_met {y : MethodName} {ws : List Cond} {rm : Room} {as' : Array Value} (hpn : plainFor y = true)
    (body : ∀ (p : Program) (e : Env) (s : State) (m : MethodId) (below : List Frame) (meth : Method) (c : Code), own_Cx p s m meth c Z y.cls y.name bytes maxL ret → own_G w p l e rm s m as' below meth c Z Q h 0 0 (entryFrame m as' maxL)) :
    own_Met w l Z y bytes maxL ret ws rm as' h Q := by
  refine MetFree.of_bodySF hpn hisR ?_
  intro p e s m args below meth c s₁ Bd hml0 hP hK
  obtain ⟨rfl, hZ, hh⟩ := hP
  have X0 : Stand p l e rm s m args below meth c s₁ [] 0 0 := Stand.of_body Bd
  have e0 : s₁.heap = h := by rw [← hh, Bd.state]; rfl
  have hlk : meth.locks = false := BodyLoose.notSynchronized Bd
  obtain ⟨T', v, h', k', n', ⟨L, vm, X, N, eT, hw, hS⟩, r1, r2, r3, r4, r5⟩ := body p e s m below meth c ⟨Bd.exec, Bd.bytes, hml0, Bd.returns, hlk, hZ, findClass_of_methodNamed Bd.named, (name_of_methodNamed Bd.named Bd.method).1⟩ s₁
    ⟨[], s.vm, X0, Fr.nil _, e0, fun _ => rfl, (State.WarmedH.refl s).since _⟩
  have hgr : h.size ≤ h'.size := by rw [← eT, ← hh]; exact X.same.2.1
  cases w with
  | false =>
    obtain rfl := hw rfl
    obtain ⟨fs, hr, hrun, hended, hW, hsame⟩ := Stand.leave (s := s) X r3
    exact ⟨_, _, r5 fs hr, hrun, hended, v, L, rfl, ⟨by show Q v T'.heap; rw [eT]; exact r4, N, by show h.size ≤ T'.heap.size; rw [eT]; exact hgr⟩, ⟨_, rfl⟩, hW, hsame.mono r1 r2⟩
  | true =>
    obtain ⟨fs, hr, hrun, hended, q1, q2, q3, q4⟩ := Stand.leaveW X hS (Nat.le_of_eq (congrArg Array.size eT.symm)) r3
    exact ⟨_, _, r5 fs hr, hrun, hended, v, L, rfl, ⟨by show Q v T'.heap; rw [eT]; exact r4, N, by show h.size ≤ T'.heap.size; rw [eT]; exact hgr⟩, q1, q2, q3, q4.mono r1 r2⟩
theorem own_list_getD {vs : List Value} {cl : Cell} (e : cl.slots.toList = vs) (d : Value) {i : Nat} (hi : i < cl.slots.size) : cl.slots[i]? = some (vs.getD i d) := by
  subst e
  rw [List.getD_eq_getElem?_getD, Array.getElem?_toList, Array.getElem?_eq_getElem hi]; rfl
theorem own_arv {a : Addr} {ty : FieldType} {ad : String} {vs : List Value} (F : own_AK Z h (a, ty, ad, vs)) (hl : vs.length < 2147483648) : ∃ (kc : ClassId) (z : Int32), z.toNatClampNeg = vs.length ∧ ¬ z < 0 ∧ Arv Z h a kc ty z vs .null := by
  obtain ⟨cl, A, e1, e3, -, -⟩ := F
  have e1' : cl.slots.toList = vs := e1
  have hsz : cl.slots.size = vs.length := by rw [← Array.length_toList, e1']
  have q := len_toInt (n := vs.length) (by omega)
  have z0 : ¬ vs.length.toInt32 < 0 := by rw [Int32.lt_iff_toInt_lt, q, show (0 : Int32).toInt = 0 from rfl]; omega
  have zc : vs.length.toInt32.toNatClampNeg = vs.length := by simp only [Int32.toNatClampNeg, q]; rfl
  refine ⟨cl.cls, vs.length.toInt32, zc, z0, cl, A, rfl, by rw [zc]; exact hsz, z0, fun i hi => own_list_getD e1' _ hi, fun i hi => ?_⟩
  have hi' : i < vs.length := by omega
  rw [List.getD_eq_getElem?_getD, List.getElem?_eq_getElem hi']
  exact e3 _ (List.getElem_mem hi')
theorem own_of_arv {a : Addr} {ty : FieldType} {vs : List Value} {kc : ClassId} {z : Int32} {d : Value} (F : Arv Z h a kc ty z vs d) (hz : z.toNatClampNeg = vs.length) : ∃ cl : Cell, Arr Z h a cl ty ∧ cl.cls = kc ∧ cl.slots.toList = vs ∧ ∀ v ∈ vs, fits ty v = true := by
  obtain ⟨cl, A, e1, e2, -, H, G⟩ := F
  have hsz : cl.slots.size = vs.length := e2.trans hz
  refine ⟨cl, A, e1, ?_, fun v hv => ?_⟩
  · apply List.ext_getElem?
    intro i
    rw [Array.getElem?_toList]
    by_cases hi : i < cl.slots.size
    · rw [H i hi, List.getD_eq_getElem?_getD, List.getElem?_eq_getElem (by omega)]; rfl
    · rw [Array.getElem?_eq_none (by omega), List.getElem?_eq_none (by omega)]
  · obtain ⟨i, hi, rfl⟩ := List.getElem_of_mem hv
    have := G i (by omega)
    rw [List.getD_eq_getElem?_getD, List.getElem?_eq_getElem hi] at this
    exact this
theorem own_H.keepA (H : own_H Z h os as) {b : Addr} {ty : FieldType} {ad : String} {vd vd' : List Value} {i : Nat} (hb : as[i]? = some (b, ty, ad, vd)) (Kp : Keep h h' [b]) (F : ∃ cl : Cell, Arr Z h' b cl ty ∧ cl.slots.toList = vd' ∧ ∀ v ∈ vd', fits ty v = true) (hty : ∀ C, ty ≠ .object C) : own_H Z h' os (as.set i (b, ty, ad, vd')) := by
  have nb := (H.2.2.1 _ (own_mem hb)).1
  have hlen := (List.getElem?_eq_some_iff.mp hb).1
  refine ⟨⟨Nat.le_trans H.1.1 Kp.1, fun x cx hx => Kp.2.1 x cx (H.1.2 x cx hx) fun q => ?_⟩, fun o ho => ?_, fun y hy => ?_, ?_⟩
  · cases List.mem_singleton.mp q; exact absurd (Array.getElem?_eq_some_iff.mp hx).1 (Nat.not_lt.mpr nb)
  · obtain ⟨n1, E, F', Pw⟩ := H.2.1 o ho
    exact ⟨n1, E.keep Kp, fun f hf => (F' f hf).keep Kp fun q => H.neOA ho (own_mem hb) (List.mem_singleton.mp q), Pw⟩
  · obtain ⟨j, hj⟩ := List.mem_iff_getElem?.mp hy
    rw [List.getElem?_set] at hj
    by_cases ij : i = j
    · subst ij
      rw [if_pos rfl, if_pos hlen] at hj
      obtain rfl := Option.some.inj hj
      obtain ⟨cl, A, e1, e2⟩ := F
      obtain ⟨-, cl0, -, -, -, e4, -⟩ := H.2.2.1 _ (own_mem hb)
      exact ⟨nb, cl, A, e1, e2, fun q => (e4 q).keep Kp, fun C hC => absurd hC (hty C)⟩
    · rw [if_neg ij] at hj
      obtain ⟨n1, cl, h1, h2, h3, h4, h5⟩ := H.2.2.1 _ (own_mem hj)
      exact ⟨n1, cl, ⟨Kp.2.1 _ _ h1.1 fun q => H.neAA hj hb (Ne.symm ij) (List.mem_singleton.mp q), h1.2⟩, h2, h3, fun q => (h4 q).keep Kp, h5⟩
  · rw [own_set_map (f := fun z => z.1) (x' := (b, ty, ad, vd')) hb rfl]; exact H.2.2.2
theorem own_range_take {vs : List Value} {sq nq : Nat} {d : Value} (hq : sq + nq ≤ vs.length) : (vs.drop sq).take nq = (List.range nq).map fun i => vs.getD (sq + i) d := by
  apply List.ext_getElem?
  intro i
  by_cases hi : i < nq
  · rw [List.getElem?_take_of_lt hi, List.getElem?_drop, List.getElem?_map, List.getElem?_range hi, Option.map_some, List.getD_eq_getElem?_getD, List.getElem?_eq_getElem (by omega)]; rfl
  · rw [List.getElem?_eq_none (by simp; omega), List.getElem?_eq_none (by simp; omega)]
theorem own_arraycopy (K : own_Cx p s m meth c Z own nm bytes maxL ret) {i ia ib : Nat} {a b : Addr} {ty : FieldType} {ada adb : String} {vs vd : List Value} {sp dp nn : Int32} {sq dq nq : Nat} (hd : own_D bytes pc (.invokestatic i) 3 pc') (w1 : (Cond.methodLink own i Jvm.Stand.acN).before a0 Z = true) (w2 : (Cond.native Jvm.Stand.acN).before a0 Z = true) (w3 : (Cond.static Jvm.Stand.acN).before a0 Z = true) (w4 : (Cond.initialized "java/lang/System").before a0 Z = true) (H : own_H Z h os as)
    (ha : as[ia]? = some (a, ty, ada, vs)) (hb' : as[ib]? = some (b, ty, adb, vd)) (hty : refKind ty = false) (hto : ∀ C, ty ≠ .object C) (hsp : sp.toInt = (sq : Int)) (hdp : dp.toInt = (dq : Int)) (hnn : nn.toInt = (nq : Int)) (h4 : sq + nq ≤ vs.length) (h5 : dq + nq ≤ vd.length) (hvl : vs.length < 2147483648) (hvd : vd.length < 2147483648) (hsz : Ls.size = maxL) (hf : 1 ≤ R.frames) {W : Nat} (hW : (st.map fun v => v.category).sum ≤ W) (hlo : W + (nativeFrameWords "java/lang/System" "arraycopy" 5 + 11) ≤ R.locals)
    (hr : ∀ h', own_H Z h' os (as.set ib (b, ty, adb, vd.take dq ++ (vs.drop sq).take nq ++ vd.drop (dq + nq))) → own_G w p l e R s m args below meth c Z Q h' k n (mkF m pc' Ls st)) : own_G w p l e R s m args below meth c Z Q h k n (mkF m pc Ls (.int nn :: .int dp :: .ref b :: .int sp :: .ref a :: st)) := by
  obtain ⟨hd, rfl⟩ := hd
  refine own_step K (P := fun h' => own_H Z h' os (as.set ib (b, ty, adb, vd.take dq ++ (vs.drop sq).take nq ++ vd.drop (dq + nq)))) (fun X hZ hw eT N => ?_) hr
  obtain ⟨ka, za, qa1, qa2, A⟩ := own_arv (H.2.2.1 _ (own_mem ha)).2 hvl
  obtain ⟨kb, zb, qb1, qb2, B⟩ := own_arv (H.2.2.1 _ (own_mem hb')).2 hvd
  have i1 := own_idx hsp
  have i2 := own_idx hdp
  have i3 := own_idx hnn
  have neg : ∀ {x : Int32} {q : Nat}, x.toInt = (q : Int) → ¬ x < 0 := fun {x q} e => by rw [Int32.lt_iff_toInt_lt, e, show (0 : Int32).toInt = 0 from rfl]; omega
  obtain ⟨T', h', L, X', e', N', Kp, A', st⟩ := cpA X K.1 hZ hw w1 w2 w3 w4 eT A B (Or.inl ⟨rfl, hty⟩) (neg hsp) (neg hdp) (neg hnn) (by rw [i1, i3, qa1]; exact h4) (by rw [i2, i3, qb1]; exact h5) (by rw [i1, i3]) (by rw [i2, i3]; exact h5) N (H.2.2.1 _ (own_mem hb')).1 (g := mkF m pc Ls (.int nn :: .int dp :: .ref b :: .int sp :: .ref a :: st)) rfl (hsz.trans K.2.2.1.symm) rfl (hb K.2.1 hd) hf (W := W) (by show 2 * 0 + _ ≤ W; simpa using hW) hlo
  rw [i2, i3, ← own_range_take h4] at A'
  obtain ⟨cl, c1, -, c3, c4⟩ := own_of_arv A' (by rw [qb1]; simp; omega)
  exact ⟨T', h', L, X', N', e', Kp.1, H.keepA hb' Kp ⟨cl, c1, c3, c4⟩ hto, st⟩
theorem own_cast {g g' : JFrame} (q : g = g') (hr : own_G w p l e R s m args below meth c Z Q h k n g') : own_G w p l e R s m args below meth c Z Q h k n g := q ▸ hr
theorem own_topI {x x' : Int32} (q : x = x') (hr : own_G w p l e R s m args below meth c Z Q h k n (mkF m pc Ls (.int x' :: st))) : own_G w p l e R s m args below meth c Z Q h k n (mkF m pc Ls (.int x :: st)) := q ▸ hr
theorem own_topL {x x' : Int64} (q : x = x') (hr : own_G w p l e R s m args below meth c Z Q h k n (mkF m pc Ls (.long x' :: st))) : own_G w p l e R s m args below meth c Z Q h k n (mkF m pc Ls (.long x :: st)) := q ▸ hr
theorem own_topD {x x' : UInt64} (q : x = x') (hr : own_G w p l e R s m args below meth c Z Q h k n (mkF m pc Ls (.double x' :: st))) : own_G w p l e R s m args below meth c Z Q h k n (mkF m pc Ls (.double x :: st)) := q ▸ hr
theorem own_H.perm (H : own_H Z h os as) (po : os.Perm os') (pa : as.Perm as') : own_H Z h os' as' :=
  ⟨H.1, fun o ho => H.2.1 o (po.mem_iff.mpr ho), fun a ha => H.2.2.1 a (pa.mem_iff.mpr ha), ((po.map _).append (pa.map _)).nodup_iff.mp H.2.2.2⟩
theorem own_front {α : Type} {L : List α} {x : α} : ∀ {i : Nat}, L[i]? = some x → L.Perm (x :: L.eraseIdx i) := by
  induction L with
  | nil => intro i hx; cases hx
  | cons y L ih =>
    intro i hx
    cases i with
    | zero => cases hx; exact List.Perm.refl _
    | succ i =>
      have q := ih (i := i) (by simpa using hx)
      exact ((q.cons y).trans (List.Perm.swap x y _))
theorem own_H.frontO (H : own_H Z h os as) (i : Nat) {x : own_O} (hx : os[i]? = some x) : own_H Z h (x :: os.eraseIdx i) as := H.perm (own_front hx) (List.Perm.refl _)
theorem own_H.frontA (H : own_H Z h os as) (i : Nat) {x : own_A} (hx : as[i]? = some x) : own_H Z h os (x :: as.eraseIdx i) := H.perm (List.Perm.refl _) (own_front hx)
end OwnKit
end Jvm.RoadKit
namespace Jvm.Pilot.@@N@@
open Jvm Jvm.ClassFile Sem Op Lib Jvm.Free Jvm.Stand Jvm.LawKit Jvm.RoadKit Bundle Jvm.Pilot.@@N@@.Jvm.D
def own_Z (Z : State) (a0 : Array Value) : Prop := ∀ d ∈ tables_1, d.before a0 Z = true
theorem own_w0 {Z : State} {a0 : Array Value} (hw : own_Z Z a0) : (Jvm.Cond.constant "com/example/vestline/vestline/actuarial/MortalityTableLastAgePinLaw" (13 : Nat) (2147483647 : Int32)).before a0 Z = true := hw _ (List.mem_of_getElem? (i := 0) rfl)
theorem own_w1 {Z : State} {a0 : Array Value} (hw : own_Z Z a0) : (Jvm.Cond.methodLink "com/example/vestline/vestline/actuarial/MortalityTableLastAgePinLaw" (16 : Nat) ({ cls := "com/example/vestline/vestline/actuarial/MortalityTableLastAgePinLaw", name := "rates", desc := "(I)[D" } : Jvm.MethodName)).before a0 Z = true := hw _ (List.mem_of_getElem? (i := 1) rfl)
theorem own_w2 {Z : State} {a0 : Array Value} (hw : own_Z Z a0) : (Jvm.Cond.static ({ cls := "com/example/vestline/vestline/actuarial/MortalityTableLastAgePinLaw", name := "rates", desc := "(I)[D" } : Jvm.MethodName)).before a0 Z = true := hw _ (List.mem_of_getElem? (i := 2) rfl)
theorem own_w3 {Z : State} {a0 : Array Value} (hw : own_Z Z a0) : (Jvm.Cond.initialized "com/example/vestline/vestline/actuarial/MortalityTableLastAgePinLaw").before a0 Z = true := hw _ (List.mem_of_getElem? (i := 3) rfl)
theorem own_w4 {Z : State} {a0 : Array Value} (hw : own_Z Z a0) : (Jvm.Cond.code ({ cls := "com/example/vestline/vestline/actuarial/MortalityTableLastAgePinLaw", name := "rates", desc := "(I)[D" } : Jvm.MethodName) method_2_code (1 : Nat) (Option.some (Jvm.ClassFile.FieldType.array Jvm.ClassFile.FieldType.double))).before a0 Z = true := hw _ (List.mem_of_getElem? (i := 4) rfl)
theorem own_w5 {Z : State} {a0 : Array Value} (hw : own_Z Z a0) : (Jvm.Cond.arrayClass Jvm.ClassFile.FieldType.double).before a0 Z = true := hw _ (List.mem_of_getElem? (i := 5) rfl)
theorem own_w6 {Z : State} {a0 : Array Value} (hw : own_Z Z a0) : (Jvm.Cond.constantDouble "com/example/vestline/vestline/actuarial/MortalityTableLastAgePinLaw" (7 : Nat) (4602678819172646912 : UInt64)).before a0 Z = true := hw _ (List.mem_of_getElem? (i := 6) rfl)
theorem own_w7 {Z : State} {a0 : Array Value} (hw : own_Z Z a0) : (Jvm.Cond.constantDouble "com/example/vestline/vestline/actuarial/MortalityTableLastAgePinLaw" (9 : Nat) (4598175219545276416 : UInt64)).before a0 Z = true := hw _ (List.mem_of_getElem? (i := 7) rfl)
theorem own_w8 {Z : State} {a0 : Array Value} (hw : own_Z Z a0) : (Jvm.Cond.classLink "com/example/vestline/vestline/actuarial/MortalityTableLastAgePinLaw" (22 : Nat) "com/example/vestline/vestline/actuarial/MortalityTable").before a0 Z = true := hw _ (List.mem_of_getElem? (i := 8) rfl)
theorem own_w9 {Z : State} {a0 : Array Value} (hw : own_Z Z a0) : (Jvm.Cond.instantiable "com/example/vestline/vestline/actuarial/MortalityTable" (2 : Nat)).before a0 Z = true := hw _ (List.mem_of_getElem? (i := 9) rfl)
theorem own_w10 {Z : State} {a0 : Array Value} (hw : own_Z Z a0) : (Jvm.Cond.initialized "com/example/vestline/vestline/actuarial/MortalityTable").before a0 Z = true := hw _ (List.mem_of_getElem? (i := 10) rfl)
theorem own_w11 {Z : State} {a0 : Array Value} (hw : own_Z Z a0) : (Jvm.Cond.methodLink "com/example/vestline/vestline/actuarial/MortalityTableLastAgePinLaw" (24 : Nat) ({ cls := "com/example/vestline/vestline/actuarial/MortalityTable", name := "<init>", desc := "(I[D)V" } : Jvm.MethodName)).before a0 Z = true := hw _ (List.mem_of_getElem? (i := 11) rfl)
theorem own_w12 {Z : State} {a0 : Array Value} (hw : own_Z Z a0) : (Jvm.Cond.instanceMethod ({ cls := "com/example/vestline/vestline/actuarial/MortalityTable", name := "<init>", desc := "(I[D)V" } : Jvm.MethodName)).before a0 Z = true := hw _ (List.mem_of_getElem? (i := 12) rfl)
theorem own_w13 {Z : State} {a0 : Array Value} (hw : own_Z Z a0) : (Jvm.Cond.code ({ cls := "com/example/vestline/vestline/actuarial/MortalityTable", name := "<init>", desc := "(I[D)V" } : Jvm.MethodName) prog_2_method_1_code (6 : Nat) (Option.none : Option Jvm.ClassFile.FieldType)).before a0 Z = true := hw _ (List.mem_of_getElem? (i := 13) rfl)
theorem own_w14 {Z : State} {a0 : Array Value} (hw : own_Z Z a0) : (Jvm.Cond.methodLink "com/example/vestline/vestline/actuarial/MortalityTable" (1 : Nat) ({ cls := "java/lang/Object", name := "<init>", desc := "()V" } : Jvm.MethodName)).before a0 Z = true := hw _ (List.mem_of_getElem? (i := 14) rfl)
theorem own_w15 {Z : State} {a0 : Array Value} (hw : own_Z Z a0) : (Jvm.Cond.instanceMethod ({ cls := "java/lang/Object", name := "<init>", desc := "()V" } : Jvm.MethodName)).before a0 Z = true := hw _ (List.mem_of_getElem? (i := 15) rfl)
theorem own_w16 {Z : State} {a0 : Array Value} (hw : own_Z Z a0) : (Jvm.Cond.code ({ cls := "java/lang/Object", name := "<init>", desc := "()V" } : Jvm.MethodName) object_method_1_code (1 : Nat) (Option.none : Option Jvm.ClassFile.FieldType)).before a0 Z = true := hw _ (List.mem_of_getElem? (i := 16) rfl)
theorem own_w17 {Z : State} {a0 : Array Value} (hw : own_Z Z a0) : (Jvm.Cond.fieldLink "com/example/vestline/vestline/actuarial/MortalityTable" (21 : Nat) "com/example/vestline/vestline/actuarial/MortalityTable" "firstAge" "I").before a0 Z = true := hw _ (List.mem_of_getElem? (i := 17) rfl)
theorem own_w18 {Z : State} {a0 : Array Value} (hw : own_Z Z a0) : (Jvm.Cond.laysFinal "com/example/vestline/vestline/actuarial/MortalityTable" "com/example/vestline/vestline/actuarial/MortalityTable" "firstAge" "I").before a0 Z = true := hw _ (List.mem_of_getElem? (i := 18) rfl)
theorem own_w19 {Z : State} {a0 : Array Value} (hw : own_Z Z a0) : (Jvm.Cond.methodLink "com/example/vestline/vestline/actuarial/MortalityTable" (27 : Nat) ({ cls := "[D", name := "clone", desc := "()Ljava/lang/Object;" } : Jvm.MethodName)).before a0 Z = true := hw _ (List.mem_of_getElem? (i := 19) rfl)
theorem own_w20 {Z : State} {a0 : Array Value} (hw : own_Z Z a0) : (Jvm.Cond.sameMethod "[D" "java/lang/Object" "clone" "()Ljava/lang/Object;").before a0 Z = true := hw _ (List.mem_of_getElem? (i := 20) rfl)
theorem own_w22 {Z : State} {a0 : Array Value} (hw : own_Z Z a0) : (Jvm.Cond.instanceMethod ({ cls := "java/lang/Object", name := "clone", desc := "()Ljava/lang/Object;" } : Jvm.MethodName)).before a0 Z = true := hw _ (List.mem_of_getElem? (i := 22) rfl)
theorem own_w23 {Z : State} {a0 : Array Value} (hw : own_Z Z a0) : (Jvm.Cond.selects "[D" ({ cls := "[D", name := "clone", desc := "()Ljava/lang/Object;" } : Jvm.MethodName) ({ cls := "java/lang/Object", name := "clone", desc := "()Ljava/lang/Object;" } : Jvm.MethodName)).before a0 Z = true := hw _ (List.mem_of_getElem? (i := 23) rfl)
theorem own_w24 {Z : State} {a0 : Array Value} (hw : own_Z Z a0) : (Jvm.Cond.native ({ cls := "java/lang/Object", name := "clone", desc := "()Ljava/lang/Object;" } : Jvm.MethodName)).before a0 Z = true := hw _ (List.mem_of_getElem? (i := 24) rfl)
theorem own_w25 {Z : State} {a0 : Array Value} (hw : own_Z Z a0) : (Jvm.Cond.castable "[D" "java/lang/Cloneable").before a0 Z = true := hw _ (List.mem_of_getElem? (i := 25) rfl)
theorem own_w26 {Z : State} {a0 : Array Value} (hw : own_Z Z a0) : (Jvm.Cond.classLink "com/example/vestline/vestline/actuarial/MortalityTable" (28 : Nat) "[D").before a0 Z = true := hw _ (List.mem_of_getElem? (i := 26) rfl)
theorem own_w28 {Z : State} {a0 : Array Value} (hw : own_Z Z a0) : (Jvm.Cond.fieldLink "com/example/vestline/vestline/actuarial/MortalityTable" (33 : Nat) "com/example/vestline/vestline/actuarial/MortalityTable" "deathRates" "[D").before a0 Z = true := hw _ (List.mem_of_getElem? (i := 28) rfl)
theorem own_w29 {Z : State} {a0 : Array Value} (hw : own_Z Z a0) : (Jvm.Cond.laysFinal "com/example/vestline/vestline/actuarial/MortalityTable" "com/example/vestline/vestline/actuarial/MortalityTable" "deathRates" "[D").before a0 Z = true := hw _ (List.mem_of_getElem? (i := 29) rfl)
theorem own_w30 {Z : State} {a0 : Array Value} (hw : own_Z Z a0) : (Jvm.Cond.methodLink "com/example/vestline/vestline/actuarial/MortalityTableLastAgePinLaw" (27 : Nat) ({ cls := "com/example/vestline/vestline/actuarial/MortalityTable", name := "lastAge", desc := "()I" } : Jvm.MethodName)).before a0 Z = true := hw _ (List.mem_of_getElem? (i := 30) rfl)
theorem own_w31 {Z : State} {a0 : Array Value} (hw : own_Z Z a0) : (Jvm.Cond.declares ({ cls := "com/example/vestline/vestline/actuarial/MortalityTable", name := "lastAge", desc := "()I" } : Jvm.MethodName)).before a0 Z = true := hw _ (List.mem_of_getElem? (i := 31) rfl)
theorem own_w32 {Z : State} {a0 : Array Value} (hw : own_Z Z a0) : (Jvm.Cond.instanceMethod ({ cls := "com/example/vestline/vestline/actuarial/MortalityTable", name := "lastAge", desc := "()I" } : Jvm.MethodName)).before a0 Z = true := hw _ (List.mem_of_getElem? (i := 32) rfl)
theorem own_w33 {Z : State} {a0 : Array Value} (hw : own_Z Z a0) : (Jvm.Cond.selects "com/example/vestline/vestline/actuarial/MortalityTable" ({ cls := "com/example/vestline/vestline/actuarial/MortalityTable", name := "lastAge", desc := "()I" } : Jvm.MethodName) ({ cls := "com/example/vestline/vestline/actuarial/MortalityTable", name := "lastAge", desc := "()I" } : Jvm.MethodName)).before a0 Z = true := hw _ (List.mem_of_getElem? (i := 33) rfl)
theorem own_w34 {Z : State} {a0 : Array Value} (hw : own_Z Z a0) : (Jvm.Cond.code ({ cls := "com/example/vestline/vestline/actuarial/MortalityTable", name := "lastAge", desc := "()I" } : Jvm.MethodName) prog_2_method_4_code (1 : Nat) (Option.some Jvm.ClassFile.FieldType.int)).before a0 Z = true := hw _ (List.mem_of_getElem? (i := 34) rfl)
theorem own_w35 {Z : State} {a0 : Array Value} (hw : own_Z Z a0) : (Jvm.Cond.methodLink "com/example/vestline/vestline/actuarial/MortalityTableLastAgePinLaw" (31 : Nat) ({ cls := "com/example/vestline/vestline/actuarial/MortalityTable", name := "firstAge", desc := "()I" } : Jvm.MethodName)).before a0 Z = true := hw _ (List.mem_of_getElem? (i := 35) rfl)
theorem own_w36 {Z : State} {a0 : Array Value} (hw : own_Z Z a0) : (Jvm.Cond.declares ({ cls := "com/example/vestline/vestline/actuarial/MortalityTable", name := "firstAge", desc := "()I" } : Jvm.MethodName)).before a0 Z = true := hw _ (List.mem_of_getElem? (i := 36) rfl)
theorem own_w37 {Z : State} {a0 : Array Value} (hw : own_Z Z a0) : (Jvm.Cond.instanceMethod ({ cls := "com/example/vestline/vestline/actuarial/MortalityTable", name := "firstAge", desc := "()I" } : Jvm.MethodName)).before a0 Z = true := hw _ (List.mem_of_getElem? (i := 37) rfl)
theorem own_w38 {Z : State} {a0 : Array Value} (hw : own_Z Z a0) : (Jvm.Cond.selects "com/example/vestline/vestline/actuarial/MortalityTable" ({ cls := "com/example/vestline/vestline/actuarial/MortalityTable", name := "firstAge", desc := "()I" } : Jvm.MethodName) ({ cls := "com/example/vestline/vestline/actuarial/MortalityTable", name := "firstAge", desc := "()I" } : Jvm.MethodName)).before a0 Z = true := hw _ (List.mem_of_getElem? (i := 38) rfl)
theorem own_w39 {Z : State} {a0 : Array Value} (hw : own_Z Z a0) : (Jvm.Cond.code ({ cls := "com/example/vestline/vestline/actuarial/MortalityTable", name := "firstAge", desc := "()I" } : Jvm.MethodName) prog_2_method_3_code (1 : Nat) (Option.some Jvm.ClassFile.FieldType.int)).before a0 Z = true := hw _ (List.mem_of_getElem? (i := 39) rfl)
theorem own_w40 {Z : State} {a0 : Array Value} (hw : own_Z Z a0) : (Jvm.Cond.methodLink "com/example/vestline/vestline/actuarial/MortalityTableLastAgePinLaw" (34 : Nat) ({ cls := "com/example/vestline/vestline/actuarial/MortalityTable", name := "deathRate", desc := "(I)D" } : Jvm.MethodName)).before a0 Z = true := hw _ (List.mem_of_getElem? (i := 40) rfl)
theorem own_w41 {Z : State} {a0 : Array Value} (hw : own_Z Z a0) : (Jvm.Cond.declares ({ cls := "com/example/vestline/vestline/actuarial/MortalityTable", name := "deathRate", desc := "(I)D" } : Jvm.MethodName)).before a0 Z = true := hw _ (List.mem_of_getElem? (i := 41) rfl)
theorem own_w42 {Z : State} {a0 : Array Value} (hw : own_Z Z a0) : (Jvm.Cond.instanceMethod ({ cls := "com/example/vestline/vestline/actuarial/MortalityTable", name := "deathRate", desc := "(I)D" } : Jvm.MethodName)).before a0 Z = true := hw _ (List.mem_of_getElem? (i := 42) rfl)
theorem own_w43 {Z : State} {a0 : Array Value} (hw : own_Z Z a0) : (Jvm.Cond.selects "com/example/vestline/vestline/actuarial/MortalityTable" ({ cls := "com/example/vestline/vestline/actuarial/MortalityTable", name := "deathRate", desc := "(I)D" } : Jvm.MethodName) ({ cls := "com/example/vestline/vestline/actuarial/MortalityTable", name := "deathRate", desc := "(I)D" } : Jvm.MethodName)).before a0 Z = true := hw _ (List.mem_of_getElem? (i := 43) rfl)
theorem own_w44 {Z : State} {a0 : Array Value} (hw : own_Z Z a0) : (Jvm.Cond.code ({ cls := "com/example/vestline/vestline/actuarial/MortalityTable", name := "deathRate", desc := "(I)D" } : Jvm.MethodName) prog_2_method_5_code (2 : Nat) (Option.some Jvm.ClassFile.FieldType.double)).before a0 Z = true := hw _ (List.mem_of_getElem? (i := 44) rfl)
theorem own_w45 {Z : State} {a0 : Array Value} (hw : own_Z Z a0) : (Jvm.Cond.methodLink "com/example/vestline/vestline/actuarial/MortalityTable" (42 : Nat) ({ cls := "com/example/vestline/vestline/actuarial/MortalityTable", name := "requireAge", desc := "(I)V" } : Jvm.MethodName)).before a0 Z = true := hw _ (List.mem_of_getElem? (i := 45) rfl)
theorem own_w46 {Z : State} {a0 : Array Value} (hw : own_Z Z a0) : (Jvm.Cond.declares ({ cls := "com/example/vestline/vestline/actuarial/MortalityTable", name := "requireAge", desc := "(I)V" } : Jvm.MethodName)).before a0 Z = true := hw _ (List.mem_of_getElem? (i := 46) rfl)
theorem own_w47 {Z : State} {a0 : Array Value} (hw : own_Z Z a0) : (Jvm.Cond.instanceMethod ({ cls := "com/example/vestline/vestline/actuarial/MortalityTable", name := "requireAge", desc := "(I)V" } : Jvm.MethodName)).before a0 Z = true := hw _ (List.mem_of_getElem? (i := 47) rfl)
theorem own_w48 {Z : State} {a0 : Array Value} (hw : own_Z Z a0) : (Jvm.Cond.selects "com/example/vestline/vestline/actuarial/MortalityTable" ({ cls := "com/example/vestline/vestline/actuarial/MortalityTable", name := "requireAge", desc := "(I)V" } : Jvm.MethodName) ({ cls := "com/example/vestline/vestline/actuarial/MortalityTable", name := "requireAge", desc := "(I)V" } : Jvm.MethodName)).before a0 Z = true := hw _ (List.mem_of_getElem? (i := 48) rfl)
theorem own_w49 {Z : State} {a0 : Array Value} (hw : own_Z Z a0) : (Jvm.Cond.code ({ cls := "com/example/vestline/vestline/actuarial/MortalityTable", name := "requireAge", desc := "(I)V" } : Jvm.MethodName) prog_2_method_7_code (2 : Nat) (Option.none : Option Jvm.ClassFile.FieldType)).before a0 Z = true := hw _ (List.mem_of_getElem? (i := 49) rfl)
theorem own_w50 {Z : State} {a0 : Array Value} (hw : own_Z Z a0) : (Jvm.Cond.methodLink "com/example/vestline/vestline/actuarial/MortalityTable" (49 : Nat) ({ cls := "com/example/vestline/vestline/actuarial/MortalityTable", name := "lastAge", desc := "()I" } : Jvm.MethodName)).before a0 Z = true := hw _ (List.mem_of_getElem? (i := 50) rfl)
theorem own_w51 {Z : State} {a0 : Array Value} (hw : own_Z Z a0) : (Jvm.Cond.constantDouble "com/example/vestline/vestline/actuarial/MortalityTableLastAgePinLaw" (11 : Nat) (4604930618986332160 : UInt64)).before a0 Z = true := hw _ (List.mem_of_getElem? (i := 51) rfl)
theorem own_d0_0 : own_D method_2_code 0 (.iload_n 0) 1 1 := ⟨by decide +kernel, rfl⟩
theorem own_d0_1 : own_D method_2_code 1 (.iconst 1) 1 2 := ⟨by decide +kernel, rfl⟩
theorem own_d0_2 : own_B method_2_code 2 (.if_icmp .ne 13) 13 5 15 := ⟨by decide +kernel, rfl, by decide, by decide⟩
theorem own_d0_5 : own_D method_2_code 5 (.iconst 1) 1 6 := ⟨by decide +kernel, rfl⟩
theorem own_d0_6 : own_D method_2_code 6 (.newarray .double) 2 8 := ⟨by decide +kernel, rfl⟩
theorem own_d0_8 : own_D method_2_code 8 (.dup) 1 9 := ⟨by decide +kernel, rfl⟩
theorem own_d0_9 : own_D method_2_code 9 (.iconst 0) 1 10 := ⟨by decide +kernel, rfl⟩
theorem own_d0_10 : own_D method_2_code 10 (.ldc2_w 7) 3 13 := ⟨by decide +kernel, rfl⟩
theorem own_d0_13 : own_D method_2_code 13 (.dastore) 1 14 := ⟨by decide +kernel, rfl⟩
theorem own_d0_14 : own_D method_2_code 14 (.areturn) 1 15 := ⟨by decide +kernel, rfl⟩
theorem own_d1_0 : own_D prog_2_method_1_code 0 (.aload_n 0) 1 1 := ⟨by decide +kernel, rfl⟩
theorem own_d1_1 : own_D prog_2_method_1_code 1 (.invokespecial 1) 3 4 := ⟨by decide +kernel, rfl⟩
theorem own_d1_4 : own_D prog_2_method_1_code 4 (.iload_n 1) 1 5 := ⟨by decide +kernel, rfl⟩
theorem own_d1_5 : own_B prog_2_method_1_code 5 (.ifCond .ge 17) 17 8 22 := ⟨by decide +kernel, rfl, by decide, by decide⟩
theorem own_d1_22 : own_D prog_2_method_1_code 22 (.aload_n 2) 1 23 := ⟨by decide +kernel, rfl⟩
theorem own_d1_23 : own_D prog_2_method_1_code 23 (.arraylength) 1 24 := ⟨by decide +kernel, rfl⟩
theorem own_d1_24 : own_B prog_2_method_1_code 24 (.ifCond .ne 13) 13 27 37 := ⟨by decide +kernel, rfl, by decide, by decide⟩
theorem own_d1_37 : own_D prog_2_method_1_code 37 (.iconst 0) 1 38 := ⟨by decide +kernel, rfl⟩
theorem own_d1_38 : own_D prog_2_method_1_code 38 (.istore_n 3) 1 39 := ⟨by decide +kernel, rfl⟩
theorem own_d1_39 : own_D prog_2_method_1_code 39 (.iload_n 3) 1 40 := ⟨by decide +kernel, rfl⟩
theorem own_d1_40 : own_D prog_2_method_1_code 40 (.aload_n 2) 1 41 := ⟨by decide +kernel, rfl⟩
theorem own_d1_41 : own_D prog_2_method_1_code 41 (.arraylength) 1 42 := ⟨by decide +kernel, rfl⟩
theorem own_d1_42 : own_B prog_2_method_1_code 42 (.if_icmp .ge 46) 46 45 88 := ⟨by decide +kernel, rfl, by decide, by decide⟩
theorem own_d1_45 : own_D prog_2_method_1_code 45 (.aload_n 2) 1 46 := ⟨by decide +kernel, rfl⟩
theorem own_d1_46 : own_D prog_2_method_1_code 46 (.iload_n 3) 1 47 := ⟨by decide +kernel, rfl⟩
theorem own_d1_47 : own_D prog_2_method_1_code 47 (.daload) 1 48 := ⟨by decide +kernel, rfl⟩
theorem own_d1_48 : own_D prog_2_method_1_code 48 (.dstore 4) 2 50 := ⟨by decide +kernel, rfl⟩
theorem own_d1_50 : own_D prog_2_method_1_code 50 (.dload 4) 2 52 := ⟨by decide +kernel, rfl⟩
theorem own_d1_52 : own_D prog_2_method_1_code 52 (.dconst 0) 1 53 := ⟨by decide +kernel, rfl⟩
theorem own_d1_53 : own_D prog_2_method_1_code 53 (.dcmp .l) 1 54 := ⟨by decide +kernel, rfl⟩
theorem own_d1_54 : own_B prog_2_method_1_code 54 (.ifCond .lt 10) 10 57 64 := ⟨by decide +kernel, rfl, by decide, by decide⟩
theorem own_d1_57 : own_D prog_2_method_1_code 57 (.dload 4) 2 59 := ⟨by decide +kernel, rfl⟩
theorem own_d1_59 : own_D prog_2_method_1_code 59 (.dconst 1) 1 60 := ⟨by decide +kernel, rfl⟩
theorem own_d1_60 : own_D prog_2_method_1_code 60 (.dcmp .g) 1 61 := ⟨by decide +kernel, rfl⟩
theorem own_d1_61 : own_B prog_2_method_1_code 61 (.ifCond .le 21) 21 64 82 := ⟨by decide +kernel, rfl, by decide, by decide⟩
theorem own_d1_82 : own_D prog_2_method_1_code 82 (.iinc 3 1) 3 85 := ⟨by decide +kernel, rfl⟩
theorem own_d1_85 : own_B prog_2_method_1_code 85 (.goto (-46)) (-46) 88 39 := ⟨by decide +kernel, rfl, by decide, by decide⟩
theorem own_d1_88 : own_D prog_2_method_1_code 88 (.aload_n 0) 1 89 := ⟨by decide +kernel, rfl⟩
theorem own_d1_89 : own_D prog_2_method_1_code 89 (.iload_n 1) 1 90 := ⟨by decide +kernel, rfl⟩
theorem own_d1_90 : own_D prog_2_method_1_code 90 (.putfield 21) 3 93 := ⟨by decide +kernel, rfl⟩
theorem own_d1_93 : own_D prog_2_method_1_code 93 (.aload_n 0) 1 94 := ⟨by decide +kernel, rfl⟩
theorem own_d1_94 : own_D prog_2_method_1_code 94 (.aload_n 2) 1 95 := ⟨by decide +kernel, rfl⟩
theorem own_d1_95 : own_D prog_2_method_1_code 95 (.invokevirtual 27) 3 98 := ⟨by decide +kernel, rfl⟩
theorem own_d1_98 : own_D prog_2_method_1_code 98 (.checkcast 28) 3 101 := ⟨by decide +kernel, rfl⟩
theorem own_d1_101 : own_D prog_2_method_1_code 101 (.putfield 33) 3 104 := ⟨by decide +kernel, rfl⟩
theorem own_d1_104 : own_D prog_2_method_1_code 104 (.return_) 1 105 := ⟨by decide +kernel, rfl⟩
theorem own_d0_15 : own_D method_2_code 15 (.iload_n 0) 1 16 := ⟨by decide +kernel, rfl⟩
theorem own_d0_16 : own_D method_2_code 16 (.iconst 2) 1 17 := ⟨by decide +kernel, rfl⟩
theorem own_d0_17 : own_B method_2_code 17 (.if_icmp .ne 15) 15 20 32 := ⟨by decide +kernel, rfl, by decide, by decide⟩
theorem own_d0_20 : own_D method_2_code 20 (.iconst 2) 1 21 := ⟨by decide +kernel, rfl⟩
theorem own_d0_21 : own_D method_2_code 21 (.newarray .double) 2 23 := ⟨by decide +kernel, rfl⟩
theorem own_d0_23 : own_D method_2_code 23 (.dup) 1 24 := ⟨by decide +kernel, rfl⟩
theorem own_d0_24 : own_D method_2_code 24 (.iconst 0) 1 25 := ⟨by decide +kernel, rfl⟩
theorem own_d0_25 : own_D method_2_code 25 (.dconst 0) 1 26 := ⟨by decide +kernel, rfl⟩
theorem own_d0_26 : own_D method_2_code 26 (.dastore) 1 27 := ⟨by decide +kernel, rfl⟩
theorem own_d0_27 : own_D method_2_code 27 (.dup) 1 28 := ⟨by decide +kernel, rfl⟩
theorem own_d0_28 : own_D method_2_code 28 (.iconst 1) 1 29 := ⟨by decide +kernel, rfl⟩
theorem own_d0_29 : own_D method_2_code 29 (.dconst 1) 1 30 := ⟨by decide +kernel, rfl⟩
theorem own_d0_30 : own_D method_2_code 30 (.dastore) 1 31 := ⟨by decide +kernel, rfl⟩
theorem own_d0_31 : own_D method_2_code 31 (.areturn) 1 32 := ⟨by decide +kernel, rfl⟩
theorem own_d0_32 : own_D method_2_code 32 (.iload_n 0) 1 33 := ⟨by decide +kernel, rfl⟩
theorem own_d0_33 : own_D method_2_code 33 (.iconst 3) 1 34 := ⟨by decide +kernel, rfl⟩
theorem own_d0_34 : own_B method_2_code 34 (.if_icmp .ne 25) 25 37 59 := ⟨by decide +kernel, rfl, by decide, by decide⟩
theorem own_d0_37 : own_D method_2_code 37 (.iconst 3) 1 38 := ⟨by decide +kernel, rfl⟩
theorem own_d0_38 : own_D method_2_code 38 (.newarray .double) 2 40 := ⟨by decide +kernel, rfl⟩
theorem own_d0_40 : own_D method_2_code 40 (.dup) 1 41 := ⟨by decide +kernel, rfl⟩
theorem own_d0_41 : own_D method_2_code 41 (.iconst 0) 1 42 := ⟨by decide +kernel, rfl⟩
theorem own_d0_42 : own_D method_2_code 42 (.ldc2_w 9) 3 45 := ⟨by decide +kernel, rfl⟩
theorem own_d0_45 : own_D method_2_code 45 (.dastore) 1 46 := ⟨by decide +kernel, rfl⟩
theorem own_d0_46 : own_D method_2_code 46 (.dup) 1 47 := ⟨by decide +kernel, rfl⟩
theorem own_d0_47 : own_D method_2_code 47 (.iconst 1) 1 48 := ⟨by decide +kernel, rfl⟩
theorem own_d0_48 : own_D method_2_code 48 (.ldc2_w 7) 3 51 := ⟨by decide +kernel, rfl⟩
theorem own_d0_51 : own_D method_2_code 51 (.dastore) 1 52 := ⟨by decide +kernel, rfl⟩
theorem own_d0_52 : own_D method_2_code 52 (.dup) 1 53 := ⟨by decide +kernel, rfl⟩
theorem own_d0_53 : own_D method_2_code 53 (.iconst 2) 1 54 := ⟨by decide +kernel, rfl⟩
theorem own_d0_54 : own_D method_2_code 54 (.ldc2_w 11) 3 57 := ⟨by decide +kernel, rfl⟩
theorem own_d0_57 : own_D method_2_code 57 (.dastore) 1 58 := ⟨by decide +kernel, rfl⟩
theorem own_d0_58 : own_D method_2_code 58 (.areturn) 1 59 := ⟨by decide +kernel, rfl⟩
theorem own_d0_59 : own_D method_2_code 59 (.iconst 4) 1 60 := ⟨by decide +kernel, rfl⟩
theorem own_d0_60 : own_D method_2_code 60 (.newarray .double) 2 62 := ⟨by decide +kernel, rfl⟩
theorem own_d0_62 : own_D method_2_code 62 (.dup) 1 63 := ⟨by decide +kernel, rfl⟩
theorem own_d0_63 : own_D method_2_code 63 (.iconst 0) 1 64 := ⟨by decide +kernel, rfl⟩
theorem own_d0_64 : own_D method_2_code 64 (.dconst 1) 1 65 := ⟨by decide +kernel, rfl⟩
theorem own_d0_65 : own_D method_2_code 65 (.dastore) 1 66 := ⟨by decide +kernel, rfl⟩
theorem own_d0_66 : own_D method_2_code 66 (.dup) 1 67 := ⟨by decide +kernel, rfl⟩
theorem own_d0_67 : own_D method_2_code 67 (.iconst 1) 1 68 := ⟨by decide +kernel, rfl⟩
theorem own_d0_68 : own_D method_2_code 68 (.dconst 0) 1 69 := ⟨by decide +kernel, rfl⟩
theorem own_d0_69 : own_D method_2_code 69 (.dastore) 1 70 := ⟨by decide +kernel, rfl⟩
theorem own_d0_70 : own_D method_2_code 70 (.dup) 1 71 := ⟨by decide +kernel, rfl⟩
theorem own_d0_71 : own_D method_2_code 71 (.iconst 2) 1 72 := ⟨by decide +kernel, rfl⟩
theorem own_d0_72 : own_D method_2_code 72 (.ldc2_w 7) 3 75 := ⟨by decide +kernel, rfl⟩
theorem own_d0_75 : own_D method_2_code 75 (.dastore) 1 76 := ⟨by decide +kernel, rfl⟩
theorem own_d0_76 : own_D method_2_code 76 (.dup) 1 77 := ⟨by decide +kernel, rfl⟩
theorem own_d0_77 : own_D method_2_code 77 (.iconst 3) 1 78 := ⟨by decide +kernel, rfl⟩
theorem own_d0_78 : own_D method_2_code 78 (.ldc2_w 9) 3 81 := ⟨by decide +kernel, rfl⟩
theorem own_d0_81 : own_D method_2_code 81 (.dastore) 1 82 := ⟨by decide +kernel, rfl⟩
theorem own_d0_82 : own_D method_2_code 82 (.areturn) 1 83 := ⟨by decide +kernel, rfl⟩
theorem own_d2_0 : own_D prog_2_method_4_code 0 (.aload_n 0) 1 1 := ⟨by decide +kernel, rfl⟩
theorem own_d2_1 : own_D prog_2_method_4_code 1 (.getfield 21) 3 4 := ⟨by decide +kernel, rfl⟩
theorem own_d2_4 : own_D prog_2_method_4_code 4 (.aload_n 0) 1 5 := ⟨by decide +kernel, rfl⟩
theorem own_d2_5 : own_D prog_2_method_4_code 5 (.getfield 33) 3 8 := ⟨by decide +kernel, rfl⟩
theorem own_d2_8 : own_D prog_2_method_4_code 8 (.arraylength) 1 9 := ⟨by decide +kernel, rfl⟩
theorem own_d2_9 : own_D prog_2_method_4_code 9 (.iadd) 1 10 := ⟨by decide +kernel, rfl⟩
theorem own_d2_10 : own_D prog_2_method_4_code 10 (.iconst 1) 1 11 := ⟨by decide +kernel, rfl⟩
theorem own_d2_11 : own_D prog_2_method_4_code 11 (.isub) 1 12 := ⟨by decide +kernel, rfl⟩
theorem own_d2_12 : own_D prog_2_method_4_code 12 (.ireturn) 1 13 := ⟨by decide +kernel, rfl⟩
theorem own_d3_0 : own_D prog_2_method_3_code 0 (.aload_n 0) 1 1 := ⟨by decide +kernel, rfl⟩
theorem own_d3_1 : own_D prog_2_method_3_code 1 (.getfield 21) 3 4 := ⟨by decide +kernel, rfl⟩
theorem own_d3_4 : own_D prog_2_method_3_code 4 (.ireturn) 1 5 := ⟨by decide +kernel, rfl⟩
theorem own_d4_0 : own_D prog_2_method_7_code 0 (.iload_n 1) 1 1 := ⟨by decide +kernel, rfl⟩
theorem own_d4_1 : own_D prog_2_method_7_code 1 (.aload_n 0) 1 2 := ⟨by decide +kernel, rfl⟩
theorem own_d4_2 : own_D prog_2_method_7_code 2 (.getfield 21) 3 5 := ⟨by decide +kernel, rfl⟩
theorem own_d4_5 : own_B prog_2_method_7_code 5 (.if_icmp .lt 11) 11 8 16 := ⟨by decide +kernel, rfl, by decide, by decide⟩
theorem own_d4_8 : own_D prog_2_method_7_code 8 (.iload_n 1) 1 9 := ⟨by decide +kernel, rfl⟩
theorem own_d4_9 : own_D prog_2_method_7_code 9 (.aload_n 0) 1 10 := ⟨by decide +kernel, rfl⟩
theorem own_d4_10 : own_D prog_2_method_7_code 10 (.invokevirtual 49) 3 13 := ⟨by decide +kernel, rfl⟩
theorem own_d4_13 : own_B prog_2_method_7_code 13 (.if_icmp .le 25) 25 16 38 := ⟨by decide +kernel, rfl, by decide, by decide⟩
theorem own_d4_38 : own_D prog_2_method_7_code 38 (.return_) 1 39 := ⟨by decide +kernel, rfl⟩
theorem own_d5_0 : own_D prog_2_method_5_code 0 (.aload_n 0) 1 1 := ⟨by decide +kernel, rfl⟩
theorem own_d5_1 : own_D prog_2_method_5_code 1 (.iload_n 1) 1 2 := ⟨by decide +kernel, rfl⟩
theorem own_d5_2 : own_D prog_2_method_5_code 2 (.invokevirtual 42) 3 5 := ⟨by decide +kernel, rfl⟩
theorem own_d5_5 : own_D prog_2_method_5_code 5 (.aload_n 0) 1 6 := ⟨by decide +kernel, rfl⟩
theorem own_d5_6 : own_D prog_2_method_5_code 6 (.getfield 33) 3 9 := ⟨by decide +kernel, rfl⟩
theorem own_d5_9 : own_D prog_2_method_5_code 9 (.iload_n 1) 1 10 := ⟨by decide +kernel, rfl⟩
theorem own_d5_10 : own_D prog_2_method_5_code 10 (.aload_n 0) 1 11 := ⟨by decide +kernel, rfl⟩
theorem own_d5_11 : own_D prog_2_method_5_code 11 (.getfield 21) 3 14 := ⟨by decide +kernel, rfl⟩
theorem own_d5_14 : own_D prog_2_method_5_code 14 (.isub) 1 15 := ⟨by decide +kernel, rfl⟩
theorem own_d5_15 : own_D prog_2_method_5_code 15 (.daload) 1 16 := ⟨by decide +kernel, rfl⟩
theorem own_d5_16 : own_D prog_2_method_5_code 16 (.dreturn) 1 17 := ⟨by decide +kernel, rfl⟩
theorem own_d6_0 : own_D code 0 (.iload_n 0) 1 1 := ⟨by decide +kernel, rfl⟩
theorem own_d6_1 : own_D code 1 (.ldc 13) 2 3 := ⟨by decide +kernel, rfl⟩
theorem own_d6_3 : own_D code 3 (.iand) 1 4 := ⟨by decide +kernel, rfl⟩
theorem own_d6_4 : own_D code 4 (.istore_n 2) 1 5 := ⟨by decide +kernel, rfl⟩
theorem own_d6_5 : own_D code 5 (.iconst 1) 1 6 := ⟨by decide +kernel, rfl⟩
theorem own_d6_6 : own_D code 6 (.iload_n 1) 1 7 := ⟨by decide +kernel, rfl⟩
theorem own_d6_7 : own_D code 7 (.iconst 3) 1 8 := ⟨by decide +kernel, rfl⟩
theorem own_d6_8 : own_D code 8 (.iand) 1 9 := ⟨by decide +kernel, rfl⟩
theorem own_d6_9 : own_D code 9 (.iadd) 1 10 := ⟨by decide +kernel, rfl⟩
theorem own_d6_10 : own_D code 10 (.istore_n 3) 1 11 := ⟨by decide +kernel, rfl⟩
theorem own_d6_11 : own_D code 11 (.iload_n 2) 1 12 := ⟨by decide +kernel, rfl⟩
theorem own_d6_12 : own_D code 12 (.ldc 13) 2 14 := ⟨by decide +kernel, rfl⟩
theorem own_d6_14 : own_D code 14 (.iload_n 3) 1 15 := ⟨by decide +kernel, rfl⟩
theorem own_d6_15 : own_D code 15 (.iconst 1) 1 16 := ⟨by decide +kernel, rfl⟩
theorem own_d6_16 : own_D code 16 (.isub) 1 17 := ⟨by decide +kernel, rfl⟩
theorem own_d6_17 : own_D code 17 (.isub) 1 18 := ⟨by decide +kernel, rfl⟩
theorem own_d6_18 : own_B code 18 (.if_icmp .le 5) 5 21 23 := ⟨by decide +kernel, rfl, by decide, by decide⟩
theorem own_d6_23 : own_D code 23 (.iload_n 3) 1 24 := ⟨by decide +kernel, rfl⟩
theorem own_d6_24 : own_D code 24 (.invokestatic 16) 3 27 := ⟨by decide +kernel, rfl⟩
theorem own_d6_27 : own_D code 27 (.astore 4) 2 29 := ⟨by decide +kernel, rfl⟩
theorem own_d6_29 : own_D code 29 (.new 22) 3 32 := ⟨by decide +kernel, rfl⟩
theorem own_d6_32 : own_D code 32 (.dup) 1 33 := ⟨by decide +kernel, rfl⟩
theorem own_d6_33 : own_D code 33 (.iload_n 2) 1 34 := ⟨by decide +kernel, rfl⟩
theorem own_d6_34 : own_D code 34 (.aload 4) 2 36 := ⟨by decide +kernel, rfl⟩
theorem own_d6_36 : own_D code 36 (.invokespecial 24) 3 39 := ⟨by decide +kernel, rfl⟩
theorem own_d6_39 : own_D code 39 (.astore 5) 2 41 := ⟨by decide +kernel, rfl⟩
theorem own_d6_41 : own_D code 41 (.aload 5) 2 43 := ⟨by decide +kernel, rfl⟩
theorem own_d6_43 : own_D code 43 (.invokevirtual 27) 3 46 := ⟨by decide +kernel, rfl⟩
theorem own_d6_46 : own_D code 46 (.istore 6) 2 48 := ⟨by decide +kernel, rfl⟩
theorem own_d6_48 : own_D code 48 (.iload_n 2) 1 49 := ⟨by decide +kernel, rfl⟩
theorem own_d6_49 : own_D code 49 (.i2l) 1 50 := ⟨by decide +kernel, rfl⟩
theorem own_d6_50 : own_D code 50 (.iload_n 3) 1 51 := ⟨by decide +kernel, rfl⟩
theorem own_d6_51 : own_D code 51 (.i2l) 1 52 := ⟨by decide +kernel, rfl⟩
theorem own_d6_52 : own_D code 52 (.ladd) 1 53 := ⟨by decide +kernel, rfl⟩
theorem own_d6_53 : own_D code 53 (.lconst 1) 1 54 := ⟨by decide +kernel, rfl⟩
theorem own_d6_54 : own_D code 54 (.lsub) 1 55 := ⟨by decide +kernel, rfl⟩
theorem own_d6_55 : own_D code 55 (.lstore 7) 2 57 := ⟨by decide +kernel, rfl⟩
theorem own_d6_57 : own_D code 57 (.iload 6) 2 59 := ⟨by decide +kernel, rfl⟩
theorem own_d6_59 : own_D code 59 (.i2l) 1 60 := ⟨by decide +kernel, rfl⟩
theorem own_d6_60 : own_D code 60 (.lload 7) 2 62 := ⟨by decide +kernel, rfl⟩
theorem own_d6_62 : own_D code 62 (.lcmp) 1 63 := ⟨by decide +kernel, rfl⟩
theorem own_d6_63 : own_B code 63 (.ifCond .ne 34) 34 66 97 := ⟨by decide +kernel, rfl, by decide, by decide⟩
theorem own_d6_66 : own_D code 66 (.aload 5) 2 68 := ⟨by decide +kernel, rfl⟩
theorem own_d6_68 : own_D code 68 (.invokevirtual 31) 3 71 := ⟨by decide +kernel, rfl⟩
theorem own_d6_71 : own_D code 71 (.iload 6) 2 73 := ⟨by decide +kernel, rfl⟩
theorem own_d6_73 : own_B code 73 (.if_icmp .gt 24) 24 76 97 := ⟨by decide +kernel, rfl, by decide, by decide⟩
theorem own_d6_76 : own_D code 76 (.aload 5) 2 78 := ⟨by decide +kernel, rfl⟩
theorem own_d6_78 : own_D code 78 (.iload 6) 2 80 := ⟨by decide +kernel, rfl⟩
theorem own_d6_80 : own_D code 80 (.invokevirtual 34) 3 83 := ⟨by decide +kernel, rfl⟩
theorem own_d6_83 : own_D code 83 (.aload 4) 2 85 := ⟨by decide +kernel, rfl⟩
theorem own_d6_85 : own_D code 85 (.iload_n 3) 1 86 := ⟨by decide +kernel, rfl⟩
theorem own_d6_86 : own_D code 86 (.iconst 1) 1 87 := ⟨by decide +kernel, rfl⟩
theorem own_d6_87 : own_D code 87 (.isub) 1 88 := ⟨by decide +kernel, rfl⟩
theorem own_d6_88 : own_D code 88 (.daload) 1 89 := ⟨by decide +kernel, rfl⟩
theorem own_d6_89 : own_D code 89 (.dcmp .l) 1 90 := ⟨by decide +kernel, rfl⟩
theorem own_d6_90 : own_B code 90 (.ifCond .ne 7) 7 93 97 := ⟨by decide +kernel, rfl, by decide, by decide⟩
theorem own_d6_93 : own_D code 93 (.iconst 1) 1 94 := ⟨by decide +kernel, rfl⟩
theorem own_d6_94 : own_B code 94 (.goto 4) 4 97 98 := ⟨by decide +kernel, rfl, by decide, by decide⟩
theorem own_d6_98 : own_D code 98 (.ireturn) 1 99 := ⟨by decide +kernel, rfl⟩
theorem own_d6_21 : own_D code 21 (.iconst 1) 1 22 := ⟨by decide +kernel, rfl⟩
theorem own_d6_22 : own_D code 22 (.ireturn) 1 23 := ⟨by decide +kernel, rfl⟩
theorem own_pd0 : parseMethodDescriptor "()I" = some ⟨[], some .int⟩ := by decide +kernel
theorem own_pd1 : parseMethodDescriptor "(I)V" = some ⟨[.int], none⟩ := by decide +kernel
theorem own_pd2 : parseMethodDescriptor "(I)[D" = some ⟨[.int], some (.array .double)⟩ := by decide +kernel
theorem own_pd3 : parseMethodDescriptor "(I[D)V" = some ⟨[.int, (.array .double)], none⟩ := by decide +kernel
theorem own_pd4 : parseMethodDescriptor "(I)D" = some ⟨[.int], some .double⟩ := by decide +kernel
abbrev own_MT (a : Addr) (f0 f1 : Value) : own_O := (a, "com/example/vestline/vestline/actuarial/MortalityTable", [("com/example/vestline/vestline/actuarial/MortalityTable", "firstAge", "I", f0), ("com/example/vestline/vestline/actuarial/MortalityTable", "deathRates", "[D", f1)])
theorem own_MT_F {Z : State} {a0 : Array Value} (hw : own_Z Z a0) : ∀ f ∈ ([("com/example/vestline/vestline/actuarial/MortalityTable", "firstAge", "I", (.int (0 : Int32))), ("com/example/vestline/vestline/actuarial/MortalityTable", "deathRates", "[D", .null)] : List (String × String × String × Value)), Laid Z a0 "com/example/vestline/vestline/actuarial/MortalityTable" f.1 f.2.1 f.2.2.1 ∧ ∃ ty, parseFieldDescriptor f.2.2.1 = some ty ∧ f.2.2.2 = defaultValue ty := by
  intro f hf
  simp only [List.mem_cons, List.not_mem_nil, or_false] at hf
  rcases hf with rfl | rfl
  · exact ⟨Or.inr (own_w18 hw), .int, by decide +kernel, rfl⟩
  · exact ⟨Or.inr (own_w29 hw), (.array .double), by decide +kernel, rfl⟩
theorem own_MT_P {Z : State} {a0 : Array Value} (hw : own_Z Z a0) : ([("com/example/vestline/vestline/actuarial/MortalityTable", "firstAge", "I", (.int (0 : Int32))), ("com/example/vestline/vestline/actuarial/MortalityTable", "deathRates", "[D", .null)] : List (String × String × String × Value)).Pairwise (fun f g => Jvm.RoadKit.slotOf Z f.1 f.2.1 f.2.2.1 ≠ Jvm.RoadKit.slotOf Z g.1 g.2.1 g.2.2.1) := by
  simp only [List.pairwise_cons, List.mem_cons, List.not_mem_nil, or_false, forall_eq_or_imp, forall_eq, List.Pairwise.nil, and_true, false_implies, implies_true]
  exact slot_ne (C := "com/example/vestline/vestline/actuarial/MortalityTable") (Or.inr (own_w18 hw)) (Or.inr (own_w29 hw)) (by decide) (t := .int) (by decide +kernel) (t' := (.array .double)) (by decide +kernel)

theorem own_and3 (k : Int32) : k &&& 3 = 0 ∨ k &&& 3 = 1 ∨ k &&& 3 = 2 ∨ k &&& 3 = 3 := by
  have h : ∀ b : BitVec 32, b &&& 3#32 = 0#32 ∨ b &&& 3#32 = 1#32 ∨ b &&& 3#32 = 2#32 ∨ b &&& 3#32 = 3#32 := by
    intro b
    have q : (b &&& 3#32).toNat ≤ 3 := by rw [BitVec.toNat_and]; exact Nat.and_le_right
    bv_omega
  rcases h k.toBitVec with q | q | q | q
  · exact Or.inl (Int32.toBitVec_inj.mp q)
  · exact Or.inr (Or.inl (Int32.toBitVec_inj.mp q))
  · exact Or.inr (Or.inr (Or.inl (Int32.toBitVec_inj.mp q)))
  · exact Or.inr (Or.inr (Or.inr (Int32.toBitVec_inj.mp q)))
theorem own_and_bound (a b : Int32) (hb : 0 ≤ b.toInt) : 0 ≤ (a &&& b).toInt ∧ (a &&& b).toInt ≤ b.toInt := by
  have q : (a &&& b).toBitVec.toNat ≤ b.toBitVec.toNat := by
    show (a.toBitVec &&& b.toBitVec).toNat ≤ _
    rw [BitVec.toNat_and]; exact Nat.and_le_right
  have hb' : b.toInt = (b.toBitVec.toNat : Int) := by
    have : b.toInt = b.toBitVec.toInt := rfl
    rw [this] at hb ⊢
    rw [BitVec.toInt_eq_toNat_cond] at hb ⊢
    have := b.toBitVec.isLt
    split at hb <;> split <;> omega
  have hlt : 2 * b.toBitVec.toNat < 2 ^ 32 := by have := Int32.toInt_lt b; omega
  have : (a &&& b).toInt = (a &&& b).toBitVec.toInt := rfl
  rw [this, BitVec.toInt_eq_toNat_cond]
  split <;> omega
theorem own_add32 {a b : Int32} (h1 : -2147483648 ≤ a.toInt + b.toInt) (h2 : a.toInt + b.toInt ≤ 2147483647) : (a + b).toInt = a.toInt + b.toInt := by
  rw [Int32.toInt_add]; exact Int.bmod_eq_of_le (by omega) (by omega)
theorem own_sub32 {a b : Int32} (h1 : -2147483648 ≤ a.toInt - b.toInt) (h2 : a.toInt - b.toInt ≤ 2147483647) : (a - b).toInt = a.toInt - b.toInt := by
  rw [Int32.toInt_sub]; exact Int.bmod_eq_of_le (by omega) (by omega)
theorem own_mul32 {a b : Int32} (h1 : -2147483648 ≤ a.toInt * b.toInt) (h2 : a.toInt * b.toInt ≤ 2147483647) : (a * b).toInt = a.toInt * b.toInt := by
  rw [Int32.toInt_mul]; exact Int.bmod_eq_of_le (by omega) (by omega)
theorem own_rem32 {a b : Int32} (ha : 0 ≤ a.toInt) (hb : 0 < b.toInt) : 0 ≤ (a % b).toInt ∧ (a % b).toInt < b.toInt := by
  rw [Int32.toInt_mod]
  have h1 := Int.tmod_nonneg b.toInt ha
  have h2 := Int.tmod_lt_of_pos a.toInt hb
  omega
theorem own_i64 (a : Int32) : a.toInt64.toInt = a.toInt := by simp

theorem own_mask31 (a : Int32) : 0 ≤ (a &&& 2147483647).toInt := (own_and_bound a 2147483647 (by decide)).1
theorem own_last {fa N : Int32} (h0 : 0 ≤ fa.toInt) (hN : 1 ≤ N.toInt) (hm : fa.toInt + N.toInt ≤ 2147483648) : (fa + N - 1).toInt = fa.toInt + N.toInt - 1 := by
  have e1 : (1 : Int32).toInt = 1 := rfl
  have := Int32.toInt_lt N
  have q : fa + N - 1 = fa + (N - 1) := by rw [Int32.sub_eq_add_neg, Int32.add_assoc, ← Int32.sub_eq_add_neg]
  rw [q, own_add32] <;> rw [own_sub32 (by omega) (by omega)] <;> omega
theorem own_sl (fa N : Int32) : fa + N - 1 - fa = N - 1 := by
  rw [Int32.sub_eq_add_neg, Int32.sub_eq_add_neg, Int32.sub_eq_add_neg, Int32.add_assoc fa, Int32.add_comm fa, Int32.add_assoc, Int32.add_right_neg, Int32.add_zero]
theorem own_cmp0 {fa N : Int32} {n : Int64} (gl : (fa + N - 1).toInt = fa.toInt + N.toInt - 1) (hn : n.toInt = N.toInt) (h0 : 0 ≤ fa.toInt) (hN : 1 ≤ N.toInt) : XT.cmpL (fa + N - 1).toInt64 ((fa.toInt64 + n) - (1 : Int64)) = 0 := by
  have e : (fa + N - 1).toInt64 = (fa.toInt64 + n) - (1 : Int64) := by
    apply Int64.toInt_inj.mp
    have := Int32.toInt_lt N; have := Int32.toInt_lt fa
    have e1 : (1 : Int64).toInt = 1 := rfl
    have q : (fa.toInt64 + n).toInt = fa.toInt + N.toInt := by rw [Int64.toInt_add, own_i64, hn]; exact Int.bmod_eq_of_le (by omega) (by omega)
    rw [own_i64, gl, Int64.toInt_sub, q, e1, Int.bmod_eq_of_le (by omega) (by omega)]
  rw [e]; simp [XT.cmpL]

theorem own_rates1_ef (m : MethodId) (x0 : Int32) : entryFrame m #[(.int x0)] 1 = mkF m 0 #[.val (.int x0)] [] := by first | rfl | (simp [entryFrame, mkF, argsToLocals, Value.category, maxLocals]; done)
set_option maxRecDepth 65536 in
set_option maxHeartbeats 40000000 in
theorem own_rates1 {l : Launch} {Z : State} {a0 : Array Value} (hw : own_Z Z a0) {h : Heap} {os : List own_O} {as : List own_A} (H : own_H Z h os as) : own_Met false l Z (⟨"com/example/vestline/vestline/actuarial/MortalityTableLastAgePinLaw", "rates", "(I)[D"⟩ : MethodName) method_2_code 1 (some (.array .double)) [] ({ frames := 0, cells := 1, slots := 1, locals := 0 } : Room) #[(.int (1 : Int32))] h (fun v h' => ∃ b, v = some (.ref b) ∧ own_H Z h' os ((b, .double, "[D", [(.double (4602678819172646912 : UInt64))]) :: as)) := by
  refine own_met (by first | exact plainFor_of_name (by decide +kernel) | decide +kernel) ?_
  intro p e s m below meth c K
  refine own_cast (own_rates1_ef m _) ?_
  refine own_iloadN K own_d0_0 rfl ?_
  refine own_iconst K own_d0_1 (v := (1 : Int32)) rfl ?_
  refine own_icmpne K own_d0_2 (fun q => absurd q (by decide)) (fun _ => ?_)
  refine own_iconst K own_d0_5 (v := (1 : Int32)) rfl ?_
  refine own_newarray K own_d0_6 (ty := .double) rfl (own_w5 hw) H (q := 1) (by decide) (ad := "[D") (by decide +kernel) (vs := [(.double (0 : UInt64))]) rfl (by decide) (by decide) (by decide) ?_
  intro h1 a3 H2
  replace H2 : own_H Z h1 (os) ((a3, .double, "[D", [(.double (0 : UInt64))]) :: as) := H2
  refine own_dup K own_d0_8 rfl ?_
  refine own_iconst K own_d0_9 (v := (0 : Int32)) rfl ?_
  refine own_ldc2D K own_d0_10 (own_w6 hw) ?_
  refine own_dastore K own_d0_13 H2 (i := 0) rfl (q := 0) (by decide) (own_le rfl) ?_
  intro h4 H5
  replace H5 : own_H Z h4 (os) ((a3, .double, "[D", [(.double (4602678819172646912 : UInt64))]) :: as) := H5
  exact own_retA K rfl rfl own_d0_14 (by decide) (by decide) (⟨_, rfl, H5⟩)
theorem own_init1_ef (m : MethodId) (x0 : Addr) (x1 : Int32) (x2 : Addr) : entryFrame m #[(.ref x0), (.int x1), (.ref x2)] 6 = mkF m 0 #[.val (.ref x0), .val (.int x1), .val (.ref x2), .unset, .unset, .unset] [] := by first | rfl | (simp [entryFrame, mkF, argsToLocals, Value.category, maxLocals]; done)
set_option maxRecDepth 65536 in
set_option maxHeartbeats 40000000 in
theorem own_init1 {l : Launch} {Z : State} {a0 : Array Value} (hw : own_Z Z a0) {h : Heap} {os : List own_O} {as : List own_A} {a r : Addr} {fa : Int32} (h0 : 0 ≤ fa.toInt) (H : own_H Z h (own_MT a (.int (0 : Int32)) .null :: os) ((r, .double, "[D", [(.double (4602678819172646912 : UInt64))]) :: as)) : own_Met false l Z (⟨"com/example/vestline/vestline/actuarial/MortalityTable", "<init>", "(I[D)V"⟩ : MethodName) prog_2_method_1_code 6 none [] ({ frames := 1, cells := 1, slots := 1, locals := 20 } : Room) #[(.ref a), (.int fa), (.ref r)] h (fun v h' => v = none ∧ ∃ b, own_H Z h' (own_MT a (.int fa) (.ref b) :: os) ((b, .double, "[D", [(.double (4602678819172646912 : UInt64))]) :: (r, .double, "[D", [(.double (4602678819172646912 : UInt64))]) :: as)) := by
  refine own_met (by first | exact plainFor_of_name (by decide +kernel) | decide +kernel) ?_
  intro p e s m below meth c K
  refine own_cast (own_init1_ef m _ _ _) ?_
  refine own_aloadN K own_d1_0 rfl rfl ?_
  refine own_initO K own_d1_1 (own_w14 hw) (own_w15 hw) (own_w16 hw) rfl (by decide) (W := 0) (Nat.le_of_eq rfl) (by decide) ?_
  refine own_iloadN K own_d1_4 rfl ?_
  refine own_ifge K own_d1_5 (fun _ => ?_) (fun q => absurd (h0) q)
  refine own_aloadN K own_d1_22 rfl rfl ?_
  refine own_arraylength K own_d1_23 H (i := 0) rfl (N := (1 : Int32)) (rfl) ?_
  refine own_ifne K own_d1_24 (fun _ => ?_) (fun q => absurd (by decide) q)
  refine own_iconst K own_d1_37 (v := (0 : Int32)) rfl ?_
  refine own_istoreN K own_d1_38 (Ls' := #[.val (.ref a), .val (.int fa), .val (.ref r), .val (.int (0 : Int32)), .unset, .unset]) rfl ?_
  refine own_iloadN K own_d1_39 rfl ?_
  refine own_aloadN K own_d1_40 rfl rfl ?_
  refine own_arraylength K own_d1_41 H (i := 0) rfl (N := (1 : Int32)) (rfl) ?_
  refine own_icmpge K own_d1_42 (fun q => absurd q (by decide)) (fun _ => ?_)
  refine own_aloadN K own_d1_45 rfl rfl ?_
  refine own_iloadN K own_d1_46 rfl ?_
  refine own_daload K own_d1_47 H (i := 0) rfl (q := 0) (by decide) (rfl) ?_
  refine own_dstore K own_d1_48 (Ls' := #[.val (.ref a), .val (.int fa), .val (.ref r), .val (.int (0 : Int32)), .val (.double (4602678819172646912 : UInt64)), .second]) rfl ?_
  refine own_dload K own_d1_50 rfl ?_
  refine own_dconst0 K own_d1_52 (v := (0 : UInt64)) rfl ?_
  refine own_dcmp K own_d1_53 ?_
  refine own_topI (x' := (1 : Int32)) (by decide +kernel) ?_
  refine own_iflt K own_d1_54 (fun q => absurd q (by decide)) (fun _ => ?_)
  refine own_dload K own_d1_57 rfl ?_
  refine own_dconst1 K own_d1_59 (v := (4607182418800017408 : UInt64)) rfl ?_
  refine own_dcmp K own_d1_60 ?_
  refine own_topI (x' := (-1 : Int32)) (by decide +kernel) ?_
  refine own_ifle K own_d1_61 (fun _ => ?_) (fun q => absurd (by decide) q)
  refine own_iinc K own_d1_82 rfl (y := (1 : Int32)) (by decide) (Ls' := #[.val (.ref a), .val (.int fa), .val (.ref r), .val (.int (1 : Int32)), .val (.double (4602678819172646912 : UInt64)), .second]) rfl ?_
  refine own_goto K own_d1_85 ?_
  refine own_iloadN K own_d1_39 rfl ?_
  refine own_aloadN K own_d1_40 rfl rfl ?_
  refine own_arraylength K own_d1_41 H (i := 0) rfl (N := (1 : Int32)) (rfl) ?_
  refine own_icmpge K own_d1_42 (fun _ => ?_) (fun q => absurd (by decide) q)
  refine own_aloadN K own_d1_88 rfl rfl ?_
  refine own_iloadN K own_d1_89 rfl ?_
  refine own_putfield K own_d1_90 (host := "") (Or.inl (own_w17 hw)) Via.refl H (j := 0) rfl (q := 0) rfl (Or.inr ⟨(own_w18 hw), rfl, rfl⟩) (own_w9 hw) (ty := .int) (by decide +kernel) (rfl) rfl ?_
  intro h1 H2
  replace H2 : own_H Z h1 (own_MT a (.int fa) .null :: os) ((r, .double, "[D", [(.double (4602678819172646912 : UInt64))]) :: as) := H2
  refine own_aloadN K own_d1_93 rfl rfl ?_
  refine own_aloadN K own_d1_94 rfl rfl ?_
  refine own_clone K own_d1_95 (own_w19 hw) (own_w20 hw) (own_w24 hw) (own_w22 hw) (own_w23 hw) (own_w25 hw) H2 (j := 0) rfl (by decide) rfl (by decide) (W := 1) (Nat.le_of_eq rfl) (by decide) (by decide) (own_le rfl) ?_
  intro h3 a5 H4
  replace H4 : own_H Z h3 (own_MT a (.int fa) .null :: os) ((a5, .double, "[D", [(.double (4602678819172646912 : UInt64))]) :: (r, .double, "[D", [(.double (4602678819172646912 : UInt64))]) :: as) := H4
  refine own_checkcast K own_d1_98 (own_w26 hw) (Ins.self (H4.exaA (i := 0) rfl (by decide))) ?_
  refine own_putfield K own_d1_101 (host := "") (Or.inl (own_w28 hw)) Via.refl H4 (j := 0) rfl (q := 1) rfl (Or.inr ⟨(own_w29 hw), rfl, rfl⟩) (own_w9 hw) (ty := (.array .double)) (by decide +kernel) (rfl) rfl ?_
  intro h6 H7
  replace H7 : own_H Z h6 (own_MT a (.int fa) (.ref a5) :: os) ((a5, .double, "[D", [(.double (4602678819172646912 : UInt64))]) :: (r, .double, "[D", [(.double (4602678819172646912 : UInt64))]) :: as) := H7
  exact own_retV K own_d1_104 (by decide) (by decide) (⟨rfl, _, H7⟩)
theorem own_rates2_ef (m : MethodId) (x0 : Int32) : entryFrame m #[(.int x0)] 1 = mkF m 0 #[.val (.int x0)] [] := by first | rfl | (simp [entryFrame, mkF, argsToLocals, Value.category, maxLocals]; done)
set_option maxRecDepth 65536 in
set_option maxHeartbeats 40000000 in
theorem own_rates2 {l : Launch} {Z : State} {a0 : Array Value} (hw : own_Z Z a0) {h : Heap} {os : List own_O} {as : List own_A} (H : own_H Z h os as) : own_Met false l Z (⟨"com/example/vestline/vestline/actuarial/MortalityTableLastAgePinLaw", "rates", "(I)[D"⟩ : MethodName) method_2_code 1 (some (.array .double)) [] ({ frames := 0, cells := 1, slots := 2, locals := 0 } : Room) #[(.int (2 : Int32))] h (fun v h' => ∃ b, v = some (.ref b) ∧ own_H Z h' os ((b, .double, "[D", [(.double (0 : UInt64)), (.double (4607182418800017408 : UInt64))]) :: as)) := by
  refine own_met (by first | exact plainFor_of_name (by decide +kernel) | decide +kernel) ?_
  intro p e s m below meth c K
  refine own_cast (own_rates2_ef m _) ?_
  refine own_iloadN K own_d0_0 rfl ?_
  refine own_iconst K own_d0_1 (v := (1 : Int32)) rfl ?_
  refine own_icmpne K own_d0_2 (fun _ => ?_) (fun q => absurd (by decide) q)
  refine own_iloadN K own_d0_15 rfl ?_
  refine own_iconst K own_d0_16 (v := (2 : Int32)) rfl ?_
  refine own_icmpne K own_d0_17 (fun q => absurd q (by decide)) (fun _ => ?_)
  refine own_iconst K own_d0_20 (v := (2 : Int32)) rfl ?_
  refine own_newarray K own_d0_21 (ty := .double) rfl (own_w5 hw) H (q := 2) (by decide) (ad := "[D") (by decide +kernel) (vs := [(.double (0 : UInt64)), (.double (0 : UInt64))]) rfl (by decide) (by decide) (by decide) ?_
  intro h1 a3 H2
  replace H2 : own_H Z h1 (os) ((a3, .double, "[D", [(.double (0 : UInt64)), (.double (0 : UInt64))]) :: as) := H2
  refine own_dup K own_d0_23 rfl ?_
  refine own_iconst K own_d0_24 (v := (0 : Int32)) rfl ?_
  refine own_dconst0 K own_d0_25 (v := (0 : UInt64)) rfl ?_
  refine own_dastore K own_d0_26 H2 (i := 0) rfl (q := 0) (by decide) (own_le rfl) ?_
  intro h4 H5
  replace H5 : own_H Z h4 (os) ((a3, .double, "[D", [(.double (0 : UInt64)), (.double (0 : UInt64))]) :: as) := H5
  refine own_dup K own_d0_27 rfl ?_
  refine own_iconst K own_d0_28 (v := (1 : Int32)) rfl ?_
  refine own_dconst1 K own_d0_29 (v := (4607182418800017408 : UInt64)) rfl ?_
  refine own_dastore K own_d0_30 H5 (i := 0) rfl (q := 1) (by decide) (own_le rfl) ?_
  intro h6 H7
  replace H7 : own_H Z h6 (os) ((a3, .double, "[D", [(.double (0 : UInt64)), (.double (4607182418800017408 : UInt64))]) :: as) := H7
  exact own_retA K rfl rfl own_d0_31 (by decide) (by decide) (⟨_, rfl, H7⟩)
theorem own_init2_ef (m : MethodId) (x0 : Addr) (x1 : Int32) (x2 : Addr) : entryFrame m #[(.ref x0), (.int x1), (.ref x2)] 6 = mkF m 0 #[.val (.ref x0), .val (.int x1), .val (.ref x2), .unset, .unset, .unset] [] := by first | rfl | (simp [entryFrame, mkF, argsToLocals, Value.category, maxLocals]; done)
set_option maxRecDepth 65536 in
set_option maxHeartbeats 40000000 in
theorem own_init2 {l : Launch} {Z : State} {a0 : Array Value} (hw : own_Z Z a0) {h : Heap} {os : List own_O} {as : List own_A} {a r : Addr} {fa : Int32} (h0 : 0 ≤ fa.toInt) (H : own_H Z h (own_MT a (.int (0 : Int32)) .null :: os) ((r, .double, "[D", [(.double (0 : UInt64)), (.double (4607182418800017408 : UInt64))]) :: as)) : own_Met false l Z (⟨"com/example/vestline/vestline/actuarial/MortalityTable", "<init>", "(I[D)V"⟩ : MethodName) prog_2_method_1_code 6 none [] ({ frames := 1, cells := 1, slots := 2, locals := 20 } : Room) #[(.ref a), (.int fa), (.ref r)] h (fun v h' => v = none ∧ ∃ b, own_H Z h' (own_MT a (.int fa) (.ref b) :: os) ((b, .double, "[D", [(.double (0 : UInt64)), (.double (4607182418800017408 : UInt64))]) :: (r, .double, "[D", [(.double (0 : UInt64)), (.double (4607182418800017408 : UInt64))]) :: as)) := by
  refine own_met (by first | exact plainFor_of_name (by decide +kernel) | decide +kernel) ?_
  intro p e s m below meth c K
  refine own_cast (own_init2_ef m _ _ _) ?_
  refine own_aloadN K own_d1_0 rfl rfl ?_
  refine own_initO K own_d1_1 (own_w14 hw) (own_w15 hw) (own_w16 hw) rfl (by decide) (W := 0) (Nat.le_of_eq rfl) (by decide) ?_
  refine own_iloadN K own_d1_4 rfl ?_
  refine own_ifge K own_d1_5 (fun _ => ?_) (fun q => absurd (h0) q)
  refine own_aloadN K own_d1_22 rfl rfl ?_
  refine own_arraylength K own_d1_23 H (i := 0) rfl (N := (2 : Int32)) (rfl) ?_
  refine own_ifne K own_d1_24 (fun _ => ?_) (fun q => absurd (by decide) q)
  refine own_iconst K own_d1_37 (v := (0 : Int32)) rfl ?_
  refine own_istoreN K own_d1_38 (Ls' := #[.val (.ref a), .val (.int fa), .val (.ref r), .val (.int (0 : Int32)), .unset, .unset]) rfl ?_
  refine own_iloadN K own_d1_39 rfl ?_
  refine own_aloadN K own_d1_40 rfl rfl ?_
  refine own_arraylength K own_d1_41 H (i := 0) rfl (N := (2 : Int32)) (rfl) ?_
  refine own_icmpge K own_d1_42 (fun q => absurd q (by decide)) (fun _ => ?_)
  refine own_aloadN K own_d1_45 rfl rfl ?_
  refine own_iloadN K own_d1_46 rfl ?_
  refine own_daload K own_d1_47 H (i := 0) rfl (q := 0) (by decide) (rfl) ?_
  refine own_dstore K own_d1_48 (Ls' := #[.val (.ref a), .val (.int fa), .val (.ref r), .val (.int (0 : Int32)), .val (.double (0 : UInt64)), .second]) rfl ?_
  refine own_dload K own_d1_50 rfl ?_
  refine own_dconst0 K own_d1_52 (v := (0 : UInt64)) rfl ?_
  refine own_dcmp K own_d1_53 ?_
  refine own_topI (x' := (0 : Int32)) (by decide +kernel) ?_
  refine own_iflt K own_d1_54 (fun q => absurd q (by decide)) (fun _ => ?_)
  refine own_dload K own_d1_57 rfl ?_
  refine own_dconst1 K own_d1_59 (v := (4607182418800017408 : UInt64)) rfl ?_
  refine own_dcmp K own_d1_60 ?_
  refine own_topI (x' := (-1 : Int32)) (by decide +kernel) ?_
  refine own_ifle K own_d1_61 (fun _ => ?_) (fun q => absurd (by decide) q)
  refine own_iinc K own_d1_82 rfl (y := (1 : Int32)) (by decide) (Ls' := #[.val (.ref a), .val (.int fa), .val (.ref r), .val (.int (1 : Int32)), .val (.double (0 : UInt64)), .second]) rfl ?_
  refine own_goto K own_d1_85 ?_
  refine own_iloadN K own_d1_39 rfl ?_
  refine own_aloadN K own_d1_40 rfl rfl ?_
  refine own_arraylength K own_d1_41 H (i := 0) rfl (N := (2 : Int32)) (rfl) ?_
  refine own_icmpge K own_d1_42 (fun q => absurd q (by decide)) (fun _ => ?_)
  refine own_aloadN K own_d1_45 rfl rfl ?_
  refine own_iloadN K own_d1_46 rfl ?_
  refine own_daload K own_d1_47 H (i := 0) rfl (q := 1) (by decide) (rfl) ?_
  refine own_dstore K own_d1_48 (Ls' := #[.val (.ref a), .val (.int fa), .val (.ref r), .val (.int (1 : Int32)), .val (.double (4607182418800017408 : UInt64)), .second]) rfl ?_
  refine own_dload K own_d1_50 rfl ?_
  refine own_dconst0 K own_d1_52 (v := (0 : UInt64)) rfl ?_
  refine own_dcmp K own_d1_53 ?_
  refine own_topI (x' := (1 : Int32)) (by decide +kernel) ?_
  refine own_iflt K own_d1_54 (fun q => absurd q (by decide)) (fun _ => ?_)
  refine own_dload K own_d1_57 rfl ?_
  refine own_dconst1 K own_d1_59 (v := (4607182418800017408 : UInt64)) rfl ?_
  refine own_dcmp K own_d1_60 ?_
  refine own_topI (x' := (0 : Int32)) (by decide +kernel) ?_
  refine own_ifle K own_d1_61 (fun _ => ?_) (fun q => absurd (by decide) q)
  refine own_iinc K own_d1_82 rfl (y := (2 : Int32)) (by decide) (Ls' := #[.val (.ref a), .val (.int fa), .val (.ref r), .val (.int (2 : Int32)), .val (.double (4607182418800017408 : UInt64)), .second]) rfl ?_
  refine own_goto K own_d1_85 ?_
  refine own_iloadN K own_d1_39 rfl ?_
  refine own_aloadN K own_d1_40 rfl rfl ?_
  refine own_arraylength K own_d1_41 H (i := 0) rfl (N := (2 : Int32)) (rfl) ?_
  refine own_icmpge K own_d1_42 (fun _ => ?_) (fun q => absurd (by decide) q)
  refine own_aloadN K own_d1_88 rfl rfl ?_
  refine own_iloadN K own_d1_89 rfl ?_
  refine own_putfield K own_d1_90 (host := "") (Or.inl (own_w17 hw)) Via.refl H (j := 0) rfl (q := 0) rfl (Or.inr ⟨(own_w18 hw), rfl, rfl⟩) (own_w9 hw) (ty := .int) (by decide +kernel) (rfl) rfl ?_
  intro h1 H2
  replace H2 : own_H Z h1 (own_MT a (.int fa) .null :: os) ((r, .double, "[D", [(.double (0 : UInt64)), (.double (4607182418800017408 : UInt64))]) :: as) := H2
  refine own_aloadN K own_d1_93 rfl rfl ?_
  refine own_aloadN K own_d1_94 rfl rfl ?_
  refine own_clone K own_d1_95 (own_w19 hw) (own_w20 hw) (own_w24 hw) (own_w22 hw) (own_w23 hw) (own_w25 hw) H2 (j := 0) rfl (by decide) rfl (by decide) (W := 1) (Nat.le_of_eq rfl) (by decide) (by decide) (own_le rfl) ?_
  intro h3 a5 H4
  replace H4 : own_H Z h3 (own_MT a (.int fa) .null :: os) ((a5, .double, "[D", [(.double (0 : UInt64)), (.double (4607182418800017408 : UInt64))]) :: (r, .double, "[D", [(.double (0 : UInt64)), (.double (4607182418800017408 : UInt64))]) :: as) := H4
  refine own_checkcast K own_d1_98 (own_w26 hw) (Ins.self (H4.exaA (i := 0) rfl (by decide))) ?_
  refine own_putfield K own_d1_101 (host := "") (Or.inl (own_w28 hw)) Via.refl H4 (j := 0) rfl (q := 1) rfl (Or.inr ⟨(own_w29 hw), rfl, rfl⟩) (own_w9 hw) (ty := (.array .double)) (by decide +kernel) (rfl) rfl ?_
  intro h6 H7
  replace H7 : own_H Z h6 (own_MT a (.int fa) (.ref a5) :: os) ((a5, .double, "[D", [(.double (0 : UInt64)), (.double (4607182418800017408 : UInt64))]) :: (r, .double, "[D", [(.double (0 : UInt64)), (.double (4607182418800017408 : UInt64))]) :: as) := H7
  exact own_retV K own_d1_104 (by decide) (by decide) (⟨rfl, _, H7⟩)
theorem own_rates3_ef (m : MethodId) (x0 : Int32) : entryFrame m #[(.int x0)] 1 = mkF m 0 #[.val (.int x0)] [] := by first | rfl | (simp [entryFrame, mkF, argsToLocals, Value.category, maxLocals]; done)
set_option maxRecDepth 65536 in
set_option maxHeartbeats 40000000 in
theorem own_rates3 {l : Launch} {Z : State} {a0 : Array Value} (hw : own_Z Z a0) {h : Heap} {os : List own_O} {as : List own_A} (H : own_H Z h os as) : own_Met false l Z (⟨"com/example/vestline/vestline/actuarial/MortalityTableLastAgePinLaw", "rates", "(I)[D"⟩ : MethodName) method_2_code 1 (some (.array .double)) [] ({ frames := 0, cells := 1, slots := 3, locals := 0 } : Room) #[(.int (3 : Int32))] h (fun v h' => ∃ b, v = some (.ref b) ∧ own_H Z h' os ((b, .double, "[D", [(.double (4598175219545276416 : UInt64)), (.double (4602678819172646912 : UInt64)), (.double (4604930618986332160 : UInt64))]) :: as)) := by
  refine own_met (by first | exact plainFor_of_name (by decide +kernel) | decide +kernel) ?_
  intro p e s m below meth c K
  refine own_cast (own_rates3_ef m _) ?_
  refine own_iloadN K own_d0_0 rfl ?_
  refine own_iconst K own_d0_1 (v := (1 : Int32)) rfl ?_
  refine own_icmpne K own_d0_2 (fun _ => ?_) (fun q => absurd (by decide) q)
  refine own_iloadN K own_d0_15 rfl ?_
  refine own_iconst K own_d0_16 (v := (2 : Int32)) rfl ?_
  refine own_icmpne K own_d0_17 (fun _ => ?_) (fun q => absurd (by decide) q)
  refine own_iloadN K own_d0_32 rfl ?_
  refine own_iconst K own_d0_33 (v := (3 : Int32)) rfl ?_
  refine own_icmpne K own_d0_34 (fun q => absurd q (by decide)) (fun _ => ?_)
  refine own_iconst K own_d0_37 (v := (3 : Int32)) rfl ?_
  refine own_newarray K own_d0_38 (ty := .double) rfl (own_w5 hw) H (q := 3) (by decide) (ad := "[D") (by decide +kernel) (vs := [(.double (0 : UInt64)), (.double (0 : UInt64)), (.double (0 : UInt64))]) rfl (by decide) (by decide) (by decide) ?_
  intro h1 a3 H2
  replace H2 : own_H Z h1 (os) ((a3, .double, "[D", [(.double (0 : UInt64)), (.double (0 : UInt64)), (.double (0 : UInt64))]) :: as) := H2
  refine own_dup K own_d0_40 rfl ?_
  refine own_iconst K own_d0_41 (v := (0 : Int32)) rfl ?_
  refine own_ldc2D K own_d0_42 (own_w7 hw) ?_
  refine own_dastore K own_d0_45 H2 (i := 0) rfl (q := 0) (by decide) (own_le rfl) ?_
  intro h4 H5
  replace H5 : own_H Z h4 (os) ((a3, .double, "[D", [(.double (4598175219545276416 : UInt64)), (.double (0 : UInt64)), (.double (0 : UInt64))]) :: as) := H5
  refine own_dup K own_d0_46 rfl ?_
  refine own_iconst K own_d0_47 (v := (1 : Int32)) rfl ?_
  refine own_ldc2D K own_d0_48 (own_w6 hw) ?_
  refine own_dastore K own_d0_51 H5 (i := 0) rfl (q := 1) (by decide) (own_le rfl) ?_
  intro h6 H7
  replace H7 : own_H Z h6 (os) ((a3, .double, "[D", [(.double (4598175219545276416 : UInt64)), (.double (4602678819172646912 : UInt64)), (.double (0 : UInt64))]) :: as) := H7
  refine own_dup K own_d0_52 rfl ?_
  refine own_iconst K own_d0_53 (v := (2 : Int32)) rfl ?_
  refine own_ldc2D K own_d0_54 (own_w51 hw) ?_
  refine own_dastore K own_d0_57 H7 (i := 0) rfl (q := 2) (by decide) (own_le rfl) ?_
  intro h8 H9
  replace H9 : own_H Z h8 (os) ((a3, .double, "[D", [(.double (4598175219545276416 : UInt64)), (.double (4602678819172646912 : UInt64)), (.double (4604930618986332160 : UInt64))]) :: as) := H9
  exact own_retA K rfl rfl own_d0_58 (by decide) (by decide) (⟨_, rfl, H9⟩)
theorem own_init3_ef (m : MethodId) (x0 : Addr) (x1 : Int32) (x2 : Addr) : entryFrame m #[(.ref x0), (.int x1), (.ref x2)] 6 = mkF m 0 #[.val (.ref x0), .val (.int x1), .val (.ref x2), .unset, .unset, .unset] [] := by first | rfl | (simp [entryFrame, mkF, argsToLocals, Value.category, maxLocals]; done)
set_option maxRecDepth 65536 in
set_option maxHeartbeats 40000000 in
theorem own_init3 {l : Launch} {Z : State} {a0 : Array Value} (hw : own_Z Z a0) {h : Heap} {os : List own_O} {as : List own_A} {a r : Addr} {fa : Int32} (h0 : 0 ≤ fa.toInt) (H : own_H Z h (own_MT a (.int (0 : Int32)) .null :: os) ((r, .double, "[D", [(.double (4598175219545276416 : UInt64)), (.double (4602678819172646912 : UInt64)), (.double (4604930618986332160 : UInt64))]) :: as)) : own_Met false l Z (⟨"com/example/vestline/vestline/actuarial/MortalityTable", "<init>", "(I[D)V"⟩ : MethodName) prog_2_method_1_code 6 none [] ({ frames := 1, cells := 1, slots := 3, locals := 20 } : Room) #[(.ref a), (.int fa), (.ref r)] h (fun v h' => v = none ∧ ∃ b, own_H Z h' (own_MT a (.int fa) (.ref b) :: os) ((b, .double, "[D", [(.double (4598175219545276416 : UInt64)), (.double (4602678819172646912 : UInt64)), (.double (4604930618986332160 : UInt64))]) :: (r, .double, "[D", [(.double (4598175219545276416 : UInt64)), (.double (4602678819172646912 : UInt64)), (.double (4604930618986332160 : UInt64))]) :: as)) := by
  refine own_met (by first | exact plainFor_of_name (by decide +kernel) | decide +kernel) ?_
  intro p e s m below meth c K
  refine own_cast (own_init3_ef m _ _ _) ?_
  refine own_aloadN K own_d1_0 rfl rfl ?_
  refine own_initO K own_d1_1 (own_w14 hw) (own_w15 hw) (own_w16 hw) rfl (by decide) (W := 0) (Nat.le_of_eq rfl) (by decide) ?_
  refine own_iloadN K own_d1_4 rfl ?_
  refine own_ifge K own_d1_5 (fun _ => ?_) (fun q => absurd (h0) q)
  refine own_aloadN K own_d1_22 rfl rfl ?_
  refine own_arraylength K own_d1_23 H (i := 0) rfl (N := (3 : Int32)) (rfl) ?_
  refine own_ifne K own_d1_24 (fun _ => ?_) (fun q => absurd (by decide) q)
  refine own_iconst K own_d1_37 (v := (0 : Int32)) rfl ?_
  refine own_istoreN K own_d1_38 (Ls' := #[.val (.ref a), .val (.int fa), .val (.ref r), .val (.int (0 : Int32)), .unset, .unset]) rfl ?_
  refine own_iloadN K own_d1_39 rfl ?_
  refine own_aloadN K own_d1_40 rfl rfl ?_
  refine own_arraylength K own_d1_41 H (i := 0) rfl (N := (3 : Int32)) (rfl) ?_
  refine own_icmpge K own_d1_42 (fun q => absurd q (by decide)) (fun _ => ?_)
  refine own_aloadN K own_d1_45 rfl rfl ?_
  refine own_iloadN K own_d1_46 rfl ?_
  refine own_daload K own_d1_47 H (i := 0) rfl (q := 0) (by decide) (rfl) ?_
  refine own_dstore K own_d1_48 (Ls' := #[.val (.ref a), .val (.int fa), .val (.ref r), .val (.int (0 : Int32)), .val (.double (4598175219545276416 : UInt64)), .second]) rfl ?_
  refine own_dload K own_d1_50 rfl ?_
  refine own_dconst0 K own_d1_52 (v := (0 : UInt64)) rfl ?_
  refine own_dcmp K own_d1_53 ?_
  refine own_topI (x' := (1 : Int32)) (by decide +kernel) ?_
  refine own_iflt K own_d1_54 (fun q => absurd q (by decide)) (fun _ => ?_)
  refine own_dload K own_d1_57 rfl ?_
  refine own_dconst1 K own_d1_59 (v := (4607182418800017408 : UInt64)) rfl ?_
  refine own_dcmp K own_d1_60 ?_
  refine own_topI (x' := (-1 : Int32)) (by decide +kernel) ?_
  refine own_ifle K own_d1_61 (fun _ => ?_) (fun q => absurd (by decide) q)
  refine own_iinc K own_d1_82 rfl (y := (1 : Int32)) (by decide) (Ls' := #[.val (.ref a), .val (.int fa), .val (.ref r), .val (.int (1 : Int32)), .val (.double (4598175219545276416 : UInt64)), .second]) rfl ?_
  refine own_goto K own_d1_85 ?_
  refine own_iloadN K own_d1_39 rfl ?_
  refine own_aloadN K own_d1_40 rfl rfl ?_
  refine own_arraylength K own_d1_41 H (i := 0) rfl (N := (3 : Int32)) (rfl) ?_
  refine own_icmpge K own_d1_42 (fun q => absurd q (by decide)) (fun _ => ?_)
  refine own_aloadN K own_d1_45 rfl rfl ?_
  refine own_iloadN K own_d1_46 rfl ?_
  refine own_daload K own_d1_47 H (i := 0) rfl (q := 1) (by decide) (rfl) ?_
  refine own_dstore K own_d1_48 (Ls' := #[.val (.ref a), .val (.int fa), .val (.ref r), .val (.int (1 : Int32)), .val (.double (4602678819172646912 : UInt64)), .second]) rfl ?_
  refine own_dload K own_d1_50 rfl ?_
  refine own_dconst0 K own_d1_52 (v := (0 : UInt64)) rfl ?_
  refine own_dcmp K own_d1_53 ?_
  refine own_topI (x' := (1 : Int32)) (by decide +kernel) ?_
  refine own_iflt K own_d1_54 (fun q => absurd q (by decide)) (fun _ => ?_)
  refine own_dload K own_d1_57 rfl ?_
  refine own_dconst1 K own_d1_59 (v := (4607182418800017408 : UInt64)) rfl ?_
  refine own_dcmp K own_d1_60 ?_
  refine own_topI (x' := (-1 : Int32)) (by decide +kernel) ?_
  refine own_ifle K own_d1_61 (fun _ => ?_) (fun q => absurd (by decide) q)
  refine own_iinc K own_d1_82 rfl (y := (2 : Int32)) (by decide) (Ls' := #[.val (.ref a), .val (.int fa), .val (.ref r), .val (.int (2 : Int32)), .val (.double (4602678819172646912 : UInt64)), .second]) rfl ?_
  refine own_goto K own_d1_85 ?_
  refine own_iloadN K own_d1_39 rfl ?_
  refine own_aloadN K own_d1_40 rfl rfl ?_
  refine own_arraylength K own_d1_41 H (i := 0) rfl (N := (3 : Int32)) (rfl) ?_
  refine own_icmpge K own_d1_42 (fun q => absurd q (by decide)) (fun _ => ?_)
  refine own_aloadN K own_d1_45 rfl rfl ?_
  refine own_iloadN K own_d1_46 rfl ?_
  refine own_daload K own_d1_47 H (i := 0) rfl (q := 2) (by decide) (rfl) ?_
  refine own_dstore K own_d1_48 (Ls' := #[.val (.ref a), .val (.int fa), .val (.ref r), .val (.int (2 : Int32)), .val (.double (4604930618986332160 : UInt64)), .second]) rfl ?_
  refine own_dload K own_d1_50 rfl ?_
  refine own_dconst0 K own_d1_52 (v := (0 : UInt64)) rfl ?_
  refine own_dcmp K own_d1_53 ?_
  refine own_topI (x' := (1 : Int32)) (by decide +kernel) ?_
  refine own_iflt K own_d1_54 (fun q => absurd q (by decide)) (fun _ => ?_)
  refine own_dload K own_d1_57 rfl ?_
  refine own_dconst1 K own_d1_59 (v := (4607182418800017408 : UInt64)) rfl ?_
  refine own_dcmp K own_d1_60 ?_
  refine own_topI (x' := (-1 : Int32)) (by decide +kernel) ?_
  refine own_ifle K own_d1_61 (fun _ => ?_) (fun q => absurd (by decide) q)
  refine own_iinc K own_d1_82 rfl (y := (3 : Int32)) (by decide) (Ls' := #[.val (.ref a), .val (.int fa), .val (.ref r), .val (.int (3 : Int32)), .val (.double (4604930618986332160 : UInt64)), .second]) rfl ?_
  refine own_goto K own_d1_85 ?_
  refine own_iloadN K own_d1_39 rfl ?_
  refine own_aloadN K own_d1_40 rfl rfl ?_
  refine own_arraylength K own_d1_41 H (i := 0) rfl (N := (3 : Int32)) (rfl) ?_
  refine own_icmpge K own_d1_42 (fun _ => ?_) (fun q => absurd (by decide) q)
  refine own_aloadN K own_d1_88 rfl rfl ?_
  refine own_iloadN K own_d1_89 rfl ?_
  refine own_putfield K own_d1_90 (host := "") (Or.inl (own_w17 hw)) Via.refl H (j := 0) rfl (q := 0) rfl (Or.inr ⟨(own_w18 hw), rfl, rfl⟩) (own_w9 hw) (ty := .int) (by decide +kernel) (rfl) rfl ?_
  intro h1 H2
  replace H2 : own_H Z h1 (own_MT a (.int fa) .null :: os) ((r, .double, "[D", [(.double (4598175219545276416 : UInt64)), (.double (4602678819172646912 : UInt64)), (.double (4604930618986332160 : UInt64))]) :: as) := H2
  refine own_aloadN K own_d1_93 rfl rfl ?_
  refine own_aloadN K own_d1_94 rfl rfl ?_
  refine own_clone K own_d1_95 (own_w19 hw) (own_w20 hw) (own_w24 hw) (own_w22 hw) (own_w23 hw) (own_w25 hw) H2 (j := 0) rfl (by decide) rfl (by decide) (W := 1) (Nat.le_of_eq rfl) (by decide) (by decide) (own_le rfl) ?_
  intro h3 a5 H4
  replace H4 : own_H Z h3 (own_MT a (.int fa) .null :: os) ((a5, .double, "[D", [(.double (4598175219545276416 : UInt64)), (.double (4602678819172646912 : UInt64)), (.double (4604930618986332160 : UInt64))]) :: (r, .double, "[D", [(.double (4598175219545276416 : UInt64)), (.double (4602678819172646912 : UInt64)), (.double (4604930618986332160 : UInt64))]) :: as) := H4
  refine own_checkcast K own_d1_98 (own_w26 hw) (Ins.self (H4.exaA (i := 0) rfl (by decide))) ?_
  refine own_putfield K own_d1_101 (host := "") (Or.inl (own_w28 hw)) Via.refl H4 (j := 0) rfl (q := 1) rfl (Or.inr ⟨(own_w29 hw), rfl, rfl⟩) (own_w9 hw) (ty := (.array .double)) (by decide +kernel) (rfl) rfl ?_
  intro h6 H7
  replace H7 : own_H Z h6 (own_MT a (.int fa) (.ref a5) :: os) ((a5, .double, "[D", [(.double (4598175219545276416 : UInt64)), (.double (4602678819172646912 : UInt64)), (.double (4604930618986332160 : UInt64))]) :: (r, .double, "[D", [(.double (4598175219545276416 : UInt64)), (.double (4602678819172646912 : UInt64)), (.double (4604930618986332160 : UInt64))]) :: as) := H7
  exact own_retV K own_d1_104 (by decide) (by decide) (⟨rfl, _, H7⟩)
theorem own_rates4_ef (m : MethodId) (x0 : Int32) : entryFrame m #[(.int x0)] 1 = mkF m 0 #[.val (.int x0)] [] := by first | rfl | (simp [entryFrame, mkF, argsToLocals, Value.category, maxLocals]; done)
set_option maxRecDepth 65536 in
set_option maxHeartbeats 40000000 in
theorem own_rates4 {l : Launch} {Z : State} {a0 : Array Value} (hw : own_Z Z a0) {h : Heap} {os : List own_O} {as : List own_A} (H : own_H Z h os as) : own_Met false l Z (⟨"com/example/vestline/vestline/actuarial/MortalityTableLastAgePinLaw", "rates", "(I)[D"⟩ : MethodName) method_2_code 1 (some (.array .double)) [] ({ frames := 0, cells := 1, slots := 4, locals := 0 } : Room) #[(.int (4 : Int32))] h (fun v h' => ∃ b, v = some (.ref b) ∧ own_H Z h' os ((b, .double, "[D", [(.double (4607182418800017408 : UInt64)), (.double (0 : UInt64)), (.double (4602678819172646912 : UInt64)), (.double (4598175219545276416 : UInt64))]) :: as)) := by
  refine own_met (by first | exact plainFor_of_name (by decide +kernel) | decide +kernel) ?_
  intro p e s m below meth c K
  refine own_cast (own_rates4_ef m _) ?_
  refine own_iloadN K own_d0_0 rfl ?_
  refine own_iconst K own_d0_1 (v := (1 : Int32)) rfl ?_
  refine own_icmpne K own_d0_2 (fun _ => ?_) (fun q => absurd (by decide) q)
  refine own_iloadN K own_d0_15 rfl ?_
  refine own_iconst K own_d0_16 (v := (2 : Int32)) rfl ?_
  refine own_icmpne K own_d0_17 (fun _ => ?_) (fun q => absurd (by decide) q)
  refine own_iloadN K own_d0_32 rfl ?_
  refine own_iconst K own_d0_33 (v := (3 : Int32)) rfl ?_
  refine own_icmpne K own_d0_34 (fun _ => ?_) (fun q => absurd (by decide) q)
  refine own_iconst K own_d0_59 (v := (4 : Int32)) rfl ?_
  refine own_newarray K own_d0_60 (ty := .double) rfl (own_w5 hw) H (q := 4) (by decide) (ad := "[D") (by decide +kernel) (vs := [(.double (0 : UInt64)), (.double (0 : UInt64)), (.double (0 : UInt64)), (.double (0 : UInt64))]) rfl (by decide) (by decide) (by decide) ?_
  intro h1 a3 H2
  replace H2 : own_H Z h1 (os) ((a3, .double, "[D", [(.double (0 : UInt64)), (.double (0 : UInt64)), (.double (0 : UInt64)), (.double (0 : UInt64))]) :: as) := H2
  refine own_dup K own_d0_62 rfl ?_
  refine own_iconst K own_d0_63 (v := (0 : Int32)) rfl ?_
  refine own_dconst1 K own_d0_64 (v := (4607182418800017408 : UInt64)) rfl ?_
  refine own_dastore K own_d0_65 H2 (i := 0) rfl (q := 0) (by decide) (own_le rfl) ?_
  intro h4 H5
  replace H5 : own_H Z h4 (os) ((a3, .double, "[D", [(.double (4607182418800017408 : UInt64)), (.double (0 : UInt64)), (.double (0 : UInt64)), (.double (0 : UInt64))]) :: as) := H5
  refine own_dup K own_d0_66 rfl ?_
  refine own_iconst K own_d0_67 (v := (1 : Int32)) rfl ?_
  refine own_dconst0 K own_d0_68 (v := (0 : UInt64)) rfl ?_
  refine own_dastore K own_d0_69 H5 (i := 0) rfl (q := 1) (by decide) (own_le rfl) ?_
  intro h6 H7
  replace H7 : own_H Z h6 (os) ((a3, .double, "[D", [(.double (4607182418800017408 : UInt64)), (.double (0 : UInt64)), (.double (0 : UInt64)), (.double (0 : UInt64))]) :: as) := H7
  refine own_dup K own_d0_70 rfl ?_
  refine own_iconst K own_d0_71 (v := (2 : Int32)) rfl ?_
  refine own_ldc2D K own_d0_72 (own_w6 hw) ?_
  refine own_dastore K own_d0_75 H7 (i := 0) rfl (q := 2) (by decide) (own_le rfl) ?_
  intro h8 H9
  replace H9 : own_H Z h8 (os) ((a3, .double, "[D", [(.double (4607182418800017408 : UInt64)), (.double (0 : UInt64)), (.double (4602678819172646912 : UInt64)), (.double (0 : UInt64))]) :: as) := H9
  refine own_dup K own_d0_76 rfl ?_
  refine own_iconst K own_d0_77 (v := (3 : Int32)) rfl ?_
  refine own_ldc2D K own_d0_78 (own_w7 hw) ?_
  refine own_dastore K own_d0_81 H9 (i := 0) rfl (q := 3) (by decide) (own_le rfl) ?_
  intro h10 H11
  replace H11 : own_H Z h10 (os) ((a3, .double, "[D", [(.double (4607182418800017408 : UInt64)), (.double (0 : UInt64)), (.double (4602678819172646912 : UInt64)), (.double (4598175219545276416 : UInt64))]) :: as) := H11
  exact own_retA K rfl rfl own_d0_82 (by decide) (by decide) (⟨_, rfl, H11⟩)
theorem own_init4_ef (m : MethodId) (x0 : Addr) (x1 : Int32) (x2 : Addr) : entryFrame m #[(.ref x0), (.int x1), (.ref x2)] 6 = mkF m 0 #[.val (.ref x0), .val (.int x1), .val (.ref x2), .unset, .unset, .unset] [] := by first | rfl | (simp [entryFrame, mkF, argsToLocals, Value.category, maxLocals]; done)
set_option maxRecDepth 65536 in
set_option maxHeartbeats 40000000 in
theorem own_init4 {l : Launch} {Z : State} {a0 : Array Value} (hw : own_Z Z a0) {h : Heap} {os : List own_O} {as : List own_A} {a r : Addr} {fa : Int32} (h0 : 0 ≤ fa.toInt) (H : own_H Z h (own_MT a (.int (0 : Int32)) .null :: os) ((r, .double, "[D", [(.double (4607182418800017408 : UInt64)), (.double (0 : UInt64)), (.double (4602678819172646912 : UInt64)), (.double (4598175219545276416 : UInt64))]) :: as)) : own_Met false l Z (⟨"com/example/vestline/vestline/actuarial/MortalityTable", "<init>", "(I[D)V"⟩ : MethodName) prog_2_method_1_code 6 none [] ({ frames := 1, cells := 1, slots := 4, locals := 20 } : Room) #[(.ref a), (.int fa), (.ref r)] h (fun v h' => v = none ∧ ∃ b, own_H Z h' (own_MT a (.int fa) (.ref b) :: os) ((b, .double, "[D", [(.double (4607182418800017408 : UInt64)), (.double (0 : UInt64)), (.double (4602678819172646912 : UInt64)), (.double (4598175219545276416 : UInt64))]) :: (r, .double, "[D", [(.double (4607182418800017408 : UInt64)), (.double (0 : UInt64)), (.double (4602678819172646912 : UInt64)), (.double (4598175219545276416 : UInt64))]) :: as)) := by
  refine own_met (by first | exact plainFor_of_name (by decide +kernel) | decide +kernel) ?_
  intro p e s m below meth c K
  refine own_cast (own_init4_ef m _ _ _) ?_
  refine own_aloadN K own_d1_0 rfl rfl ?_
  refine own_initO K own_d1_1 (own_w14 hw) (own_w15 hw) (own_w16 hw) rfl (by decide) (W := 0) (Nat.le_of_eq rfl) (by decide) ?_
  refine own_iloadN K own_d1_4 rfl ?_
  refine own_ifge K own_d1_5 (fun _ => ?_) (fun q => absurd (h0) q)
  refine own_aloadN K own_d1_22 rfl rfl ?_
  refine own_arraylength K own_d1_23 H (i := 0) rfl (N := (4 : Int32)) (rfl) ?_
  refine own_ifne K own_d1_24 (fun _ => ?_) (fun q => absurd (by decide) q)
  refine own_iconst K own_d1_37 (v := (0 : Int32)) rfl ?_
  refine own_istoreN K own_d1_38 (Ls' := #[.val (.ref a), .val (.int fa), .val (.ref r), .val (.int (0 : Int32)), .unset, .unset]) rfl ?_
  refine own_iloadN K own_d1_39 rfl ?_
  refine own_aloadN K own_d1_40 rfl rfl ?_
  refine own_arraylength K own_d1_41 H (i := 0) rfl (N := (4 : Int32)) (rfl) ?_
  refine own_icmpge K own_d1_42 (fun q => absurd q (by decide)) (fun _ => ?_)
  refine own_aloadN K own_d1_45 rfl rfl ?_
  refine own_iloadN K own_d1_46 rfl ?_
  refine own_daload K own_d1_47 H (i := 0) rfl (q := 0) (by decide) (rfl) ?_
  refine own_dstore K own_d1_48 (Ls' := #[.val (.ref a), .val (.int fa), .val (.ref r), .val (.int (0 : Int32)), .val (.double (4607182418800017408 : UInt64)), .second]) rfl ?_
  refine own_dload K own_d1_50 rfl ?_
  refine own_dconst0 K own_d1_52 (v := (0 : UInt64)) rfl ?_
  refine own_dcmp K own_d1_53 ?_
  refine own_topI (x' := (1 : Int32)) (by decide +kernel) ?_
  refine own_iflt K own_d1_54 (fun q => absurd q (by decide)) (fun _ => ?_)
  refine own_dload K own_d1_57 rfl ?_
  refine own_dconst1 K own_d1_59 (v := (4607182418800017408 : UInt64)) rfl ?_
  refine own_dcmp K own_d1_60 ?_
  refine own_topI (x' := (0 : Int32)) (by decide +kernel) ?_
  refine own_ifle K own_d1_61 (fun _ => ?_) (fun q => absurd (by decide) q)
  refine own_iinc K own_d1_82 rfl (y := (1 : Int32)) (by decide) (Ls' := #[.val (.ref a), .val (.int fa), .val (.ref r), .val (.int (1 : Int32)), .val (.double (4607182418800017408 : UInt64)), .second]) rfl ?_
  refine own_goto K own_d1_85 ?_
  refine own_iloadN K own_d1_39 rfl ?_
  refine own_aloadN K own_d1_40 rfl rfl ?_
  refine own_arraylength K own_d1_41 H (i := 0) rfl (N := (4 : Int32)) (rfl) ?_
  refine own_icmpge K own_d1_42 (fun q => absurd q (by decide)) (fun _ => ?_)
  refine own_aloadN K own_d1_45 rfl rfl ?_
  refine own_iloadN K own_d1_46 rfl ?_
  refine own_daload K own_d1_47 H (i := 0) rfl (q := 1) (by decide) (rfl) ?_
  refine own_dstore K own_d1_48 (Ls' := #[.val (.ref a), .val (.int fa), .val (.ref r), .val (.int (1 : Int32)), .val (.double (0 : UInt64)), .second]) rfl ?_
  refine own_dload K own_d1_50 rfl ?_
  refine own_dconst0 K own_d1_52 (v := (0 : UInt64)) rfl ?_
  refine own_dcmp K own_d1_53 ?_
  refine own_topI (x' := (0 : Int32)) (by decide +kernel) ?_
  refine own_iflt K own_d1_54 (fun q => absurd q (by decide)) (fun _ => ?_)
  refine own_dload K own_d1_57 rfl ?_
  refine own_dconst1 K own_d1_59 (v := (4607182418800017408 : UInt64)) rfl ?_
  refine own_dcmp K own_d1_60 ?_
  refine own_topI (x' := (-1 : Int32)) (by decide +kernel) ?_
  refine own_ifle K own_d1_61 (fun _ => ?_) (fun q => absurd (by decide) q)
  refine own_iinc K own_d1_82 rfl (y := (2 : Int32)) (by decide) (Ls' := #[.val (.ref a), .val (.int fa), .val (.ref r), .val (.int (2 : Int32)), .val (.double (0 : UInt64)), .second]) rfl ?_
  refine own_goto K own_d1_85 ?_
  refine own_iloadN K own_d1_39 rfl ?_
  refine own_aloadN K own_d1_40 rfl rfl ?_
  refine own_arraylength K own_d1_41 H (i := 0) rfl (N := (4 : Int32)) (rfl) ?_
  refine own_icmpge K own_d1_42 (fun q => absurd q (by decide)) (fun _ => ?_)
  refine own_aloadN K own_d1_45 rfl rfl ?_
  refine own_iloadN K own_d1_46 rfl ?_
  refine own_daload K own_d1_47 H (i := 0) rfl (q := 2) (by decide) (rfl) ?_
  refine own_dstore K own_d1_48 (Ls' := #[.val (.ref a), .val (.int fa), .val (.ref r), .val (.int (2 : Int32)), .val (.double (4602678819172646912 : UInt64)), .second]) rfl ?_
  refine own_dload K own_d1_50 rfl ?_
  refine own_dconst0 K own_d1_52 (v := (0 : UInt64)) rfl ?_
  refine own_dcmp K own_d1_53 ?_
  refine own_topI (x' := (1 : Int32)) (by decide +kernel) ?_
  refine own_iflt K own_d1_54 (fun q => absurd q (by decide)) (fun _ => ?_)
  refine own_dload K own_d1_57 rfl ?_
  refine own_dconst1 K own_d1_59 (v := (4607182418800017408 : UInt64)) rfl ?_
  refine own_dcmp K own_d1_60 ?_
  refine own_topI (x' := (-1 : Int32)) (by decide +kernel) ?_
  refine own_ifle K own_d1_61 (fun _ => ?_) (fun q => absurd (by decide) q)
  refine own_iinc K own_d1_82 rfl (y := (3 : Int32)) (by decide) (Ls' := #[.val (.ref a), .val (.int fa), .val (.ref r), .val (.int (3 : Int32)), .val (.double (4602678819172646912 : UInt64)), .second]) rfl ?_
  refine own_goto K own_d1_85 ?_
  refine own_iloadN K own_d1_39 rfl ?_
  refine own_aloadN K own_d1_40 rfl rfl ?_
  refine own_arraylength K own_d1_41 H (i := 0) rfl (N := (4 : Int32)) (rfl) ?_
  refine own_icmpge K own_d1_42 (fun q => absurd q (by decide)) (fun _ => ?_)
  refine own_aloadN K own_d1_45 rfl rfl ?_
  refine own_iloadN K own_d1_46 rfl ?_
  refine own_daload K own_d1_47 H (i := 0) rfl (q := 3) (by decide) (rfl) ?_
  refine own_dstore K own_d1_48 (Ls' := #[.val (.ref a), .val (.int fa), .val (.ref r), .val (.int (3 : Int32)), .val (.double (4598175219545276416 : UInt64)), .second]) rfl ?_
  refine own_dload K own_d1_50 rfl ?_
  refine own_dconst0 K own_d1_52 (v := (0 : UInt64)) rfl ?_
  refine own_dcmp K own_d1_53 ?_
  refine own_topI (x' := (1 : Int32)) (by decide +kernel) ?_
  refine own_iflt K own_d1_54 (fun q => absurd q (by decide)) (fun _ => ?_)
  refine own_dload K own_d1_57 rfl ?_
  refine own_dconst1 K own_d1_59 (v := (4607182418800017408 : UInt64)) rfl ?_
  refine own_dcmp K own_d1_60 ?_
  refine own_topI (x' := (-1 : Int32)) (by decide +kernel) ?_
  refine own_ifle K own_d1_61 (fun _ => ?_) (fun q => absurd (by decide) q)
  refine own_iinc K own_d1_82 rfl (y := (4 : Int32)) (by decide) (Ls' := #[.val (.ref a), .val (.int fa), .val (.ref r), .val (.int (4 : Int32)), .val (.double (4598175219545276416 : UInt64)), .second]) rfl ?_
  refine own_goto K own_d1_85 ?_
  refine own_iloadN K own_d1_39 rfl ?_
  refine own_aloadN K own_d1_40 rfl rfl ?_
  refine own_arraylength K own_d1_41 H (i := 0) rfl (N := (4 : Int32)) (rfl) ?_
  refine own_icmpge K own_d1_42 (fun _ => ?_) (fun q => absurd (by decide) q)
  refine own_aloadN K own_d1_88 rfl rfl ?_
  refine own_iloadN K own_d1_89 rfl ?_
  refine own_putfield K own_d1_90 (host := "") (Or.inl (own_w17 hw)) Via.refl H (j := 0) rfl (q := 0) rfl (Or.inr ⟨(own_w18 hw), rfl, rfl⟩) (own_w9 hw) (ty := .int) (by decide +kernel) (rfl) rfl ?_
  intro h1 H2
  replace H2 : own_H Z h1 (own_MT a (.int fa) .null :: os) ((r, .double, "[D", [(.double (4607182418800017408 : UInt64)), (.double (0 : UInt64)), (.double (4602678819172646912 : UInt64)), (.double (4598175219545276416 : UInt64))]) :: as) := H2
  refine own_aloadN K own_d1_93 rfl rfl ?_
  refine own_aloadN K own_d1_94 rfl rfl ?_
  refine own_clone K own_d1_95 (own_w19 hw) (own_w20 hw) (own_w24 hw) (own_w22 hw) (own_w23 hw) (own_w25 hw) H2 (j := 0) rfl (by decide) rfl (by decide) (W := 1) (Nat.le_of_eq rfl) (by decide) (by decide) (own_le rfl) ?_
  intro h3 a5 H4
  replace H4 : own_H Z h3 (own_MT a (.int fa) .null :: os) ((a5, .double, "[D", [(.double (4607182418800017408 : UInt64)), (.double (0 : UInt64)), (.double (4602678819172646912 : UInt64)), (.double (4598175219545276416 : UInt64))]) :: (r, .double, "[D", [(.double (4607182418800017408 : UInt64)), (.double (0 : UInt64)), (.double (4602678819172646912 : UInt64)), (.double (4598175219545276416 : UInt64))]) :: as) := H4
  refine own_checkcast K own_d1_98 (own_w26 hw) (Ins.self (H4.exaA (i := 0) rfl (by decide))) ?_
  refine own_putfield K own_d1_101 (host := "") (Or.inl (own_w28 hw)) Via.refl H4 (j := 0) rfl (q := 1) rfl (Or.inr ⟨(own_w29 hw), rfl, rfl⟩) (own_w9 hw) (ty := (.array .double)) (by decide +kernel) (rfl) rfl ?_
  intro h6 H7
  replace H7 : own_H Z h6 (own_MT a (.int fa) (.ref a5) :: os) ((a5, .double, "[D", [(.double (4607182418800017408 : UInt64)), (.double (0 : UInt64)), (.double (4602678819172646912 : UInt64)), (.double (4598175219545276416 : UInt64))]) :: (r, .double, "[D", [(.double (4607182418800017408 : UInt64)), (.double (0 : UInt64)), (.double (4602678819172646912 : UInt64)), (.double (4598175219545276416 : UInt64))]) :: as) := H7
  exact own_retV K own_d1_104 (by decide) (by decide) (⟨rfl, _, H7⟩)
theorem own_last_m_ef (m : MethodId) (x0 : Addr) : entryFrame m #[(.ref x0)] 1 = mkF m 0 #[.val (.ref x0)] [] := by first | rfl | (simp [entryFrame, mkF, argsToLocals, Value.category, maxLocals]; done)
set_option maxRecDepth 65536 in
set_option maxHeartbeats 40000000 in
theorem own_last_m {l : Launch} {Z : State} {a0 : Array Value} (hw : own_Z Z a0) {h : Heap} {os : List own_O} {as : List own_A} {a b : Addr} {fa N : Int32} {vs : List Value} (H : own_H Z h (own_MT a (.int fa) (.ref b) :: os) ((b, .double, "[D", vs) :: as)) (hN : N.toInt = (vs.length : Int)) : own_Met false l Z (⟨"com/example/vestline/vestline/actuarial/MortalityTable", "lastAge", "()I"⟩ : MethodName) prog_2_method_4_code 1 (some .int) [] ({ frames := 0, cells := 0, slots := 0, locals := 0 } : Room) #[(.ref a)] h (fun v h' => v = some (.int (fa + N - 1)) ∧ h = h') := by
  refine own_met (by first | exact plainFor_of_name (by decide +kernel) | decide +kernel) ?_
  intro p e s m below meth c K
  refine own_cast (own_last_m_ef m _) ?_
  refine own_aloadN K own_d2_0 rfl rfl ?_
  refine own_getfield K own_d2_1 (host := "") (Or.inl (own_w17 hw)) Via.refl H (j := 0) rfl (q := 0) rfl ?_
  refine own_aloadN K own_d2_4 rfl rfl ?_
  refine own_getfield K own_d2_5 (host := "") (Or.inl (own_w28 hw)) Via.refl H (j := 0) rfl (q := 1) rfl ?_
  refine own_arraylength K own_d2_8 H (i := 0) rfl (N := N) (hN) ?_
  refine own_iadd K own_d2_9 ?_
  refine own_iconst K own_d2_10 (v := (1 : Int32)) rfl ?_
  refine own_isub K own_d2_11 ?_
  exact own_retI K own_d2_12 (by decide) (by decide) (⟨rfl, rfl⟩)
theorem own_first_m_ef (m : MethodId) (x0 : Addr) : entryFrame m #[(.ref x0)] 1 = mkF m 0 #[.val (.ref x0)] [] := by first | rfl | (simp [entryFrame, mkF, argsToLocals, Value.category, maxLocals]; done)
set_option maxRecDepth 65536 in
set_option maxHeartbeats 40000000 in
theorem own_first_m {l : Launch} {Z : State} {a0 : Array Value} (hw : own_Z Z a0) {h : Heap} {os : List own_O} {as : List own_A} {a b : Addr} {fa N : Int32} {vs : List Value} (H : own_H Z h (own_MT a (.int fa) (.ref b) :: os) ((b, .double, "[D", vs) :: as)) : own_Met false l Z (⟨"com/example/vestline/vestline/actuarial/MortalityTable", "firstAge", "()I"⟩ : MethodName) prog_2_method_3_code 1 (some .int) [] ({ frames := 0, cells := 0, slots := 0, locals := 0 } : Room) #[(.ref a)] h (fun v h' => v = some (.int fa) ∧ h = h') := by
  refine own_met (by first | exact plainFor_of_name (by decide +kernel) | decide +kernel) ?_
  intro p e s m below meth c K
  refine own_cast (own_first_m_ef m _) ?_
  refine own_aloadN K own_d3_0 rfl rfl ?_
  refine own_getfield K own_d3_1 (host := "") (Or.inl (own_w17 hw)) Via.refl H (j := 0) rfl (q := 0) rfl ?_
  exact own_retI K own_d3_4 (by decide) (by decide) (⟨rfl, rfl⟩)
theorem own_rq_m_ef (m : MethodId) (x0 : Addr) (x1 : Int32) : entryFrame m #[(.ref x0), (.int x1)] 2 = mkF m 0 #[.val (.ref x0), .val (.int x1)] [] := by first | rfl | (simp [entryFrame, mkF, argsToLocals, Value.category, maxLocals]; done)
set_option maxRecDepth 65536 in
set_option maxHeartbeats 40000000 in
theorem own_rq_m {l : Launch} {Z : State} {a0 : Array Value} (hw : own_Z Z a0) {h : Heap} {os : List own_O} {as : List own_A} {a b : Addr} {fa N : Int32} {vs : List Value} {x : Int32} (H : own_H Z h (own_MT a (.int fa) (.ref b) :: os) ((b, .double, "[D", vs) :: as)) (hN : N.toInt = (vs.length : Int)) (g1 : fa.toInt ≤ x.toInt) (g2 : x.toInt ≤ (fa + N - 1).toInt) : own_Met false l Z (⟨"com/example/vestline/vestline/actuarial/MortalityTable", "requireAge", "(I)V"⟩ : MethodName) prog_2_method_7_code 2 none [] ({ frames := 1, cells := 0, slots := 0, locals := 13 } : Room) #[(.ref a), (.int x)] h (fun v h' => v = none ∧ h = h') := by
  refine own_met (by first | exact plainFor_of_name (by decide +kernel) | decide +kernel) ?_
  intro p e s m below meth c K
  refine own_cast (own_rq_m_ef m _ _) ?_
  refine own_iloadN K own_d4_0 rfl ?_
  refine own_aloadN K own_d4_1 rfl rfl ?_
  refine own_getfield K own_d4_2 (host := "") (Or.inl (own_w17 hw)) Via.refl H (j := 0) rfl (q := 0) rfl ?_
  refine own_icmplt K own_d4_5 (fun q => absurd q (Int.not_lt.mpr g1)) (fun _ => ?_)
  refine own_iloadN K own_d4_8 rfl ?_
  refine own_aloadN K own_d4_9 rfl rfl ?_
  refine own_virtual K own_d4_10 (own_w50 hw) (own_w31 hw) (own_w33 hw) (own_w32 hw) (own_w10 hw) (own_w34 hw) (H.atO (i := 0) rfl) (a := a) (argsL := []) (rest := [(.int x)]) (own_last_m hw H hN) own_pd0 rfl rfl rfl (by decide) (W := 1) (Nat.le_of_eq rfl) (by decide) (by decide) (by decide) (by decide) ?_
  intro v3 h1 q2
  obtain ⟨rfl, rfl⟩ := q2
  refine own_icmple K own_d4_13 (fun _ => ?_) (fun q => absurd (g2) q)
  exact own_retV K own_d4_38 (by decide) (by decide) (⟨rfl, rfl⟩)
theorem own_dr_m_ef (m : MethodId) (x0 : Addr) (x1 : Int32) : entryFrame m #[(.ref x0), (.int x1)] 2 = mkF m 0 #[.val (.ref x0), .val (.int x1)] [] := by first | rfl | (simp [entryFrame, mkF, argsToLocals, Value.category, maxLocals]; done)
set_option maxRecDepth 65536 in
set_option maxHeartbeats 40000000 in
theorem own_dr_m {l : Launch} {Z : State} {a0 : Array Value} (hw : own_Z Z a0) {h : Heap} {os : List own_O} {as : List own_A} {a b : Addr} {fa N : Int32} {vs : List Value} {x : Int32} {i : Nat} {d : UInt64} (H : own_H Z h (own_MT a (.int fa) (.ref b) :: os) ((b, .double, "[D", vs) :: as)) (hN : N.toInt = (vs.length : Int)) (g1 : fa.toInt ≤ x.toInt) (g2 : x.toInt ≤ (fa + N - 1).toInt) (hi : (x - fa).toInt = (i : Int)) (hv : vs[i]? = some (.double d)) : own_Met false l Z (⟨"com/example/vestline/vestline/actuarial/MortalityTable", "deathRate", "(I)D"⟩ : MethodName) prog_2_method_5_code 2 (some .double) [] ({ frames := 2, cells := 0, slots := 0, locals := 26 } : Room) #[(.ref a), (.int x)] h (fun v h' => v = some (.double d) ∧ h = h') := by
  refine own_met (by first | exact plainFor_of_name (by decide +kernel) | decide +kernel) ?_
  intro p e s m below meth c K
  refine own_cast (own_dr_m_ef m _ _) ?_
  refine own_aloadN K own_d5_0 rfl rfl ?_
  refine own_iloadN K own_d5_1 rfl ?_
  refine own_virtual K own_d5_2 (own_w45 hw) (own_w46 hw) (own_w48 hw) (own_w47 hw) (own_w10 hw) (own_w49 hw) (H.atO (i := 0) rfl) (a := a) (argsL := [(.int x)]) (rest := []) (own_rq_m hw H hN g1 g2) own_pd1 rfl rfl rfl (by decide) (W := 0) (Nat.le_of_eq rfl) (by decide) (by decide) (by decide) (by decide) ?_
  intro v3 h1 q2
  obtain ⟨rfl, rfl⟩ := q2
  refine own_aloadN K own_d5_5 rfl rfl ?_
  refine own_getfield K own_d5_6 (host := "") (Or.inl (own_w28 hw)) Via.refl H (j := 0) rfl (q := 1) rfl ?_
  refine own_iloadN K own_d5_9 rfl ?_
  refine own_aloadN K own_d5_10 rfl rfl ?_
  refine own_getfield K own_d5_11 (host := "") (Or.inl (own_w17 hw)) Via.refl H (j := 0) rfl (q := 0) rfl ?_
  refine own_isub K own_d5_14 ?_
  refine own_daload K own_d5_15 H (i := 0) rfl (q := i) (hi) (hv) ?_
  exact own_retD K own_d5_16 (by decide) (by decide) (⟨rfl, rfl⟩)
theorem own_law_ef (m : MethodId) (x0 : Int32) (x1 : Int32) : entryFrame m #[(.int x0), (.int x1)] 9 = mkF m 0 #[.val (.int x0), .val (.int x1), .unset, .unset, .unset, .unset, .unset, .unset, .unset] [] := by first | rfl | (simp [entryFrame, mkF, argsToLocals, Value.category, maxLocals]; done)
set_option maxRecDepth 65536 in
set_option maxHeartbeats 40000000 in
theorem own_law {l : Launch} {Z : State} {a0 : Array Value} (hw : own_Z Z a0) {ia ik : Int32} : own_Met false l Z (⟨"com/example/vestline/vestline/actuarial/MortalityTableLastAgePinLaw", "law", "(II)Z"⟩ : MethodName) code 9 (some .boolean) tables_1 room_1 #[(.int ia), (.int ik)] Z.heap (fun v h' => v = some (.int 1)) := by
  refine own_met (by first | exact plainFor_of_name (by decide +kernel) | decide +kernel) ?_
  intro p e s m below meth c K
  refine own_cast (own_law_ef m _ _) ?_
  have H := own_H.start Z
  rcases own_and3 ik with q | q | q | q
  · refine own_iloadN K own_d6_0 rfl ?_
    refine own_ldcI K own_d6_1 (v := (2147483647 : Int32)) (own_w0 hw) ?_
    refine own_iand K own_d6_3 ?_
    obtain ⟨fa, hfa⟩ : ∃ z, z = ia &&& (2147483647 : Int32) := ⟨_, rfl⟩
    have h0 : 0 ≤ fa.toInt := by rw [hfa]; exact own_mask31 ia
    refine own_topI (x' := fa) (hfa.symm) ?_
    refine own_istoreN K own_d6_4 (Ls' := #[.val (.int ia), .val (.int ik), .val (.int fa), .unset, .unset, .unset, .unset, .unset, .unset]) rfl ?_
    refine own_iconst K own_d6_5 (v := (1 : Int32)) rfl ?_
    refine own_iloadN K own_d6_6 rfl ?_
    refine own_iconst K own_d6_7 (v := (3 : Int32)) rfl ?_
    refine own_iand K own_d6_8 ?_
    refine own_topI (x' := (0 : Int32)) (q) ?_
    refine own_iadd K own_d6_9 ?_
    refine own_topI (x' := (1 : Int32)) (by decide) ?_
    refine own_istoreN K own_d6_10 (Ls' := #[.val (.int ia), .val (.int ik), .val (.int fa), .val (.int (1 : Int32)), .unset, .unset, .unset, .unset, .unset]) rfl ?_
    refine own_iloadN K own_d6_11 rfl ?_
    refine own_ldcI K own_d6_12 (v := (2147483647 : Int32)) (own_w0 hw) ?_
    refine own_iloadN K own_d6_14 rfl ?_
    refine own_iconst K own_d6_15 (v := (1 : Int32)) rfl ?_
    refine own_isub K own_d6_16 ?_
    refine own_topI (x' := (0 : Int32)) (by decide) ?_
    refine own_isub K own_d6_17 ?_
    refine own_topI (x' := (2147483647 : Int32)) (by decide) ?_
    refine own_icmple K own_d6_18 (fun g => ?_) (fun g => ?_)
    · refine own_iloadN K own_d6_23 rfl ?_
      refine own_static K own_d6_24 (own_w1 hw) (own_w2 hw) (own_w3 hw) (own_w4 hw) (argsL := [(.int (1 : Int32))]) (rest := []) (own_rates1 hw H) own_pd2 rfl rfl rfl (by decide) (W := 0) (Nat.le_of_eq rfl) (by decide) (by decide) (by decide) (by decide) ?_
      intro v3 h1 q2
      obtain ⟨b4, rfl, H5⟩ := q2
      replace H5 : own_H Z h1 ([]) ((b4, .double, "[D", [(.double (4602678819172646912 : UInt64))]) :: []) := H5
      refine own_astore K own_d6_27 rfl (Ls' := #[.val (.int ia), .val (.int ik), .val (.int fa), .val (.int (1 : Int32)), .val (.ref b4), .unset, .unset, .unset, .unset]) rfl ?_
      refine own_new K own_d6_29 (own_w8 hw) (own_w9 hw) (own_w10 hw) H5 (own_MT_F hw) (own_MT_P hw) (by decide) (by decide) ?_
      intro h6 a8 H7
      replace H7 : own_H Z h6 (own_MT a8 (.int (0 : Int32)) .null :: []) ((b4, .double, "[D", [(.double (4602678819172646912 : UInt64))]) :: []) := H7
      refine own_dup K own_d6_32 rfl ?_
      refine own_iloadN K own_d6_33 rfl ?_
      refine own_aload K own_d6_34 rfl rfl ?_
      refine own_special K own_d6_36 rfl (own_w11 hw) (own_w12 hw) (own_w10 hw) (own_w13 hw) (a := a8) (argsL := [(.int fa), (.ref b4)]) (rest := [(.ref a8)]) (own_init1 hw h0 H7) own_pd3 rfl rfl rfl (by decide) (W := 1) (Nat.le_of_eq rfl) (by decide) (by decide) (by decide) (by decide) ?_
      intro v11 h9 q10
      obtain ⟨rfl, b12, H13⟩ := q10
      replace H13 : own_H Z h9 (own_MT a8 (.int fa) (.ref b12) :: []) ((b12, .double, "[D", [(.double (4602678819172646912 : UInt64))]) :: (b4, .double, "[D", [(.double (4602678819172646912 : UInt64))]) :: []) := H13
      have g3 : fa.toInt + ((1 : Int32) : Int32).toInt ≤ 2147483648 := by have e1 := (show (2147483647 : Int32).toInt = 2147483647 from rfl); have e2 := (show ((1 : Int32) : Int32).toInt = 1 from rfl); rw [e1] at g; omega
      have gl := own_last (N := (1 : Int32)) h0 (by decide) g3
      refine own_astore K own_d6_39 rfl (Ls' := #[.val (.int ia), .val (.int ik), .val (.int fa), .val (.int (1 : Int32)), .val (.ref b4), .val (.ref a8), .unset, .unset, .unset]) rfl ?_
      refine own_aload K own_d6_41 rfl rfl ?_
      refine own_virtual K own_d6_43 (own_w30 hw) (own_w31 hw) (own_w33 hw) (own_w32 hw) (own_w10 hw) (own_w34 hw) (H13.atO (i := 0) rfl) (a := a8) (argsL := []) (rest := []) (own_last_m hw H13 (N := (1 : Int32)) rfl) own_pd0 rfl rfl rfl (by decide) (W := 0) (Nat.le_of_eq rfl) (by decide) (by decide) (by decide) (by decide) ?_
      intro v16 h14 q15
      obtain ⟨rfl, rfl⟩ := q15
      refine own_istore K own_d6_46 (Ls' := #[.val (.int ia), .val (.int ik), .val (.int fa), .val (.int (1 : Int32)), .val (.ref b4), .val (.ref a8), .val (.int (fa + (1 : Int32) - 1)), .unset, .unset]) rfl ?_
      refine own_iloadN K own_d6_48 rfl ?_
      refine own_i2l K own_d6_49 ?_
      refine own_iloadN K own_d6_50 rfl ?_
      refine own_i2l K own_d6_51 ?_
      refine own_topL (x' := (1 : Int64)) (by decide) ?_
      refine own_ladd K own_d6_52 ?_
      refine own_lconst K own_d6_53 (v := (1 : Int64)) rfl ?_
      refine own_lsub K own_d6_54 ?_
      refine own_lstore K own_d6_55 (Ls' := #[.val (.int ia), .val (.int ik), .val (.int fa), .val (.int (1 : Int32)), .val (.ref b4), .val (.ref a8), .val (.int (fa + (1 : Int32) - 1)), .val (.long (((fa.toInt64) + (1 : Int64)) - (1 : Int64))), .second]) rfl ?_
      refine own_iload K own_d6_57 rfl ?_
      refine own_i2l K own_d6_59 ?_
      refine own_lload K own_d6_60 rfl ?_
      refine own_lcmp K own_d6_62 ?_
      refine own_ifne K own_d6_63 (fun q => absurd q (fun z => z (own_cmp0 gl rfl h0 (by decide)))) (fun _ => ?_)
      refine own_aload K own_d6_66 rfl rfl ?_
      refine own_virtual K own_d6_68 (own_w35 hw) (own_w36 hw) (own_w38 hw) (own_w37 hw) (own_w10 hw) (own_w39 hw) (H13.atO (i := 0) rfl) (a := a8) (argsL := []) (rest := []) (own_first_m hw (N := 0) H13) own_pd0 rfl rfl rfl (by decide) (W := 0) (Nat.le_of_eq rfl) (by decide) (by decide) (by decide) (by decide) ?_
      intro v19 h17 q18
      obtain ⟨rfl, rfl⟩ := q18
      refine own_iload K own_d6_71 rfl ?_
      refine own_icmpgt K own_d6_73 (fun q => absurd q (by rw [gl]; have : ((1 : Int32) : Int32).toInt = 1 := rfl; omega)) (fun _ => ?_)
      refine own_aload K own_d6_76 rfl rfl ?_
      refine own_iload K own_d6_78 rfl ?_
      refine own_virtual K own_d6_80 (own_w40 hw) (own_w41 hw) (own_w43 hw) (own_w42 hw) (own_w10 hw) (own_w44 hw) (H13.atO (i := 0) rfl) (a := a8) (argsL := [(.int (fa + (1 : Int32) - 1))]) (rest := []) (own_dr_m hw H13 (N := (1 : Int32)) (i := 0) rfl (by rw [gl]; have := (show ((1 : Int32) : Int32).toInt = 1 from rfl); omega) (Int.le_refl _) (by rw [own_sl]; rfl) rfl) own_pd4 rfl rfl rfl (by decide) (W := 0) (Nat.le_of_eq rfl) (by decide) (by decide) (by decide) (by decide) ?_
      intro v22 h20 q21
      obtain ⟨rfl, rfl⟩ := q21
      refine own_aload K own_d6_83 rfl rfl ?_
      refine own_iloadN K own_d6_85 rfl ?_
      refine own_iconst K own_d6_86 (v := (1 : Int32)) rfl ?_
      refine own_isub K own_d6_87 ?_
      refine own_topI (x' := (0 : Int32)) (by decide) ?_
      refine own_daload K own_d6_88 H13 (i := 1) rfl (q := 0) (by decide) (rfl) ?_
      refine own_dcmp K own_d6_89 ?_
      refine own_topI (x' := (0 : Int32)) (by decide +kernel) ?_
      refine own_ifne K own_d6_90 (fun q => absurd q (by decide)) (fun _ => ?_)
      refine own_iconst K own_d6_93 (v := (1 : Int32)) rfl ?_
      refine own_goto K own_d6_94 ?_
      exact own_retZ K (by first | exact Or.inl rfl | exact Or.inr rfl | decide) own_d6_98 (by decide) (by decide) (rfl)
    · refine own_iconst K own_d6_21 (v := (1 : Int32)) rfl ?_
      exact own_retZ K (by first | exact Or.inl rfl | exact Or.inr rfl | decide) own_d6_22 (by decide) (by decide) (rfl)
  · refine own_iloadN K own_d6_0 rfl ?_
    refine own_ldcI K own_d6_1 (v := (2147483647 : Int32)) (own_w0 hw) ?_
    refine own_iand K own_d6_3 ?_
    obtain ⟨fa, hfa⟩ : ∃ z, z = ia &&& (2147483647 : Int32) := ⟨_, rfl⟩
    have h0 : 0 ≤ fa.toInt := by rw [hfa]; exact own_mask31 ia
    refine own_topI (x' := fa) (hfa.symm) ?_
    refine own_istoreN K own_d6_4 (Ls' := #[.val (.int ia), .val (.int ik), .val (.int fa), .unset, .unset, .unset, .unset, .unset, .unset]) rfl ?_
    refine own_iconst K own_d6_5 (v := (1 : Int32)) rfl ?_
    refine own_iloadN K own_d6_6 rfl ?_
    refine own_iconst K own_d6_7 (v := (3 : Int32)) rfl ?_
    refine own_iand K own_d6_8 ?_
    refine own_topI (x' := (1 : Int32)) (q) ?_
    refine own_iadd K own_d6_9 ?_
    refine own_topI (x' := (2 : Int32)) (by decide) ?_
    refine own_istoreN K own_d6_10 (Ls' := #[.val (.int ia), .val (.int ik), .val (.int fa), .val (.int (2 : Int32)), .unset, .unset, .unset, .unset, .unset]) rfl ?_
    refine own_iloadN K own_d6_11 rfl ?_
    refine own_ldcI K own_d6_12 (v := (2147483647 : Int32)) (own_w0 hw) ?_
    refine own_iloadN K own_d6_14 rfl ?_
    refine own_iconst K own_d6_15 (v := (1 : Int32)) rfl ?_
    refine own_isub K own_d6_16 ?_
    refine own_topI (x' := (1 : Int32)) (by decide) ?_
    refine own_isub K own_d6_17 ?_
    refine own_topI (x' := (2147483646 : Int32)) (by decide) ?_
    refine own_icmple K own_d6_18 (fun g => ?_) (fun g => ?_)
    · refine own_iloadN K own_d6_23 rfl ?_
      refine own_static K own_d6_24 (own_w1 hw) (own_w2 hw) (own_w3 hw) (own_w4 hw) (argsL := [(.int (2 : Int32))]) (rest := []) (own_rates2 hw H) own_pd2 rfl rfl rfl (by decide) (W := 0) (Nat.le_of_eq rfl) (by decide) (by decide) (by decide) (by decide) ?_
      intro v3 h1 q2
      obtain ⟨b4, rfl, H5⟩ := q2
      replace H5 : own_H Z h1 ([]) ((b4, .double, "[D", [(.double (0 : UInt64)), (.double (4607182418800017408 : UInt64))]) :: []) := H5
      refine own_astore K own_d6_27 rfl (Ls' := #[.val (.int ia), .val (.int ik), .val (.int fa), .val (.int (2 : Int32)), .val (.ref b4), .unset, .unset, .unset, .unset]) rfl ?_
      refine own_new K own_d6_29 (own_w8 hw) (own_w9 hw) (own_w10 hw) H5 (own_MT_F hw) (own_MT_P hw) (by decide) (by decide) ?_
      intro h6 a8 H7
      replace H7 : own_H Z h6 (own_MT a8 (.int (0 : Int32)) .null :: []) ((b4, .double, "[D", [(.double (0 : UInt64)), (.double (4607182418800017408 : UInt64))]) :: []) := H7
      refine own_dup K own_d6_32 rfl ?_
      refine own_iloadN K own_d6_33 rfl ?_
      refine own_aload K own_d6_34 rfl rfl ?_
      refine own_special K own_d6_36 rfl (own_w11 hw) (own_w12 hw) (own_w10 hw) (own_w13 hw) (a := a8) (argsL := [(.int fa), (.ref b4)]) (rest := [(.ref a8)]) (own_init2 hw h0 H7) own_pd3 rfl rfl rfl (by decide) (W := 1) (Nat.le_of_eq rfl) (by decide) (by decide) (by decide) (by decide) ?_
      intro v11 h9 q10
      obtain ⟨rfl, b12, H13⟩ := q10
      replace H13 : own_H Z h9 (own_MT a8 (.int fa) (.ref b12) :: []) ((b12, .double, "[D", [(.double (0 : UInt64)), (.double (4607182418800017408 : UInt64))]) :: (b4, .double, "[D", [(.double (0 : UInt64)), (.double (4607182418800017408 : UInt64))]) :: []) := H13
      have g3 : fa.toInt + ((2 : Int32) : Int32).toInt ≤ 2147483648 := by have e1 := (show (2147483646 : Int32).toInt = 2147483646 from rfl); have e2 := (show ((2 : Int32) : Int32).toInt = 2 from rfl); rw [e1] at g; omega
      have gl := own_last (N := (2 : Int32)) h0 (by decide) g3
      refine own_astore K own_d6_39 rfl (Ls' := #[.val (.int ia), .val (.int ik), .val (.int fa), .val (.int (2 : Int32)), .val (.ref b4), .val (.ref a8), .unset, .unset, .unset]) rfl ?_
      refine own_aload K own_d6_41 rfl rfl ?_
      refine own_virtual K own_d6_43 (own_w30 hw) (own_w31 hw) (own_w33 hw) (own_w32 hw) (own_w10 hw) (own_w34 hw) (H13.atO (i := 0) rfl) (a := a8) (argsL := []) (rest := []) (own_last_m hw H13 (N := (2 : Int32)) rfl) own_pd0 rfl rfl rfl (by decide) (W := 0) (Nat.le_of_eq rfl) (by decide) (by decide) (by decide) (by decide) ?_
      intro v16 h14 q15
      obtain ⟨rfl, rfl⟩ := q15
      refine own_istore K own_d6_46 (Ls' := #[.val (.int ia), .val (.int ik), .val (.int fa), .val (.int (2 : Int32)), .val (.ref b4), .val (.ref a8), .val (.int (fa + (2 : Int32) - 1)), .unset, .unset]) rfl ?_
      refine own_iloadN K own_d6_48 rfl ?_
      refine own_i2l K own_d6_49 ?_
      refine own_iloadN K own_d6_50 rfl ?_
      refine own_i2l K own_d6_51 ?_
      refine own_topL (x' := (2 : Int64)) (by decide) ?_
      refine own_ladd K own_d6_52 ?_
      refine own_lconst K own_d6_53 (v := (1 : Int64)) rfl ?_
      refine own_lsub K own_d6_54 ?_
      refine own_lstore K own_d6_55 (Ls' := #[.val (.int ia), .val (.int ik), .val (.int fa), .val (.int (2 : Int32)), .val (.ref b4), .val (.ref a8), .val (.int (fa + (2 : Int32) - 1)), .val (.long (((fa.toInt64) + (2 : Int64)) - (1 : Int64))), .second]) rfl ?_
      refine own_iload K own_d6_57 rfl ?_
      refine own_i2l K own_d6_59 ?_
      refine own_lload K own_d6_60 rfl ?_
      refine own_lcmp K own_d6_62 ?_
      refine own_ifne K own_d6_63 (fun q => absurd q (fun z => z (own_cmp0 gl rfl h0 (by decide)))) (fun _ => ?_)
      refine own_aload K own_d6_66 rfl rfl ?_
      refine own_virtual K own_d6_68 (own_w35 hw) (own_w36 hw) (own_w38 hw) (own_w37 hw) (own_w10 hw) (own_w39 hw) (H13.atO (i := 0) rfl) (a := a8) (argsL := []) (rest := []) (own_first_m hw (N := 0) H13) own_pd0 rfl rfl rfl (by decide) (W := 0) (Nat.le_of_eq rfl) (by decide) (by decide) (by decide) (by decide) ?_
      intro v19 h17 q18
      obtain ⟨rfl, rfl⟩ := q18
      refine own_iload K own_d6_71 rfl ?_
      refine own_icmpgt K own_d6_73 (fun q => absurd q (by rw [gl]; have : ((2 : Int32) : Int32).toInt = 2 := rfl; omega)) (fun _ => ?_)
      refine own_aload K own_d6_76 rfl rfl ?_
      refine own_iload K own_d6_78 rfl ?_
      refine own_virtual K own_d6_80 (own_w40 hw) (own_w41 hw) (own_w43 hw) (own_w42 hw) (own_w10 hw) (own_w44 hw) (H13.atO (i := 0) rfl) (a := a8) (argsL := [(.int (fa + (2 : Int32) - 1))]) (rest := []) (own_dr_m hw H13 (N := (2 : Int32)) (i := 1) rfl (by rw [gl]; have := (show ((2 : Int32) : Int32).toInt = 2 from rfl); omega) (Int.le_refl _) (by rw [own_sl]; rfl) rfl) own_pd4 rfl rfl rfl (by decide) (W := 0) (Nat.le_of_eq rfl) (by decide) (by decide) (by decide) (by decide) ?_
      intro v22 h20 q21
      obtain ⟨rfl, rfl⟩ := q21
      refine own_aload K own_d6_83 rfl rfl ?_
      refine own_iloadN K own_d6_85 rfl ?_
      refine own_iconst K own_d6_86 (v := (1 : Int32)) rfl ?_
      refine own_isub K own_d6_87 ?_
      refine own_topI (x' := (1 : Int32)) (by decide) ?_
      refine own_daload K own_d6_88 H13 (i := 1) rfl (q := 1) (by decide) (rfl) ?_
      refine own_dcmp K own_d6_89 ?_
      refine own_topI (x' := (0 : Int32)) (by decide +kernel) ?_
      refine own_ifne K own_d6_90 (fun q => absurd q (by decide)) (fun _ => ?_)
      refine own_iconst K own_d6_93 (v := (1 : Int32)) rfl ?_
      refine own_goto K own_d6_94 ?_
      exact own_retZ K (by first | exact Or.inl rfl | exact Or.inr rfl | decide) own_d6_98 (by decide) (by decide) (rfl)
    · refine own_iconst K own_d6_21 (v := (1 : Int32)) rfl ?_
      exact own_retZ K (by first | exact Or.inl rfl | exact Or.inr rfl | decide) own_d6_22 (by decide) (by decide) (rfl)
  · refine own_iloadN K own_d6_0 rfl ?_
    refine own_ldcI K own_d6_1 (v := (2147483647 : Int32)) (own_w0 hw) ?_
    refine own_iand K own_d6_3 ?_
    obtain ⟨fa, hfa⟩ : ∃ z, z = ia &&& (2147483647 : Int32) := ⟨_, rfl⟩
    have h0 : 0 ≤ fa.toInt := by rw [hfa]; exact own_mask31 ia
    refine own_topI (x' := fa) (hfa.symm) ?_
    refine own_istoreN K own_d6_4 (Ls' := #[.val (.int ia), .val (.int ik), .val (.int fa), .unset, .unset, .unset, .unset, .unset, .unset]) rfl ?_
    refine own_iconst K own_d6_5 (v := (1 : Int32)) rfl ?_
    refine own_iloadN K own_d6_6 rfl ?_
    refine own_iconst K own_d6_7 (v := (3 : Int32)) rfl ?_
    refine own_iand K own_d6_8 ?_
    refine own_topI (x' := (2 : Int32)) (q) ?_
    refine own_iadd K own_d6_9 ?_
    refine own_topI (x' := (3 : Int32)) (by decide) ?_
    refine own_istoreN K own_d6_10 (Ls' := #[.val (.int ia), .val (.int ik), .val (.int fa), .val (.int (3 : Int32)), .unset, .unset, .unset, .unset, .unset]) rfl ?_
    refine own_iloadN K own_d6_11 rfl ?_
    refine own_ldcI K own_d6_12 (v := (2147483647 : Int32)) (own_w0 hw) ?_
    refine own_iloadN K own_d6_14 rfl ?_
    refine own_iconst K own_d6_15 (v := (1 : Int32)) rfl ?_
    refine own_isub K own_d6_16 ?_
    refine own_topI (x' := (2 : Int32)) (by decide) ?_
    refine own_isub K own_d6_17 ?_
    refine own_topI (x' := (2147483645 : Int32)) (by decide) ?_
    refine own_icmple K own_d6_18 (fun g => ?_) (fun g => ?_)
    · refine own_iloadN K own_d6_23 rfl ?_
      refine own_static K own_d6_24 (own_w1 hw) (own_w2 hw) (own_w3 hw) (own_w4 hw) (argsL := [(.int (3 : Int32))]) (rest := []) (own_rates3 hw H) own_pd2 rfl rfl rfl (by decide) (W := 0) (Nat.le_of_eq rfl) (by decide) (by decide) (by decide) (by decide) ?_
      intro v3 h1 q2
      obtain ⟨b4, rfl, H5⟩ := q2
      replace H5 : own_H Z h1 ([]) ((b4, .double, "[D", [(.double (4598175219545276416 : UInt64)), (.double (4602678819172646912 : UInt64)), (.double (4604930618986332160 : UInt64))]) :: []) := H5
      refine own_astore K own_d6_27 rfl (Ls' := #[.val (.int ia), .val (.int ik), .val (.int fa), .val (.int (3 : Int32)), .val (.ref b4), .unset, .unset, .unset, .unset]) rfl ?_
      refine own_new K own_d6_29 (own_w8 hw) (own_w9 hw) (own_w10 hw) H5 (own_MT_F hw) (own_MT_P hw) (by decide) (by decide) ?_
      intro h6 a8 H7
      replace H7 : own_H Z h6 (own_MT a8 (.int (0 : Int32)) .null :: []) ((b4, .double, "[D", [(.double (4598175219545276416 : UInt64)), (.double (4602678819172646912 : UInt64)), (.double (4604930618986332160 : UInt64))]) :: []) := H7
      refine own_dup K own_d6_32 rfl ?_
      refine own_iloadN K own_d6_33 rfl ?_
      refine own_aload K own_d6_34 rfl rfl ?_
      refine own_special K own_d6_36 rfl (own_w11 hw) (own_w12 hw) (own_w10 hw) (own_w13 hw) (a := a8) (argsL := [(.int fa), (.ref b4)]) (rest := [(.ref a8)]) (own_init3 hw h0 H7) own_pd3 rfl rfl rfl (by decide) (W := 1) (Nat.le_of_eq rfl) (by decide) (by decide) (by decide) (by decide) ?_
      intro v11 h9 q10
      obtain ⟨rfl, b12, H13⟩ := q10
      replace H13 : own_H Z h9 (own_MT a8 (.int fa) (.ref b12) :: []) ((b12, .double, "[D", [(.double (4598175219545276416 : UInt64)), (.double (4602678819172646912 : UInt64)), (.double (4604930618986332160 : UInt64))]) :: (b4, .double, "[D", [(.double (4598175219545276416 : UInt64)), (.double (4602678819172646912 : UInt64)), (.double (4604930618986332160 : UInt64))]) :: []) := H13
      have g3 : fa.toInt + ((3 : Int32) : Int32).toInt ≤ 2147483648 := by have e1 := (show (2147483645 : Int32).toInt = 2147483645 from rfl); have e2 := (show ((3 : Int32) : Int32).toInt = 3 from rfl); rw [e1] at g; omega
      have gl := own_last (N := (3 : Int32)) h0 (by decide) g3
      refine own_astore K own_d6_39 rfl (Ls' := #[.val (.int ia), .val (.int ik), .val (.int fa), .val (.int (3 : Int32)), .val (.ref b4), .val (.ref a8), .unset, .unset, .unset]) rfl ?_
      refine own_aload K own_d6_41 rfl rfl ?_
      refine own_virtual K own_d6_43 (own_w30 hw) (own_w31 hw) (own_w33 hw) (own_w32 hw) (own_w10 hw) (own_w34 hw) (H13.atO (i := 0) rfl) (a := a8) (argsL := []) (rest := []) (own_last_m hw H13 (N := (3 : Int32)) rfl) own_pd0 rfl rfl rfl (by decide) (W := 0) (Nat.le_of_eq rfl) (by decide) (by decide) (by decide) (by decide) ?_
      intro v16 h14 q15
      obtain ⟨rfl, rfl⟩ := q15
      refine own_istore K own_d6_46 (Ls' := #[.val (.int ia), .val (.int ik), .val (.int fa), .val (.int (3 : Int32)), .val (.ref b4), .val (.ref a8), .val (.int (fa + (3 : Int32) - 1)), .unset, .unset]) rfl ?_
      refine own_iloadN K own_d6_48 rfl ?_
      refine own_i2l K own_d6_49 ?_
      refine own_iloadN K own_d6_50 rfl ?_
      refine own_i2l K own_d6_51 ?_
      refine own_topL (x' := (3 : Int64)) (by decide) ?_
      refine own_ladd K own_d6_52 ?_
      refine own_lconst K own_d6_53 (v := (1 : Int64)) rfl ?_
      refine own_lsub K own_d6_54 ?_
      refine own_lstore K own_d6_55 (Ls' := #[.val (.int ia), .val (.int ik), .val (.int fa), .val (.int (3 : Int32)), .val (.ref b4), .val (.ref a8), .val (.int (fa + (3 : Int32) - 1)), .val (.long (((fa.toInt64) + (3 : Int64)) - (1 : Int64))), .second]) rfl ?_
      refine own_iload K own_d6_57 rfl ?_
      refine own_i2l K own_d6_59 ?_
      refine own_lload K own_d6_60 rfl ?_
      refine own_lcmp K own_d6_62 ?_
      refine own_ifne K own_d6_63 (fun q => absurd q (fun z => z (own_cmp0 gl rfl h0 (by decide)))) (fun _ => ?_)
      refine own_aload K own_d6_66 rfl rfl ?_
      refine own_virtual K own_d6_68 (own_w35 hw) (own_w36 hw) (own_w38 hw) (own_w37 hw) (own_w10 hw) (own_w39 hw) (H13.atO (i := 0) rfl) (a := a8) (argsL := []) (rest := []) (own_first_m hw (N := 0) H13) own_pd0 rfl rfl rfl (by decide) (W := 0) (Nat.le_of_eq rfl) (by decide) (by decide) (by decide) (by decide) ?_
      intro v19 h17 q18
      obtain ⟨rfl, rfl⟩ := q18
      refine own_iload K own_d6_71 rfl ?_
      refine own_icmpgt K own_d6_73 (fun q => absurd q (by rw [gl]; have : ((3 : Int32) : Int32).toInt = 3 := rfl; omega)) (fun _ => ?_)
      refine own_aload K own_d6_76 rfl rfl ?_
      refine own_iload K own_d6_78 rfl ?_
      refine own_virtual K own_d6_80 (own_w40 hw) (own_w41 hw) (own_w43 hw) (own_w42 hw) (own_w10 hw) (own_w44 hw) (H13.atO (i := 0) rfl) (a := a8) (argsL := [(.int (fa + (3 : Int32) - 1))]) (rest := []) (own_dr_m hw H13 (N := (3 : Int32)) (i := 2) rfl (by rw [gl]; have := (show ((3 : Int32) : Int32).toInt = 3 from rfl); omega) (Int.le_refl _) (by rw [own_sl]; rfl) rfl) own_pd4 rfl rfl rfl (by decide) (W := 0) (Nat.le_of_eq rfl) (by decide) (by decide) (by decide) (by decide) ?_
      intro v22 h20 q21
      obtain ⟨rfl, rfl⟩ := q21
      refine own_aload K own_d6_83 rfl rfl ?_
      refine own_iloadN K own_d6_85 rfl ?_
      refine own_iconst K own_d6_86 (v := (1 : Int32)) rfl ?_
      refine own_isub K own_d6_87 ?_
      refine own_topI (x' := (2 : Int32)) (by decide) ?_
      refine own_daload K own_d6_88 H13 (i := 1) rfl (q := 2) (by decide) (rfl) ?_
      refine own_dcmp K own_d6_89 ?_
      refine own_topI (x' := (0 : Int32)) (by decide +kernel) ?_
      refine own_ifne K own_d6_90 (fun q => absurd q (by decide)) (fun _ => ?_)
      refine own_iconst K own_d6_93 (v := (1 : Int32)) rfl ?_
      refine own_goto K own_d6_94 ?_
      exact own_retZ K (by first | exact Or.inl rfl | exact Or.inr rfl | decide) own_d6_98 (by decide) (by decide) (rfl)
    · refine own_iconst K own_d6_21 (v := (1 : Int32)) rfl ?_
      exact own_retZ K (by first | exact Or.inl rfl | exact Or.inr rfl | decide) own_d6_22 (by decide) (by decide) (rfl)
  · refine own_iloadN K own_d6_0 rfl ?_
    refine own_ldcI K own_d6_1 (v := (2147483647 : Int32)) (own_w0 hw) ?_
    refine own_iand K own_d6_3 ?_
    obtain ⟨fa, hfa⟩ : ∃ z, z = ia &&& (2147483647 : Int32) := ⟨_, rfl⟩
    have h0 : 0 ≤ fa.toInt := by rw [hfa]; exact own_mask31 ia
    refine own_topI (x' := fa) (hfa.symm) ?_
    refine own_istoreN K own_d6_4 (Ls' := #[.val (.int ia), .val (.int ik), .val (.int fa), .unset, .unset, .unset, .unset, .unset, .unset]) rfl ?_
    refine own_iconst K own_d6_5 (v := (1 : Int32)) rfl ?_
    refine own_iloadN K own_d6_6 rfl ?_
    refine own_iconst K own_d6_7 (v := (3 : Int32)) rfl ?_
    refine own_iand K own_d6_8 ?_
    refine own_topI (x' := (3 : Int32)) (q) ?_
    refine own_iadd K own_d6_9 ?_
    refine own_topI (x' := (4 : Int32)) (by decide) ?_
    refine own_istoreN K own_d6_10 (Ls' := #[.val (.int ia), .val (.int ik), .val (.int fa), .val (.int (4 : Int32)), .unset, .unset, .unset, .unset, .unset]) rfl ?_
    refine own_iloadN K own_d6_11 rfl ?_
    refine own_ldcI K own_d6_12 (v := (2147483647 : Int32)) (own_w0 hw) ?_
    refine own_iloadN K own_d6_14 rfl ?_
    refine own_iconst K own_d6_15 (v := (1 : Int32)) rfl ?_
    refine own_isub K own_d6_16 ?_
    refine own_topI (x' := (3 : Int32)) (by decide) ?_
    refine own_isub K own_d6_17 ?_
    refine own_topI (x' := (2147483644 : Int32)) (by decide) ?_
    refine own_icmple K own_d6_18 (fun g => ?_) (fun g => ?_)
    · refine own_iloadN K own_d6_23 rfl ?_
      refine own_static K own_d6_24 (own_w1 hw) (own_w2 hw) (own_w3 hw) (own_w4 hw) (argsL := [(.int (4 : Int32))]) (rest := []) (own_rates4 hw H) own_pd2 rfl rfl rfl (by decide) (W := 0) (Nat.le_of_eq rfl) (by decide) (by decide) (by decide) (by decide) ?_
      intro v3 h1 q2
      obtain ⟨b4, rfl, H5⟩ := q2
      replace H5 : own_H Z h1 ([]) ((b4, .double, "[D", [(.double (4607182418800017408 : UInt64)), (.double (0 : UInt64)), (.double (4602678819172646912 : UInt64)), (.double (4598175219545276416 : UInt64))]) :: []) := H5
      refine own_astore K own_d6_27 rfl (Ls' := #[.val (.int ia), .val (.int ik), .val (.int fa), .val (.int (4 : Int32)), .val (.ref b4), .unset, .unset, .unset, .unset]) rfl ?_
      refine own_new K own_d6_29 (own_w8 hw) (own_w9 hw) (own_w10 hw) H5 (own_MT_F hw) (own_MT_P hw) (by decide) (by decide) ?_
      intro h6 a8 H7
      replace H7 : own_H Z h6 (own_MT a8 (.int (0 : Int32)) .null :: []) ((b4, .double, "[D", [(.double (4607182418800017408 : UInt64)), (.double (0 : UInt64)), (.double (4602678819172646912 : UInt64)), (.double (4598175219545276416 : UInt64))]) :: []) := H7
      refine own_dup K own_d6_32 rfl ?_
      refine own_iloadN K own_d6_33 rfl ?_
      refine own_aload K own_d6_34 rfl rfl ?_
      refine own_special K own_d6_36 rfl (own_w11 hw) (own_w12 hw) (own_w10 hw) (own_w13 hw) (a := a8) (argsL := [(.int fa), (.ref b4)]) (rest := [(.ref a8)]) (own_init4 hw h0 H7) own_pd3 rfl rfl rfl (by decide) (W := 1) (Nat.le_of_eq rfl) (by decide) (by decide) (by decide) (by decide) ?_
      intro v11 h9 q10
      obtain ⟨rfl, b12, H13⟩ := q10
      replace H13 : own_H Z h9 (own_MT a8 (.int fa) (.ref b12) :: []) ((b12, .double, "[D", [(.double (4607182418800017408 : UInt64)), (.double (0 : UInt64)), (.double (4602678819172646912 : UInt64)), (.double (4598175219545276416 : UInt64))]) :: (b4, .double, "[D", [(.double (4607182418800017408 : UInt64)), (.double (0 : UInt64)), (.double (4602678819172646912 : UInt64)), (.double (4598175219545276416 : UInt64))]) :: []) := H13
      have g3 : fa.toInt + ((4 : Int32) : Int32).toInt ≤ 2147483648 := by have e1 := (show (2147483644 : Int32).toInt = 2147483644 from rfl); have e2 := (show ((4 : Int32) : Int32).toInt = 4 from rfl); rw [e1] at g; omega
      have gl := own_last (N := (4 : Int32)) h0 (by decide) g3
      refine own_astore K own_d6_39 rfl (Ls' := #[.val (.int ia), .val (.int ik), .val (.int fa), .val (.int (4 : Int32)), .val (.ref b4), .val (.ref a8), .unset, .unset, .unset]) rfl ?_
      refine own_aload K own_d6_41 rfl rfl ?_
      refine own_virtual K own_d6_43 (own_w30 hw) (own_w31 hw) (own_w33 hw) (own_w32 hw) (own_w10 hw) (own_w34 hw) (H13.atO (i := 0) rfl) (a := a8) (argsL := []) (rest := []) (own_last_m hw H13 (N := (4 : Int32)) rfl) own_pd0 rfl rfl rfl (by decide) (W := 0) (Nat.le_of_eq rfl) (by decide) (by decide) (by decide) (by decide) ?_
      intro v16 h14 q15
      obtain ⟨rfl, rfl⟩ := q15
      refine own_istore K own_d6_46 (Ls' := #[.val (.int ia), .val (.int ik), .val (.int fa), .val (.int (4 : Int32)), .val (.ref b4), .val (.ref a8), .val (.int (fa + (4 : Int32) - 1)), .unset, .unset]) rfl ?_
      refine own_iloadN K own_d6_48 rfl ?_
      refine own_i2l K own_d6_49 ?_
      refine own_iloadN K own_d6_50 rfl ?_
      refine own_i2l K own_d6_51 ?_
      refine own_topL (x' := (4 : Int64)) (by decide) ?_
      refine own_ladd K own_d6_52 ?_
      refine own_lconst K own_d6_53 (v := (1 : Int64)) rfl ?_
      refine own_lsub K own_d6_54 ?_
      refine own_lstore K own_d6_55 (Ls' := #[.val (.int ia), .val (.int ik), .val (.int fa), .val (.int (4 : Int32)), .val (.ref b4), .val (.ref a8), .val (.int (fa + (4 : Int32) - 1)), .val (.long (((fa.toInt64) + (4 : Int64)) - (1 : Int64))), .second]) rfl ?_
      refine own_iload K own_d6_57 rfl ?_
      refine own_i2l K own_d6_59 ?_
      refine own_lload K own_d6_60 rfl ?_
      refine own_lcmp K own_d6_62 ?_
      refine own_ifne K own_d6_63 (fun q => absurd q (fun z => z (own_cmp0 gl rfl h0 (by decide)))) (fun _ => ?_)
      refine own_aload K own_d6_66 rfl rfl ?_
      refine own_virtual K own_d6_68 (own_w35 hw) (own_w36 hw) (own_w38 hw) (own_w37 hw) (own_w10 hw) (own_w39 hw) (H13.atO (i := 0) rfl) (a := a8) (argsL := []) (rest := []) (own_first_m hw (N := 0) H13) own_pd0 rfl rfl rfl (by decide) (W := 0) (Nat.le_of_eq rfl) (by decide) (by decide) (by decide) (by decide) ?_
      intro v19 h17 q18
      obtain ⟨rfl, rfl⟩ := q18
      refine own_iload K own_d6_71 rfl ?_
      refine own_icmpgt K own_d6_73 (fun q => absurd q (by rw [gl]; have : ((4 : Int32) : Int32).toInt = 4 := rfl; omega)) (fun _ => ?_)
      refine own_aload K own_d6_76 rfl rfl ?_
      refine own_iload K own_d6_78 rfl ?_
      refine own_virtual K own_d6_80 (own_w40 hw) (own_w41 hw) (own_w43 hw) (own_w42 hw) (own_w10 hw) (own_w44 hw) (H13.atO (i := 0) rfl) (a := a8) (argsL := [(.int (fa + (4 : Int32) - 1))]) (rest := []) (own_dr_m hw H13 (N := (4 : Int32)) (i := 3) rfl (by rw [gl]; have := (show ((4 : Int32) : Int32).toInt = 4 from rfl); omega) (Int.le_refl _) (by rw [own_sl]; rfl) rfl) own_pd4 rfl rfl rfl (by decide) (W := 0) (Nat.le_of_eq rfl) (by decide) (by decide) (by decide) (by decide) ?_
      intro v22 h20 q21
      obtain ⟨rfl, rfl⟩ := q21
      refine own_aload K own_d6_83 rfl rfl ?_
      refine own_iloadN K own_d6_85 rfl ?_
      refine own_iconst K own_d6_86 (v := (1 : Int32)) rfl ?_
      refine own_isub K own_d6_87 ?_
      refine own_topI (x' := (3 : Int32)) (by decide) ?_
      refine own_daload K own_d6_88 H13 (i := 1) rfl (q := 3) (by decide) (rfl) ?_
      refine own_dcmp K own_d6_89 ?_
      refine own_topI (x' := (0 : Int32)) (by decide +kernel) ?_
      refine own_ifne K own_d6_90 (fun q => absurd q (by decide)) (fun _ => ?_)
      refine own_iconst K own_d6_93 (v := (1 : Int32)) rfl ?_
      refine own_goto K own_d6_94 ?_
      exact own_retZ K (by first | exact Or.inl rfl | exact Or.inr rfl | decide) own_d6_98 (by decide) (by decide) (rfl)
    · refine own_iconst K own_d6_21 (v := (1 : Int32)) rfl ?_
      exact own_retZ K (by first | exact Or.inl rfl | exact Or.inr rfl | decide) own_d6_22 (by decide) (by decide) (rfl)
set_option maxRecDepth 65536 in
set_option maxHeartbeats 40000000 in
theorem comes_1 {Post : Tables → Env → Array Value → State → Outcome → State → Prop} (hpost : ∀ tb e args s v u, (limb_1_1.after args s (.returned v) u = true ∧ limb_1_2.after args s (.returned v) u = true ∧ True) → FrameEnd s (.returned v) u (Jvm.fieldLocs frame_1_writes args s ++ Jvm.arrayLocs frame_1_arrays args s ++ Jvm.staticLocs frame_1_statics s) 16 128 → Post tb e args s (.returned v) u) :
    ArmFor flags0 classFile x code maxLocals ret World_1 tables_1 room_1 Calls_1 rest_1 Pre_1 Post := by
  intro l hfl _ _ p e ha hc hk s m args below hf hA hF happ hP
  obtain ⟨hcalls, hrest, hpre⟩ := hP
  obtain ⟨-, -, -, hnamed, -, -, -, hat⟩ := (Spec.applies_iff hf).mp happ
  obtain ⟨hg, hn⟩ := and_e (Cond.before_iff.mp (show (Jvm.Cond.and given_1 narrow_1).before args s = true from hpre))
  obtain ⟨h1, hq0⟩ := and_e hg
  obtain ⟨hi0, hq1⟩ := and_e hq0
  have hi1 := hq1
  obtain ⟨w0, w1, rfl⟩ : ∃ w0 w1 : Value, args = #[w0, w1] := by
    have hs : args.size = 2 := by simpa [Cond.value, given_1] using h1
    obtain ⟨L⟩ := args
    match L, hs with
    | [w0, w1], _ => exact ⟨w0, w1, rfl⟩
  have hw : own_Z s #[w0, w1] := fun d (hd : d ∈ tables_1) => atoms_spec (ws := Jvm.Cond.code x code maxLocals ret :: tables_1) hat d (List.mem_cons_of_mem _ hd)
  obtain ⟨i0, e0⟩ := is_v hi0
  obtain rfl : w0 = (.int i0) := Option.some.inj e0
  obtain ⟨i1, e1⟩ := is_v hi1
  obtain rfl : w1 = (.int i1) := Option.some.inj e1
  obtain ⟨n, o, h1, h2, h3, v, L, rfl, ⟨rfl, N, -⟩, hq⟩ := own_law hw p e ha hc hk s m _ below hf ((Spec.applies_iff_loose hf).mp happ).1 ⟨rfl, State.Warmed39.refl s, rfl⟩ trivial
  refine ⟨n, _, h1, h2, h3, hpost _ _ _ _ _ _ ⟨Cond.after_iff.mpr rfl, Cond.after_iff.mpr (eq_i res_at (Term.int_eval (1)) rfl), trivial⟩ ⟨hq.1, hq.2.1, (hq.2.2.sift fun y hy => Or.inr (N y hy)).mono (by decide) (by decide)⟩⟩
theorem main_1_1 : Claimed_1_1 := comes_1 fun _ _ _ _ _ _ h hF => ⟨h.1, hF⟩
theorem main_1_2 : Claimed_1_2 := comes_1 fun _ _ _ _ _ _ h hF => ⟨h.2.1, hF⟩
end Jvm.Pilot.@@N@@
namespace Jvm.Pilot.@@N@@
open Jvm Jvm.ClassFile Sem Op Lib Jvm.Free Jvm.Stand Jvm.Pilot.@@N@@.Jvm.D
/-! MADE BY PROGRAM (witnessworld.py) out of the Statement's table words and the real class files: 11 classes; the members and pool entries that the words name. The judged class is class 1, her method 2. -/
namespace start1
open Jvm.ClassFile
def u (s : String) : CpInfo := .utf8 (stringToUtf16 s)
/-- a pool by its gaps: so many unusable entries, then the entry; so many at the end -/
def gap : Nat → List CpInfo → List CpInfo
  | 0, r => r
  | n + 1, r => .unusable :: gap n r
def poolList (es : List (Nat × CpInfo)) (last : Nat) : List CpInfo := es.foldr (fun e r => gap e.1 (e.2 :: r)) (gap last [])
def pool (es : List (Nat × CpInfo)) (last : Nat) : Array CpInfo := ⟨poolList es last⟩
def fileOf (pool : Array CpInfo) (this : Nat) (attrs : Array Attribute := #[]) (ms : Array MethodInfo := #[]) (fl : Nat := 33) (sup : Nat := 0) (ifs : Array Nat := #[]) (fds : Array FieldInfo := #[]) : ClassFile where
  minorVersion := 0
  majorVersion := 65
  constantPool := pool
  accessFlags := fl
  thisClass := this
  superClass := sup
  interfaces := ifs
  fields := fds
  methods := ms
  attributes := attrs
def plain (name : String) (sup : Option ClassId) : Class where
  name := name
  kind := .ordinary
  loader := none
  accessFlags := 33
  super := sup
  interfaces := #[]
  cf := none
  fields := #[]
  methods := #[]
  instanceTypes := #[]
  staticTypes := #[]
  resolved := #[]
  callSites := []
  init := .initialized
  statics := none
  mirror := none

def pool0 : Array CpInfo := pool [(5, u "<init>"), (0, u "()V"), (1, .class_ 10), (1, u "java/lang/Object"), (85, u "clone"), (0, u "()Ljava/lang/Object;")] 26

def k0c0 : Code := { maxStack := 0, maxLocals := 1, code := object_method_1_code, exceptionTable := #[], attributes := #[] }
def k0m0 : Method := { name := "<init>", desc := "()V", sig := { parameters := [], returnType := none }, accessFlags := 1, code := some k0c0 }
def k0m1 : Method := { name := "clone", desc := "()Ljava/lang/Object;", sig := { parameters := [], returnType := some (.object "java/lang/Object") }, accessFlags := 260, code := none }
/-- java/lang/Object -/
def k0 : Class := { plain "java/lang/Object" none with
  accessFlags := 33
  interfaces := #[]
  cf := some (fileOf pool0 8 #[] #[{ accessFlags := 1, nameIndex := 5, descriptorIndex := 6, attributes := #[] }, { accessFlags := 260, nameIndex := 96, descriptorIndex := 97, attributes := #[] }] 33 0 #[] #[])
  fields := #[]
  methods := #[k0m0, k0m1]
  instanceTypes := #[]
  staticTypes := #[]
  resolved := Array.replicate 124 none
  statics := none }

def pool1 : Array CpInfo := pool [(2, .class_ 4), (1, u "java/lang/Object"), (0, u "<init>"), (0, u "()V"), (0, .double 4602678819172646912), (1, .double 4598175219545276416), (1, .double 4604930618986332160), (1, .integer 2147483647), (2, .methodref 17 18), (0, .class_ 19), (0, .nameAndType 20 21), (0, u "com/example/vestline/vestline/actuarial/MortalityTableLastAgePinLaw"), (0, u "rates"), (0, u "(I)[D"), (0, .class_ 23), (0, u "com/example/vestline/vestline/actuarial/MortalityTable"), (0, .methodref 22 25), (0, .nameAndType 5 26), (0, u "(I[D)V"), (0, .methodref 22 28), (0, .nameAndType 29 30), (0, u "lastAge"), (0, u "()I"), (0, .methodref 22 32), (0, .nameAndType 33 30), (0, u "firstAge"), (0, .methodref 22 35), (0, .nameAndType 36 37), (0, u "deathRate"), (0, u "(I)D"), (3, u "law"), (0, u "(II)Z")] 4

def k1m0 : Method := { name := "<init>", desc := "()V", sig := { parameters := [], returnType := none }, accessFlags := 2, code := none }
def k1c1 : Code := { maxStack := 5, maxLocals := 1, code := method_2_code, exceptionTable := #[], attributes := #[] }
def k1m1 : Method := { name := "rates", desc := "(I)[D", sig := { parameters := [.int], returnType := some (.array .double) }, accessFlags := 10, code := some k1c1 }
def k1c2 : Code := { maxStack := 5, maxLocals := 9, code := code, exceptionTable := #[], attributes := #[] }
def k1m2 : Method := { name := "law", desc := "(II)Z", sig := { parameters := [.int, .int], returnType := some .boolean }, accessFlags := 9, code := some k1c2 }
/-- com/example/vestline/vestline/actuarial/MortalityTableLastAgePinLaw -/
def k1 : Class := { plain "com/example/vestline/vestline/actuarial/MortalityTableLastAgePinLaw" (some 0) with
  accessFlags := 49
  interfaces := #[]
  cf := some (fileOf pool1 17 #[] #[{ accessFlags := 2, nameIndex := 5, descriptorIndex := 6, attributes := #[] }, { accessFlags := 10, nameIndex := 20, descriptorIndex := 21, attributes := #[] }, { accessFlags := 9, nameIndex := 41, descriptorIndex := 42, attributes := #[] }] 49 2 #[] #[])
  fields := #[]
  methods := #[k1m0, k1m1, k1m2]
  instanceTypes := #[]
  staticTypes := #[]
  resolved := Array.replicate 47 none
  statics := none }

def pool2 : Array CpInfo := pool [(1, .methodref 2 3), (0, .class_ 4), (0, .nameAndType 5 6), (0, u "java/lang/Object"), (0, u "<init>"), (0, u "()V"), (14, .fieldref 22 23), (0, .class_ 24), (0, .nameAndType 25 26), (0, u "com/example/vestline/vestline/actuarial/MortalityTable"), (0, u "firstAge"), (0, u "I"), (0, .methodref 28 29), (0, .class_ 30), (0, .nameAndType 31 32), (0, u "[D"), (0, u "clone"), (0, u "()Ljava/lang/Object;"), (0, .fieldref 22 34), (0, .nameAndType 35 30), (0, u "deathRates"), (6, .methodref 22 43), (0, .nameAndType 44 45), (0, u "requireAge"), (0, u "(I)V"), (3, .methodref 22 50), (0, .nameAndType 51 52), (0, u "lastAge"), (0, u "()I"), (3, u "(I[D)V"), (6, u "deathRate"), (0, u "(I)D")] 25

def k2c0 : Code := { maxStack := 5, maxLocals := 6, code := prog_2_method_1_code, exceptionTable := #[], attributes := #[] }
def k2m0 : Method := { name := "<init>", desc := "(I[D)V", sig := { parameters := [.int, (.array .double)], returnType := none }, accessFlags := 1, code := some k2c0 }
def k2c1 : Code := { maxStack := 1, maxLocals := 1, code := prog_2_method_3_code, exceptionTable := #[], attributes := #[] }
def k2m1 : Method := { name := "firstAge", desc := "()I", sig := { parameters := [], returnType := some .int }, accessFlags := 1, code := some k2c1 }
def k2c2 : Code := { maxStack := 2, maxLocals := 1, code := prog_2_method_4_code, exceptionTable := #[], attributes := #[] }
def k2m2 : Method := { name := "lastAge", desc := "()I", sig := { parameters := [], returnType := some .int }, accessFlags := 1, code := some k2c2 }
def k2c3 : Code := { maxStack := 3, maxLocals := 2, code := prog_2_method_5_code, exceptionTable := #[], attributes := #[] }
def k2m3 : Method := { name := "deathRate", desc := "(I)D", sig := { parameters := [.int], returnType := some .double }, accessFlags := 1, code := some k2c3 }
def k2c4 : Code := { maxStack := 5, maxLocals := 2, code := prog_2_method_7_code, exceptionTable := #[], attributes := #[] }
def k2m4 : Method := { name := "requireAge", desc := "(I)V", sig := { parameters := [.int], returnType := none }, accessFlags := 0, code := some k2c4 }
/-- com/example/vestline/vestline/actuarial/MortalityTable -/
def k2 : Class := { plain "com/example/vestline/vestline/actuarial/MortalityTable" (some 0) with
  accessFlags := 49
  interfaces := #[]
  cf := some (fileOf pool2 22 #[] #[{ accessFlags := 1, nameIndex := 5, descriptorIndex := 56, attributes := #[] }, { accessFlags := 1, nameIndex := 25, descriptorIndex := 52, attributes := #[] }, { accessFlags := 1, nameIndex := 51, descriptorIndex := 52, attributes := #[] }, { accessFlags := 1, nameIndex := 63, descriptorIndex := 64, attributes := #[] }, { accessFlags := 0, nameIndex := 44, descriptorIndex := 45, attributes := #[] }] 49 2 #[] #[{ accessFlags := 18, nameIndex := 25, descriptorIndex := 26, attributes := #[] }, { accessFlags := 18, nameIndex := 35, descriptorIndex := 30, attributes := #[] }])
  fields := #[{ name := "firstAge", type := .int, accessFlags := 18, slot := 0, constantValue := 0 }, { name := "deathRates", type := (.array .double), accessFlags := 18, slot := 1, constantValue := 0 }]
  methods := #[k2m0, k2m1, k2m2, k2m3, k2m4]
  instanceTypes := #[.int, (.array .double)]
  staticTypes := #[]
  resolved := Array.replicate 90 none
  statics := none }

def pool3 : Array CpInfo := pool [(1, .class_ 2), (0, u "java/lang/Cloneable"), (0, .class_ 4), (0, u "java/lang/Object")] 2

/-- java/lang/Cloneable -/
def k3 : Class := { plain "java/lang/Cloneable" (some 0) with
  accessFlags := 1537
  interfaces := #[]
  cf := some (fileOf pool3 1 #[] #[] 1537 3 #[] #[])
  fields := #[]
  methods := #[]
  instanceTypes := #[]
  staticTypes := #[]
  resolved := Array.replicate 7 none
  statics := none }

def pool4 : Array CpInfo := pool [(1, u "java/io/Serializable"), (0, .class_ 1), (0, u "java/lang/Object"), (0, .class_ 3)] 3

/-- java/io/Serializable -/
def k4 : Class := { plain "java/io/Serializable" (some 0) with
  accessFlags := 1537
  interfaces := #[]
  cf := some (fileOf pool4 2 #[] #[] 1537 4 #[] #[])
  fields := #[]
  methods := #[]
  instanceTypes := #[]
  staticTypes := #[]
  resolved := Array.replicate 8 none
  statics := none }

/-- the primitive byte -/
def k5 : Class := { plain "byte" none with kind := .primitive 'B', accessFlags := 0x411 }
/-- [B -/
def k6 : Class := { plain "[B" (some 0) with kind := .array 5 .byte, interfaces := #[3, 4], accessFlags := 1041 }

/-- the primitive double -/
def k7 : Class := { plain "double" none with kind := .primitive 'D', accessFlags := 0x411 }
/-- [D -/
def k8 : Class := { plain "[D" (some 0) with kind := .array 7 .double, interfaces := #[3, 4], accessFlags := 1041 }

/-- the primitive int -/
def k9 : Class := { plain "int" none with kind := .primitive 'I', accessFlags := 0x411 }
/-- [I -/
def k10 : Class := { plain "[I" (some 0) with kind := .array 9 .int, interfaces := #[3, 4], accessFlags := 1041 }

def heap : Heap := #[]
def classes : Array Class := #[k0, k1, k2, k3, k4, k5, k6, k7, k8, k9, k10]
def interned : List (Array UInt16 × Addr) := []
def slotsUsed : Nat := 0
def theMethod : MethodId := ⟨1, 2⟩
def args0 : Array Value := #[.int 5, .int 2]
def aboutOver (below : List Frame) : State where
  vm := { classes := classes, interned := interned.toArray }
  heap := heap
  slotsUsed := slotsUsed
  threads := #[{ frames := .invoking theMethod args0 :: below }]
def below0 : List Frame := [.native { method := ⟨0, 0⟩, args := #[] }]
def about1 : State := aboutOver below0
def p0 : Program := .bare "" "" ""
def e0 : Env := launch0.env 0 0 0
theorem w_frames : about1.frames = Frame.invoking theMethod args0 :: below0 := rfl
set_option maxRecDepth 65536 in
theorem w_args : argsFit about1.vm theMethod args0 = true := by decide +kernel
set_option maxRecDepth 65536 in
theorem w_heap : heapFits about1 = true := by decide +kernel
set_option maxRecDepth 65536 in
theorem w_runnable : about1.curStatus? = some .runnable := by decide +kernel
set_option maxRecDepth 65536 in
theorem w_alone : about1.alone = true := by decide +kernel
set_option maxRecDepth 65536 in
theorem w_named : about1.methodNamed? x = some theMethod := by decide +kernel
set_option maxRecDepth 65536 in
theorem w_hears : about1.hears theMethod below0 = true := by decide +kernel
set_option maxRecDepth 65536 in
theorem w_ripe : about1.ripe theMethod args0 below0 = true := by decide +kernel
theorem w_running : about1.status = .running := rfl
set_option maxRecDepth 65536 in
theorem w_room : about1.hasRoom e0.platform room_1 = true :=
  launch0.hasRoom_least _ room_1 (by decide +kernel) (by decide +kernel) (by decide +kernel) (by decide +kernel) (by decide +kernel) (by decide +kernel)
theorem allAtoms_all (ts : List Jvm.Cond) (a : Array Jvm.Value) (st : Jvm.State) : (allAtoms ts).before a st = ts.all (fun c => c.before a st) := by
  induction ts with
  | nil => rfl
  | cons c t ih =>
    show (Jvm.Cond.and c (allAtoms t)).before a st = _
    rw [Jvm.Cond.before_and, ih, List.all_cons]
def words1 : List Jvm.Cond := Jvm.Cond.code x code maxLocals ret :: tables_1
/-- a 'code' word, met by the world's own term for the bytes: nothing is compared byte by byte -/
theorem code_word {y : MethodName} {bytes : ByteArray} {mx : Nat} {rt : Option FieldType} {a : Array Value} {s : State} {m : MethodId} {meth : Method} {c : Code} (h1 : s.methodNamed? y = some m) (h2 : s.vm.method? m = some meth) (h3 : meth.code = some c) (h4 : c.code = bytes)
    (h5 : (c.maxLocals == mx && c.exceptionTable.isEmpty && decide (c.maxStack ≤ mostOperands) && decide (meth.sig.returnType = rt) && !meth.locks && decide (parseMethodDescriptor y.desc = some meth.sig)) = true) : (Jvm.Cond.code y bytes mx rt).before a s = true := by
  simp only [Bool.and_eq_true, beq_iff_eq, Bool.not_eq_true', decide_eq_true_eq] at h5
  obtain ⟨⟨⟨⟨⟨g1, g2⟩, g3⟩, g4⟩, g5⟩, g6⟩ := h5
  simp [Cond.before, Cond.holds, Cond.value, h1, h2, h3, h4, g1, g2, g3, g4, g5, g6]
def isCode : Jvm.Cond → Bool
  | .code _ _ _ _ => true
  | _ => false
theorem all_split {L : List Jvm.Cond} {P : Jvm.Cond → Bool} (h1 : L.all (fun c => isCode c || P c) = true) (h2 : ∀ c ∈ L.filter isCode, P c = true) : L.all P = true := by
  refine List.all_eq_true.mpr fun c hc => ?_
  have h := List.all_eq_true.mp h1 c hc
  rcases Bool.eq_false_or_eq_true (isCode c) with hi | hi
  · exact h2 c (List.mem_filter.mpr ⟨hc, hi⟩)
  · simpa [hi] using h
set_option maxRecDepth 65536 in
theorem w_c0 : (Jvm.Cond.code x code maxLocals ret).before args0 about1 = true := code_word (m := ⟨1, 2⟩) (meth := k1m2) (c := k1c2) (by decide +kernel) rfl rfl rfl (by decide +kernel)
set_option maxRecDepth 65536 in
theorem w_c1 : (Jvm.Cond.code ({ cls := "com/example/vestline/vestline/actuarial/MortalityTableLastAgePinLaw", name := "rates", desc := "(I)[D" } : Jvm.MethodName) method_2_code (1 : Nat) (Option.some (Jvm.ClassFile.FieldType.array Jvm.ClassFile.FieldType.double))).before args0 about1 = true := code_word (m := ⟨1, 1⟩) (meth := k1m1) (c := k1c1) (by decide +kernel) rfl rfl rfl (by decide +kernel)
set_option maxRecDepth 65536 in
theorem w_c2 : (Jvm.Cond.code ({ cls := "com/example/vestline/vestline/actuarial/MortalityTable", name := "<init>", desc := "(I[D)V" } : Jvm.MethodName) prog_2_method_1_code (6 : Nat) (Option.none : Option Jvm.ClassFile.FieldType)).before args0 about1 = true := code_word (m := ⟨2, 0⟩) (meth := k2m0) (c := k2c0) (by decide +kernel) rfl rfl rfl (by decide +kernel)
set_option maxRecDepth 65536 in
theorem w_c3 : (Jvm.Cond.code ({ cls := "java/lang/Object", name := "<init>", desc := "()V" } : Jvm.MethodName) object_method_1_code (1 : Nat) (Option.none : Option Jvm.ClassFile.FieldType)).before args0 about1 = true := code_word (m := ⟨0, 0⟩) (meth := k0m0) (c := k0c0) (by decide +kernel) rfl rfl rfl (by decide +kernel)
set_option maxRecDepth 65536 in
theorem w_c4 : (Jvm.Cond.code ({ cls := "com/example/vestline/vestline/actuarial/MortalityTable", name := "lastAge", desc := "()I" } : Jvm.MethodName) prog_2_method_4_code (1 : Nat) (Option.some Jvm.ClassFile.FieldType.int)).before args0 about1 = true := code_word (m := ⟨2, 2⟩) (meth := k2m2) (c := k2c2) (by decide +kernel) rfl rfl rfl (by decide +kernel)
set_option maxRecDepth 65536 in
theorem w_c5 : (Jvm.Cond.code ({ cls := "com/example/vestline/vestline/actuarial/MortalityTable", name := "firstAge", desc := "()I" } : Jvm.MethodName) prog_2_method_3_code (1 : Nat) (Option.some Jvm.ClassFile.FieldType.int)).before args0 about1 = true := code_word (m := ⟨2, 1⟩) (meth := k2m1) (c := k2c1) (by decide +kernel) rfl rfl rfl (by decide +kernel)
set_option maxRecDepth 65536 in
theorem w_c6 : (Jvm.Cond.code ({ cls := "com/example/vestline/vestline/actuarial/MortalityTable", name := "deathRate", desc := "(I)D" } : Jvm.MethodName) prog_2_method_5_code (2 : Nat) (Option.some Jvm.ClassFile.FieldType.double)).before args0 about1 = true := code_word (m := ⟨2, 3⟩) (meth := k2m3) (c := k2c3) (by decide +kernel) rfl rfl rfl (by decide +kernel)
set_option maxRecDepth 65536 in
theorem w_c7 : (Jvm.Cond.code ({ cls := "com/example/vestline/vestline/actuarial/MortalityTable", name := "requireAge", desc := "(I)V" } : Jvm.MethodName) prog_2_method_7_code (2 : Nat) (Option.none : Option Jvm.ClassFile.FieldType)).before args0 about1 = true := code_word (m := ⟨2, 4⟩) (meth := k2m4) (c := k2c4) (by decide +kernel) rfl rfl rfl (by decide +kernel)
def codes1 : List Jvm.Cond := [Jvm.Cond.code x code maxLocals ret, Jvm.Cond.code ({ cls := "com/example/vestline/vestline/actuarial/MortalityTableLastAgePinLaw", name := "rates", desc := "(I)[D" } : Jvm.MethodName) method_2_code (1 : Nat) (Option.some (Jvm.ClassFile.FieldType.array Jvm.ClassFile.FieldType.double)), Jvm.Cond.code ({ cls := "com/example/vestline/vestline/actuarial/MortalityTable", name := "<init>", desc := "(I[D)V" } : Jvm.MethodName) prog_2_method_1_code (6 : Nat) (Option.none : Option Jvm.ClassFile.FieldType), Jvm.Cond.code ({ cls := "java/lang/Object", name := "<init>", desc := "()V" } : Jvm.MethodName) object_method_1_code (1 : Nat) (Option.none : Option Jvm.ClassFile.FieldType), Jvm.Cond.code ({ cls := "com/example/vestline/vestline/actuarial/MortalityTable", name := "lastAge", desc := "()I" } : Jvm.MethodName) prog_2_method_4_code (1 : Nat) (Option.some Jvm.ClassFile.FieldType.int), Jvm.Cond.code ({ cls := "com/example/vestline/vestline/actuarial/MortalityTable", name := "firstAge", desc := "()I" } : Jvm.MethodName) prog_2_method_3_code (1 : Nat) (Option.some Jvm.ClassFile.FieldType.int), Jvm.Cond.code ({ cls := "com/example/vestline/vestline/actuarial/MortalityTable", name := "deathRate", desc := "(I)D" } : Jvm.MethodName) prog_2_method_5_code (2 : Nat) (Option.some Jvm.ClassFile.FieldType.double), Jvm.Cond.code ({ cls := "com/example/vestline/vestline/actuarial/MortalityTable", name := "requireAge", desc := "(I)V" } : Jvm.MethodName) prog_2_method_7_code (2 : Nat) (Option.none : Option Jvm.ClassFile.FieldType)]
set_option maxRecDepth 65536 in
theorem codes_eq : words1.filter isCode = codes1 := rfl
theorem w_codes : ∀ c ∈ words1.filter isCode, c.before args0 about1 = true := by
  rw [codes_eq]
  intro c hc
  simp only [codes1, List.mem_cons, List.not_mem_nil, or_false] at hc
  rcases hc with rfl | rfl | rfl | rfl | rfl | rfl | rfl | rfl
  · exact w_c0
  · exact w_c1
  · exact w_c2
  · exact w_c3
  · exact w_c4
  · exact w_c5
  · exact w_c6
  · exact w_c7
set_option maxRecDepth 65536 in
theorem w_t1 : (words1.take 24).all (fun c => isCode c || c.before args0 about1) = true := by decide +kernel
set_option maxRecDepth 65536 in
theorem w_t2 : ((words1.drop 24).take 24).all (fun c => isCode c || c.before args0 about1) = true := by decide +kernel
set_option maxRecDepth 65536 in
theorem w_t3 : ((words1.drop 24).drop 24).all (fun c => isCode c || c.before args0 about1) = true := by decide +kernel
theorem w_tables : (allAtoms (Jvm.Cond.code x code maxLocals ret :: tables_1)).before args0 about1 = true := by
  rw [allAtoms_all]
  show words1.all (fun c => c.before args0 about1) = true
  refine all_split ?_ w_codes
  rw [← List.take_append_drop 24 words1, List.all_append, w_t1, ← List.take_append_drop 24 (words1.drop 24), List.all_append, w_t2, w_t3]
  rfl
set_option maxRecDepth 65536 in
theorem w_case : (Jvm.Cond.and given_1 narrow_1).before args0 about1 = true := by decide +kernel
theorem w_applies : (headSpec (Jvm.Cond.code x code maxLocals ret :: tables_1) room_1).applies x e0.platform about1 = true :=
  (Spec.applies_iff w_frames).mpr ⟨w_running, w_runnable, w_alone, w_named, w_hears, w_ripe, w_room, w_tables⟩
theorem atStart : AtStart classFile x code maxLocals ret World_1 tables_1 room_1 Calls_1 rest_1 Pre_1 launch0 p0 e0 about1 theMethod args0 below0 :=
  ⟨lists_1, trivial, launch0.admits_env _ _ _, launch0.least_env, fairChoices_fair.cas, fairChoices_fair.clock, w_frames, w_args, w_heap, w_applies, trivial, trivial, w_case⟩
end start1
theorem witness_1 : WitnessClaimed_1 := ⟨start1.p0, start1.e0, start1.about1, start1.theMethod, start1.args0, start1.below0, start1.atStart⟩
end Jvm.Pilot.@@N@@
