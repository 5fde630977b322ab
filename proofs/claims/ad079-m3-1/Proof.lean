import JvmDerived
import JvmDerived.Pilot.@@N@@Statement
import JvmDerived.Pilot.@@N@@Code
set_option linter.unusedVariables false
set_option linter.unusedSimpArgs false
namespace Jvm.RoadKit
open Sem ClassFile Op Lib Jvm.Stand Jvm.Free Jvm.LawKit
section OwnKit
/-- what stands at a point of the walk: the law's Stand, its written places all new, the heap named; w: may have interned -/
def own_X (w : Bool) (p : Program) (l : Launch) (e : Env) (R : Room) (s : State) (m : MethodId) (args : Array Value) (below : List Frame) (meth : Method) (c : Code) (Z : State) (T : State) (h : Heap) (k n : Nat) : Prop :=
  ∃ (L : List Loc) (vm : Vm), Stand p l e R (s.setVm vm) m args below meth c T L k n ∧ Fr Z.heap.size L ∧ T.heap = h ∧ (w = false → vm = s.vm) ∧ s.Since vm h.size
def own_Cx (p : Program) (s : State) (m : MethodId) (meth : Method) (c : Code) (Z : State) (own nm : String) (bytes : ByteArray) (maxL : Nat) (ret : Option FieldType) : Prop :=
  p.tables.exec = Jvm.exec ∧ c.code = bytes ∧ c.maxLocals = maxL ∧ meth.sig.returnType = ret ∧ meth.locks = false ∧ Z.Warmed39 s.vm ∧ s.vm.findClass own = some m.cls ∧ meth.name = nm
def own_Go (w : Bool) (p : Program) (l : Launch) (e : Env) (R : Room) (s : State) (m : MethodId) (args : Array Value) (below : List Frame) (meth : Method) (c : Code) (Z : State) (Q : Option Value → Heap → Prop) (T : State) (g : JFrame) : Prop :=
  ∃ (T' : State) (v : Option Value) (h' : Heap) (k' n' : Nat), own_X w p l e R s m args below meth c Z T' h' k' n' ∧ k' ≤ R.cells ∧ n' ≤ R.slots ∧ (meth.sig.returnType = none → v = none) ∧ Q v h' ∧
    ∀ fs, (∀ (f : JFrame) (acts : List Action), f.method = m → f.locked = none → f.entered = [] → (doReturn e (T'.setTop f) acts v).1 = T'.setFrames fs) → Steps p.tables e below (T.setTop g) (T'.setFrames fs)
/-- from the frame g, over the heap h, with k cells and n slots made, the walk comes to a return of which Q holds -/
def own_G (w : Bool) (p : Program) (l : Launch) (e : Env) (R : Room) (s : State) (m : MethodId) (args : Array Value) (below : List Frame) (meth : Method) (c : Code) (Z : State) (Q : Option Value → Heap → Prop) (h : Heap) (k n : Nat) (g : JFrame) : Prop :=
  ∀ T, own_X w p l e R s m args below meth c Z T h k n → own_Go w p l e R s m args below meth c Z Q T g
def own_D (bytes : ByteArray) (pc : Nat) (i : Instr) (len pc' : Nat) : Prop := decode bytes pc = .ok (i, len) ∧ pc' = pc + len
def own_B (bytes : ByteArray) (pc : Nat) (i : Instr) (off : Int) (pcF pcT : Nat) : Prop := decode bytes pc = .ok (i, 3) ∧ pcF = pc + 3 ∧ 0 ≤ (pc : Int) + off ∧ ((pc : Int) + off).toNat = pcT
def own_End (w : Bool) (U : State) (o : Outcome) (U' : State) (L : List Loc) (k n : Nat) : Prop := match w with | false => FrameEnd U o U' L k n | true => ReturnedEndW U o U' L k n
def own_Met (w : Bool) (l : Launch) (Z : State) (y : MethodName) (bytes : ByteArray) (maxL : Nat) (ret : Option FieldType) (ws : List Cond) (rm : Room) (as' : Array Value) (h : Heap) (Q : Option Value → Heap → Prop) : Prop :=
  MetFree l y (head1 (Cond.code y bytes maxL ret :: ws) rm) (fun a U => a = as' ∧ Z.Warmed39 U.vm ∧ U.heap = h) (fun _ _ _ _ _ => True)
    (fun _ U o U' => ∃ v L, o = .returned v ∧ (Q v U'.heap ∧ Fr Z.heap.size L ∧ h.size ≤ U'.heap.size) ∧ own_End w U o U' L rm.cells rm.slots)
/-! ## heap -/
abbrev own_O := Addr × String × List (String × String × String × Value)
abbrev own_A := Addr × FieldType × String × List Value
def own_OK (Z : State) (h : Heap) (o : own_O) : Prop := Exa Z h o.1 o.2.1 ∧ (∀ f ∈ o.2.2, Fld Z h o.1 f.1 f.2.1 f.2.2.1 f.2.2.2) ∧ o.2.2.Pairwise (fun f g => slotOf Z f.1 f.2.1 f.2.2.1 ≠ slotOf Z g.1 g.2.1 g.2.2.1)
def own_AK (Z : State) (h : Heap) (a : own_A) : Prop := ∃ cl : Cell, Arr Z h a.1 cl a.2.1 ∧ cl.slots.toList = a.2.2.2 ∧ (∀ v ∈ a.2.2.2, fits a.2.1 v = true) ∧ (a.2.2.1 ≠ "" → Exa Z h a.1 a.2.2.1) ∧ (∀ C, a.2.1 = .object C → a.2.2.1 ≠ "" → Ovr Z cl.cls C)
/-- the heap h: what stood at the law's start Z stands; the objects os and the arrays as, all new, all apart -/
def own_H (Z : State) (h : Heap) (os : List own_O) (as : List own_A) : Prop :=
  Ext Z.heap h ∧ (∀ o ∈ os, Z.heap.size ≤ o.1 ∧ own_OK Z h o) ∧ (∀ a ∈ as, Z.heap.size ≤ a.1 ∧ own_AK Z h a) ∧ (os.map (·.1) ++ as.map (·.1)).Nodup
variable {w : Bool} {p : Program} {l : Launch} {e : Env} {R : Room} {s : State} {m : MethodId} {args : Array Value} {below : List Frame} {meth : Method} {c : Code} {Z : State} {a0 : Array Value} {own nm : String} {bytes : ByteArray} {maxL : Nat} {ret : Option FieldType} {Q : Option Value → Heap → Prop} {h h' : Heap} {k n k' n' : Nat} {pc pc' pcT : Nat} {Ls Ls' : Array Slot} {st rest : List Value} {os os' : List own_O} {as as' : List own_A} {g g' : JFrame} {tyR : FieldType}
theorem own_H.start (Z : State) : own_H Z Z.heap [] [] := ⟨⟨Nat.le_refl _, fun _ _ q => q⟩, fun _ q => (nomatch q), fun _ q => (nomatch q), List.nodup_nil⟩
theorem own_OK.ext {o : own_O} (E : Ext h h') (F : own_OK Z h o) : own_OK Z h' o := ⟨F.1.ext E, fun f hf => (F.2.1 f hf).ext E, F.2.2⟩
theorem own_AK.ext {a : own_A} (E : Ext h h') (F : own_AK Z h a) : own_AK Z h' a := by
  obtain ⟨cl, h1, h2, h3, h4, h5⟩ := F; exact ⟨cl, h1.ext E, h2, h3, fun q => (h4 q).ext E, h5⟩
theorem own_H.ext (H : own_H Z h os as) (E : Ext h h') : own_H Z h' os as :=
  ⟨⟨Nat.le_trans H.1.1 E.1, fun a c q => E.2 a c (H.1.2 a c q)⟩, fun o ho => ⟨(H.2.1 o ho).1, (H.2.1 o ho).2.ext E⟩, fun a ha => ⟨(H.2.2.1 a ha).1, (H.2.2.1 a ha).2.ext E⟩, H.2.2.2⟩
theorem own_H.ltO (H : own_H Z h os as) {o : own_O} (ho : o ∈ os) : o.1 < h.size := (H.2.1 o ho).2.1.lt
theorem own_H.ltA (H : own_H Z h os as) {a : own_A} (ha : a ∈ as) : a.1 < h.size := by obtain ⟨-, cl, h1, -⟩ := H.2.2.1 a ha; exact h1.lt
theorem own_H.fresh (H : own_H Z h os as) : h.size ∉ os.map (·.1) ++ as.map (·.1) := fun q => by
  rcases List.mem_append.mp q with q | q
  · obtain ⟨o, ho, e⟩ := List.mem_map.mp q; exact absurd (H.ltO ho) (by rw [e]; exact Nat.lt_irrefl _)
  · obtain ⟨o, ho, e⟩ := List.mem_map.mp q; exact absurd (H.ltA ho) (by rw [e]; exact Nat.lt_irrefl _)
theorem own_H.addO (H : own_H Z h os as) (E : Ext h h') {C : String} {fs : List (String × String × String × Value)} (F : own_OK Z h' (h.size, C, fs)) : own_H Z h' ((h.size, C, fs) :: os) as := by
  have H' := H.ext E
  refine ⟨H'.1, fun o ho => ?_, H'.2.2.1, ?_⟩
  · rcases List.mem_cons.mp ho with rfl | ho
    · exact ⟨H.1.1, F⟩
    · exact H'.2.1 o ho
  · exact List.nodup_cons.mpr ⟨H.fresh, H.2.2.2⟩
theorem own_H.addA (H : own_H Z h os as) (E : Ext h h') {ty : FieldType} {ad : String} {vs : List Value} (F : own_AK Z h' (h.size, ty, ad, vs)) : own_H Z h' os ((h.size, ty, ad, vs) :: as) := by
  have H' := H.ext E
  refine ⟨H'.1, H'.2.1, fun o ho => ?_, ?_⟩
  · rcases List.mem_cons.mp ho with rfl | ho
    · exact ⟨H.1.1, F⟩
    · exact H'.2.2.1 o ho
  · have q := H.fresh
    rw [List.mem_append] at q
    have q2 := List.nodup_append.mp H.2.2.2
    refine List.nodup_append.mpr ⟨q2.1, List.nodup_cons.mpr ⟨fun z => q (Or.inr z), q2.2.1⟩, fun x hx y hy => ?_⟩
    rcases List.mem_cons.mp hy with rfl | hy
    · intro z; exact q (Or.inl ((show x = h.size from z) ▸ hx))
    · exact q2.2.2 x hx y hy
theorem own_mem {α : Type} {L : List α} {i : Nat} {x : α} (hx : L[i]? = some x) : x ∈ L := List.mem_of_getElem? hx
theorem own_H.atO (H : own_H Z h os as) {i : Nat} {a : Addr} {C : String} {fs : List (String × String × String × Value)} (ho : os[i]? = some (a, C, fs)) : Exa Z h a C := (H.2.1 _ (own_mem ho)).2.1
theorem own_H.newO (H : own_H Z h os as) {i : Nat} {a : Addr} {C : String} {fs : List (String × String × String × Value)} (ho : os[i]? = some (a, C, fs)) : Z.heap.size ≤ a := (H.2.1 _ (own_mem ho)).1
theorem own_H.fld (H : own_H Z h os as) {i q : Nat} {a : Addr} {C O f d : String} {v : Value} {fs : List (String × String × String × Value)} (ho : os[i]? = some (a, C, fs)) (hf : fs[q]? = some (O, f, d, v)) : Fld Z h a O f d v := (H.2.1 _ (own_mem ho)).2.2.1 _ (own_mem hf)
theorem own_H.neOO (H : own_H Z h os as) {i j : Nat} {x y : own_O} (hx : os[i]? = some x) (hy : os[j]? = some y) (ij : i ≠ j) : x.1 ≠ y.1 := fun e => by
  have q := (List.nodup_append.mp H.2.2.2).1
  have h1 : (os.map (·.1))[i]? = some x.1 := by rw [List.getElem?_map, hx]; rfl
  have h2 : (os.map (·.1))[j]? = some y.1 := by rw [List.getElem?_map, hy]; rfl
  rw [← e] at h2
  have hi := (List.getElem?_eq_some_iff.mp h1).1
  exact ij ((List.getElem?_inj hi q).mp (h1.trans h2.symm))
theorem own_H.neAA (H : own_H Z h os as) {i j : Nat} {x y : own_A} (hx : as[i]? = some x) (hy : as[j]? = some y) (ij : i ≠ j) : x.1 ≠ y.1 := fun e => by
  have q := (List.nodup_append.mp H.2.2.2).2.1
  have h1 : (as.map (·.1))[i]? = some x.1 := by rw [List.getElem?_map, hx]; rfl
  have h2 : (as.map (·.1))[j]? = some y.1 := by rw [List.getElem?_map, hy]; rfl
  rw [← e] at h2
  have hi := (List.getElem?_eq_some_iff.mp h1).1
  exact ij ((List.getElem?_inj hi q).mp (h1.trans h2.symm))
theorem own_H.neOA (H : own_H Z h os as) {x : own_O} {y : own_A} (hx : x ∈ os) (hy : y ∈ as) : x.1 ≠ y.1 :=
  (List.nodup_append.mp H.2.2.2).2.2 _ (List.mem_map.mpr ⟨x, hx, rfl⟩) _ (List.mem_map.mpr ⟨y, hy, rfl⟩)
theorem own_set_map {α β : Type} {L : List α} {f : α → β} {i : Nat} {x x' : α} (hx : L[i]? = some x) (e : f x' = f x) : (L.set i x').map f = L.map f := by
  apply List.ext_getElem?
  intro j
  rw [List.getElem?_map, List.getElem?_map, List.getElem?_set]
  by_cases ij : i = j
  · subst ij; rw [hx]; have := (List.getElem?_eq_some_iff.mp hx).1; simp [this, e]
  · simp [ij]
theorem own_H.wrO (H : own_H Z h os as) {i q : Nat} {a : Addr} {C O f d : String} {v v0 : Value} {fs : List (String × String × String × Value)} (ho : os[i]? = some (a, C, fs)) (hf : fs[q]? = some (O, f, d, v0)) (W : Wr h h' a (slotOf Z O f d) v) :
    own_H Z h' (os.set i (a, C, fs.set q (O, f, d, v))) as := by
  have na := H.newO ho
  have hlen := (List.getElem?_eq_some_iff.mp ho).1
  have hql := (List.getElem?_eq_some_iff.mp hf).1
  refine ⟨?_, fun x hx => ?_, fun y hy => ?_, ?_⟩
  · refine ⟨by rw [Wr.size W]; exact H.1.1, fun b cb hb => ?_⟩
    obtain ⟨cb', e1, -, -, -, e5, -⟩ := wr_at W (H.1.2 b cb hb)
    have : b ≠ a := Nat.ne_of_lt (Nat.lt_of_lt_of_le (Array.getElem?_eq_some_iff.mp hb).1 na)
    rw [← e5 this]; exact e1
  · obtain ⟨j, hj⟩ := List.mem_iff_getElem?.mp hx
    rw [List.getElem?_set] at hj
    by_cases ij : i = j
    · subst ij
      rw [if_pos rfl, if_pos hlen] at hj
      obtain rfl := Option.some.inj hj
      obtain ⟨n1, E, F, Pw⟩ := H.2.1 _ (own_mem ho)
      refine ⟨n1, E.wr W, fun z hz => ?_, ?_⟩
      · obtain ⟨r, hr⟩ := List.mem_iff_getElem?.mp hz
        rw [List.getElem?_set] at hr
        by_cases qr : q = r
        · subst qr
          rw [if_pos rfl, if_pos hql] at hr
          obtain rfl := Option.some.inj hr
          exact Fld.same (w := v0) W (F _ (own_mem (show (a, C, fs).2.2[q]? = some (O, f, d, v0) from hf)))
        · rw [if_neg qr] at hr
          refine Fld.other W (F _ (own_mem hr)) (Or.inr fun e => ?_)
          have P2 : ∀ i j : Nat, i < j → ∀ x y, fs[i]? = some x → fs[j]? = some y → slotOf Z x.1 x.2.1 x.2.2.1 ≠ slotOf Z y.1 y.2.1 y.2.2.1 := fun i j ij x y hx hy => by
            obtain ⟨h1, rfl⟩ := List.getElem?_eq_some_iff.mp hx
            obtain ⟨h2, rfl⟩ := List.getElem?_eq_some_iff.mp hy
            exact List.pairwise_iff_getElem.mp Pw i j h1 h2 ij
          rcases Nat.lt_or_gt_of_ne qr with lt | lt
          · exact P2 q r lt _ _ hf hr e.symm
          · exact P2 r q lt _ _ hr hf e
      · have hm : (fs.set q (O, f, d, v)).map (fun f => slotOf Z f.1 f.2.1 f.2.2.1) = fs.map (fun f => slotOf Z f.1 f.2.1 f.2.2.1) := own_set_map hf rfl
        have t := List.pairwise_map.mpr Pw
        rw [← hm] at t
        exact List.pairwise_map.mp t
    · rw [if_neg ij] at hj
      obtain ⟨n1, E, F, Pw⟩ := H.2.1 _ (own_mem hj)
      exact ⟨n1, E.wr W, fun z hz => Fld.other W (F z hz) (Or.inl (H.neOO hj ho (Ne.symm ij))), Pw⟩
  · obtain ⟨n1, cl, h1, h2, h3, h4, h5⟩ := H.2.2.1 y hy
    exact ⟨n1, cl, h1.other W (Ne.symm (H.neOA (own_mem ho) hy)), h2, h3, fun q => (h4 q).wr W, h5⟩
  · rw [own_set_map (f := fun z => z.1) (x' := (a, C, fs.set q (O, f, d, v))) ho rfl]; exact H.2.2.2
theorem own_H.wrA (H : own_H Z h os as) {i q : Nat} {a : Addr} {ty : FieldType} {ad : String} {v : Value} {vs : List Value} (ha : as[i]? = some (a, ty, ad, vs)) (hq : q < vs.length) (hv : fits ty v = true) (W : Wr h h' a q v) :
    own_H Z h' os (as.set i (a, ty, ad, vs.set q v)) := by
  have na := (H.2.2.1 _ (own_mem ha)).1
  have hlen := (List.getElem?_eq_some_iff.mp ha).1
  refine ⟨?_, fun x hx => ?_, fun y hy => ?_, ?_⟩
  · refine ⟨by rw [Wr.size W]; exact H.1.1, fun b cb hb => ?_⟩
    obtain ⟨cb', e1, -, -, -, e5, -⟩ := wr_at W (H.1.2 b cb hb)
    have : b ≠ a := Nat.ne_of_lt (Nat.lt_of_lt_of_le (Array.getElem?_eq_some_iff.mp hb).1 na)
    rw [← e5 this]; exact e1
  · obtain ⟨n1, E, F, Pw⟩ := H.2.1 _ hx
    exact ⟨n1, E.wr W, fun z hz => Fld.other W (F z hz) (Or.inl (H.neOA hx (own_mem ha))), Pw⟩
  · obtain ⟨j, hj⟩ := List.mem_iff_getElem?.mp hy
    rw [List.getElem?_set] at hj
    by_cases ij : i = j
    · subst ij
      rw [if_pos rfl, if_pos hlen] at hj
      obtain rfl := Option.some.inj hj
      obtain ⟨n1, cl, h1, h2, h3, h4, h5⟩ := H.2.2.1 _ (own_mem ha)
      refine ⟨n1, _, h1.same W, ?_, fun z hz => ?_, fun q => (h4 q).wr W, h5⟩
      · show (cl.setSlot q v).slots.toList = vs.set q v
        rw [show (cl.setSlot q v).slots = cl.slots.setIfInBounds q v from rfl, Array.toList_setIfInBounds, show cl.slots.toList = vs from h2]
      · rcases List.mem_or_eq_of_mem_set hz with hz | rfl
        · exact h3 z hz
        · exact hv
    · rw [if_neg ij] at hj
      obtain ⟨n1, cl, h1, h2, h3, h4, h5⟩ := H.2.2.1 _ (own_mem hj)
      exact ⟨n1, cl, h1.other W (H.neAA hj ha (Ne.symm ij)), h2, h3, fun q => (h4 q).wr W, h5⟩
  · rw [own_set_map (f := fun z => z.1) (x' := (a, ty, ad, vs.set q v)) ha rfl]; exact H.2.2.2
theorem own_le {a b : Nat} (h : Nat.ble a b = true) : a ≤ b := Nat.le_of_ble_eq_true h
theorem own_idx {j : Int32} {q : Nat} (hj : j.toInt = (q : Int)) : j.toNatClampNeg = q := by simp only [Int32.toNatClampNeg, hj]; rfl
theorem own_in {j : Int32} {q N : Nat} (hj : j.toInt = (q : Int)) (hq : q < N) : ¬ (j < 0 ∨ N ≤ j.toNatClampNeg) := by
  rw [own_idx hj, Int32.lt_iff_toInt_lt, hj, show (0 : Int32).toInt = 0 from rfl]; omega
theorem own_len {N : Int32} {q : Nat} (hN : N.toInt = (q : Int)) : q.toInt32 = N := by
  have := Int32.toInt_lt N
  exact Int32.toInt_inj.mp ((len_toInt (by omega)).trans hN.symm)
/-! ## steps -/
theorem own_zw {vm : Vm} (hZ : Z.Warmed39 s.vm) {q : Nat} (hS : s.Since vm q) : Z.Warmed39 (s.setVm vm).vm := State.Warmed39.trans (t := s) hZ hS.1
theorem own_pure (K : own_Cx p s m meth c Z own nm bytes maxL ret)
    (f : ∀ {T : State} {L : List Loc} {vm : Vm}, Stand p l e R (s.setVm vm) m args below meth c T L k n → Z.Warmed39 (s.setVm vm).vm → (s.setVm vm).vm.findClass own = some m.cls → T.heap = h → ∀ target, Steps p.tables e below (T.setTop g') target → Steps p.tables e below (T.setTop g) target)
    (hr : own_G w p l e R s m args below meth c Z Q h k n g') : own_G w p l e R s m args below meth c Z Q h k n g := by
  intro T hX
  obtain ⟨T', v, h', k', n', hX', r1, r2, r3, r4, r5⟩ := hr T hX
  obtain ⟨L, vm, X, -, eT, -, hS⟩ := hX
  exact ⟨T', v, h', k', n', hX', r1, r2, r3, r4, fun fs q => f X (own_zw K.2.2.2.2.2.1 hS) (by rw [show (s.setVm vm).vm = vm from rfl, hS.1.alike.findClass]; exact K.2.2.2.2.2.2.1) eT _ (r5 fs q)⟩
theorem own_since {vm : Vm} {q q' : Nat} (hS : s.Since vm q) (hq : q ≤ q') : s.Since vm q' := ⟨hS.1, hS.2.mono hq⟩
theorem own_step {P : Heap → Prop} (K : own_Cx p s m meth c Z own nm bytes maxL ret)
    (f : ∀ {T : State} {L : List Loc} {vm : Vm}, Stand p l e R (s.setVm vm) m args below meth c T L k n → Z.Warmed39 (s.setVm vm).vm → (s.setVm vm).vm.findClass own = some m.cls → T.heap = h → Fr Z.heap.size L →
      ∃ (T' : State) (h' : Heap) (L' : List Loc), Stand p l e R (s.setVm vm) m args below meth c T' L' k' n' ∧ Fr Z.heap.size L' ∧ T'.heap = h' ∧ h.size ≤ h'.size ∧ P h' ∧ ∀ target, Steps p.tables e below (T'.setTop g') target → Steps p.tables e below (T.setTop g) target)
    (hr : ∀ h', P h' → own_G w p l e R s m args below meth c Z Q h' k' n' g') : own_G w p l e R s m args below meth c Z Q h k n g := by
  intro T hX
  obtain ⟨L, vm, X, N, eT, hw, hS⟩ := hX
  obtain ⟨T1, h1, L1, X1, N1, e1, z1, P1, st⟩ := f X (own_zw K.2.2.2.2.2.1 hS) (by rw [show (s.setVm vm).vm = vm from rfl, hS.1.alike.findClass]; exact K.2.2.2.2.2.2.1) eT N
  obtain ⟨T', v, h', k', n', hX', r1, r2, r3, r4, r5⟩ := hr h1 P1 T1 ⟨L1, vm, X1, N1, e1, hw, own_since hS z1⟩
  exact ⟨T', v, h', k', n', hX', r1, r2, r3, r4, fun fs q => st _ (r5 fs q)⟩
theorem own_iload (K : own_Cx p s m meth c Z own nm bytes maxL ret) {kk : Nat} {v : Int32} (hd : own_D bytes pc (.iload kk) 2 pc') (hl : Ls[kk]? = some (.val (.int v))) (hr : own_G w p l e R s m args below meth c Z Q h k n (mkF m pc' Ls (.int v :: st))) : own_G w p l e R s m args below meth c Z Q h k n (mkF m pc Ls (st)) := by
  obtain ⟨hd, rfl⟩ := hd
  exact own_pure K (fun X _ _ _ _ q => XS.iload X.here K.1 rfl (hb K.2.1 hd) hl q) hr
theorem own_iloadN (K : own_Cx p s m meth c Z own nm bytes maxL ret) {kk : Fin 4} {v : Int32} (hd : own_D bytes pc (.iload_n kk) 1 pc') (hl : Ls[kk.val]? = some (.val (.int v))) (hr : own_G w p l e R s m args below meth c Z Q h k n (mkF m pc' Ls (.int v :: st))) : own_G w p l e R s m args below meth c Z Q h k n (mkF m pc Ls (st)) := by
  obtain ⟨hd, rfl⟩ := hd
  exact own_pure K (fun X _ _ _ _ q => XS.iloadN X.here K.1 rfl (hb K.2.1 hd) hl q) hr
theorem own_istore (K : own_Cx p s m meth c Z own nm bytes maxL ret) {kk : Nat} {v : Int32} (hd : own_D bytes pc (.istore kk) 2 pc') (hl : storeLocals Ls kk (.int v) = some Ls') (hr : own_G w p l e R s m args below meth c Z Q h k n (mkF m pc' Ls' (st))) : own_G w p l e R s m args below meth c Z Q h k n (mkF m pc Ls (.int v :: st)) := by
  obtain ⟨hd, rfl⟩ := hd
  exact own_pure K (fun X _ _ _ _ q => XS.istore X.here K.1 rfl (hb K.2.1 hd) rfl hl q) hr
theorem own_istoreN (K : own_Cx p s m meth c Z own nm bytes maxL ret) {kk : Fin 4} {v : Int32} (hd : own_D bytes pc (.istore_n kk) 1 pc') (hl : storeLocals Ls kk.val (.int v) = some Ls') (hr : own_G w p l e R s m args below meth c Z Q h k n (mkF m pc' Ls' (st))) : own_G w p l e R s m args below meth c Z Q h k n (mkF m pc Ls (.int v :: st)) := by
  obtain ⟨hd, rfl⟩ := hd
  exact own_pure K (fun X _ _ _ _ q => XS.istoreN X.here K.1 rfl (hb K.2.1 hd) rfl hl q) hr
theorem own_lload (K : own_Cx p s m meth c Z own nm bytes maxL ret) {kk : Nat} {v : Int64} (hd : own_D bytes pc (.lload kk) 2 pc') (hl : Ls[kk]? = some (.val (.long v))) (hr : own_G w p l e R s m args below meth c Z Q h k n (mkF m pc' Ls (.long v :: st))) : own_G w p l e R s m args below meth c Z Q h k n (mkF m pc Ls (st)) := by
  obtain ⟨hd, rfl⟩ := hd
  exact own_pure K (fun X _ _ _ _ q => XT.lload X.here K.1 rfl (hb K.2.1 hd) hl q) hr
theorem own_lloadN (K : own_Cx p s m meth c Z own nm bytes maxL ret) {kk : Fin 4} {v : Int64} (hd : own_D bytes pc (.lload_n kk) 1 pc') (hl : Ls[kk.val]? = some (.val (.long v))) (hr : own_G w p l e R s m args below meth c Z Q h k n (mkF m pc' Ls (.long v :: st))) : own_G w p l e R s m args below meth c Z Q h k n (mkF m pc Ls (st)) := by
  obtain ⟨hd, rfl⟩ := hd
  exact own_pure K (fun X _ _ _ _ q => XT.lloadN X.here K.1 rfl (hb K.2.1 hd) hl q) hr
theorem own_lstore (K : own_Cx p s m meth c Z own nm bytes maxL ret) {kk : Nat} {v : Int64} (hd : own_D bytes pc (.lstore kk) 2 pc') (hl : storeLocals Ls kk (.long v) = some Ls') (hr : own_G w p l e R s m args below meth c Z Q h k n (mkF m pc' Ls' (st))) : own_G w p l e R s m args below meth c Z Q h k n (mkF m pc Ls (.long v :: st)) := by
  obtain ⟨hd, rfl⟩ := hd
  exact own_pure K (fun X _ _ _ _ q => XT.lstore X.here K.1 rfl (hb K.2.1 hd) rfl hl q) hr
theorem own_lstoreN (K : own_Cx p s m meth c Z own nm bytes maxL ret) {kk : Fin 4} {v : Int64} (hd : own_D bytes pc (.lstore_n kk) 1 pc') (hl : storeLocals Ls kk.val (.long v) = some Ls') (hr : own_G w p l e R s m args below meth c Z Q h k n (mkF m pc' Ls' (st))) : own_G w p l e R s m args below meth c Z Q h k n (mkF m pc Ls (.long v :: st)) := by
  obtain ⟨hd, rfl⟩ := hd
  exact own_pure K (fun X _ _ _ _ q => XT.lstoreN X.here K.1 rfl (hb K.2.1 hd) rfl hl q) hr
theorem own_dload (K : own_Cx p s m meth c Z own nm bytes maxL ret) {kk : Nat} {v : UInt64} (hd : own_D bytes pc (.dload kk) 2 pc') (hl : Ls[kk]? = some (.val (.double v))) (hr : own_G w p l e R s m args below meth c Z Q h k n (mkF m pc' Ls (.double v :: st))) : own_G w p l e R s m args below meth c Z Q h k n (mkF m pc Ls (st)) := by
  obtain ⟨hd, rfl⟩ := hd
  exact own_pure K (fun X _ _ _ _ q => XS.dload X.here K.1 rfl (hb K.2.1 hd) hl q) hr
theorem own_dloadN (K : own_Cx p s m meth c Z own nm bytes maxL ret) {kk : Fin 4} {v : UInt64} (hd : own_D bytes pc (.dload_n kk) 1 pc') (hl : Ls[kk.val]? = some (.val (.double v))) (hr : own_G w p l e R s m args below meth c Z Q h k n (mkF m pc' Ls (.double v :: st))) : own_G w p l e R s m args below meth c Z Q h k n (mkF m pc Ls (st)) := by
  obtain ⟨hd, rfl⟩ := hd
  exact own_pure K (fun X _ _ _ _ q => XS.dloadN X.here K.1 rfl (hb K.2.1 hd) hl q) hr
theorem own_dstore (K : own_Cx p s m meth c Z own nm bytes maxL ret) {kk : Nat} {v : UInt64} (hd : own_D bytes pc (.dstore kk) 2 pc') (hl : storeLocals Ls kk (.double v) = some Ls') (hr : own_G w p l e R s m args below meth c Z Q h k n (mkF m pc' Ls' (st))) : own_G w p l e R s m args below meth c Z Q h k n (mkF m pc Ls (.double v :: st)) := by
  obtain ⟨hd, rfl⟩ := hd
  exact own_pure K (fun X _ _ _ _ q => XS.dstore X.here K.1 rfl (hb K.2.1 hd) rfl hl q) hr
theorem own_dstoreN (K : own_Cx p s m meth c Z own nm bytes maxL ret) {kk : Fin 4} {v : UInt64} (hd : own_D bytes pc (.dstore_n kk) 1 pc') (hl : storeLocals Ls kk.val (.double v) = some Ls') (hr : own_G w p l e R s m args below meth c Z Q h k n (mkF m pc' Ls' (st))) : own_G w p l e R s m args below meth c Z Q h k n (mkF m pc Ls (.double v :: st)) := by
  obtain ⟨hd, rfl⟩ := hd
  exact own_pure K (fun X _ _ _ _ q => XS.dstoreN X.here K.1 rfl (hb K.2.1 hd) rfl hl q) hr
theorem own_aload (K : own_Cx p s m meth c Z own nm bytes maxL ret) {kk : Nat} {v : Value} (hd : own_D bytes pc (.aload kk) 2 pc') (hl : Ls[kk]? = some (.val v)) (hv : v.isRef = true) (hr : own_G w p l e R s m args below meth c Z Q h k n (mkF m pc' Ls (v :: st))) : own_G w p l e R s m args below meth c Z Q h k n (mkF m pc Ls (st)) := by
  obtain ⟨hd, rfl⟩ := hd
  exact own_pure K (fun X _ _ _ _ q => XS.aload X.here K.1 rfl (hb K.2.1 hd) hl hv q) hr
theorem own_aloadN (K : own_Cx p s m meth c Z own nm bytes maxL ret) {kk : Fin 4} {v : Value} (hd : own_D bytes pc (.aload_n kk) 1 pc') (hl : Ls[kk.val]? = some (.val v)) (hv : v.isRef = true) (hr : own_G w p l e R s m args below meth c Z Q h k n (mkF m pc' Ls (v :: st))) : own_G w p l e R s m args below meth c Z Q h k n (mkF m pc Ls (st)) := by
  obtain ⟨hd, rfl⟩ := hd
  exact own_pure K (fun X _ _ _ _ q => XS.aloadN X.here K.1 rfl (hb K.2.1 hd) hl hv q) hr
theorem own_astore (K : own_Cx p s m meth c Z own nm bytes maxL ret) {kk : Nat} {v : Value} (hd : own_D bytes pc (.astore kk) 2 pc') (hv : v.isRef = true) (hl : storeLocals Ls kk v = some Ls') (hr : own_G w p l e R s m args below meth c Z Q h k n (mkF m pc' Ls' (st))) : own_G w p l e R s m args below meth c Z Q h k n (mkF m pc Ls (v :: st)) := by
  obtain ⟨hd, rfl⟩ := hd
  exact own_pure K (fun X _ _ _ _ q => XS.astore X.here K.1 rfl (hb K.2.1 hd) rfl hv hl q) hr
theorem own_astoreN (K : own_Cx p s m meth c Z own nm bytes maxL ret) {kk : Fin 4} {v : Value} (hd : own_D bytes pc (.astore_n kk) 1 pc') (hv : v.isRef = true) (hl : storeLocals Ls kk.val v = some Ls') (hr : own_G w p l e R s m args below meth c Z Q h k n (mkF m pc' Ls' (st))) : own_G w p l e R s m args below meth c Z Q h k n (mkF m pc Ls (v :: st)) := by
  obtain ⟨hd, rfl⟩ := hd
  exact own_pure K (fun X _ _ _ _ q => XS.astoreN X.here K.1 rfl (hb K.2.1 hd) rfl hv hl q) hr
theorem own_iconst (K : own_Cx p s m meth c Z own nm bytes maxL ret) {i : Int} {v : Int32} (hd : own_D bytes pc (.iconst i) 1 pc') (hv : Int32.ofInt i = v) (hr : own_G w p l e R s m args below meth c Z Q h k n (mkF m pc' Ls (.int v :: st))) : own_G w p l e R s m args below meth c Z Q h k n (mkF m pc Ls st) := by
  obtain ⟨hd, rfl⟩ := hd
  subst hv
  exact own_pure K (fun X _ _ _ _ q => XS.iconst X.here K.1 rfl (hb K.2.1 hd) q) hr
theorem own_bipush (K : own_Cx p s m meth c Z own nm bytes maxL ret) {i : Int} {v : Int32} (hd : own_D bytes pc (.bipush i) 2 pc') (hv : (Int8.ofInt i).toInt32 = v) (hr : own_G w p l e R s m args below meth c Z Q h k n (mkF m pc' Ls (.int v :: st))) : own_G w p l e R s m args below meth c Z Q h k n (mkF m pc Ls st) := by
  obtain ⟨hd, rfl⟩ := hd
  subst hv
  exact own_pure K (fun X _ _ _ _ q => XS.bipush X.here K.1 rfl (hb K.2.1 hd) q) hr
theorem own_sipush (K : own_Cx p s m meth c Z own nm bytes maxL ret) {i : Int} {v : Int32} (hd : own_D bytes pc (.sipush i) 3 pc') (hv : (Int16.ofInt i).toInt32 = v) (hr : own_G w p l e R s m args below meth c Z Q h k n (mkF m pc' Ls (.int v :: st))) : own_G w p l e R s m args below meth c Z Q h k n (mkF m pc Ls st) := by
  obtain ⟨hd, rfl⟩ := hd
  subst hv
  exact own_pure K (fun X _ _ _ _ q => XS.sipush X.here K.1 rfl (hb K.2.1 hd) q) hr
theorem own_lconst (K : own_Cx p s m meth c Z own nm bytes maxL ret) {i : Fin 2} {v : Int64} (hd : own_D bytes pc (.lconst i) 1 pc') (hv : Int64.ofNat i = v) (hr : own_G w p l e R s m args below meth c Z Q h k n (mkF m pc' Ls (.long v :: st))) : own_G w p l e R s m args below meth c Z Q h k n (mkF m pc Ls st) := by
  obtain ⟨hd, rfl⟩ := hd
  subst hv
  exact own_pure K (fun X _ _ _ _ q => XT.lconst X.here K.1 rfl (hb K.2.1 hd) q) hr
theorem own_dconst0 (K : own_Cx p s m meth c Z own nm bytes maxL ret) {v : UInt64} (hd : own_D bytes pc (.dconst 0) 1 pc') (hv : FP.dconst0 = v) (hr : own_G w p l e R s m args below meth c Z Q h k n (mkF m pc' Ls (.double v :: st))) : own_G w p l e R s m args below meth c Z Q h k n (mkF m pc Ls st) := by
  obtain ⟨hd, rfl⟩ := hd
  exact own_pure K (fun X _ _ _ _ q => XS.dconst0 X.here K.1 rfl (hb K.2.1 hd) hv q) hr
theorem own_dconst1 (K : own_Cx p s m meth c Z own nm bytes maxL ret) {v : UInt64} (hd : own_D bytes pc (.dconst 1) 1 pc') (hv : FP.dconst1 = v) (hr : own_G w p l e R s m args below meth c Z Q h k n (mkF m pc' Ls (.double v :: st))) : own_G w p l e R s m args below meth c Z Q h k n (mkF m pc Ls st) := by
  obtain ⟨hd, rfl⟩ := hd
  exact own_pure K (fun X _ _ _ _ q => XS.dconst1 X.here K.1 rfl (hb K.2.1 hd) hv q) hr
theorem own_aconstNull (K : own_Cx p s m meth c Z own nm bytes maxL ret)  (hd : own_D bytes pc (.aconst_null) 1 pc') (hr : own_G w p l e R s m args below meth c Z Q h k n (mkF m pc' Ls (.null :: st))) : own_G w p l e R s m args below meth c Z Q h k n (mkF m pc Ls (st)) := by
  obtain ⟨hd, rfl⟩ := hd
  exact own_pure K (fun X _ _ _ _ q => XS.aconstNull X.here K.1 rfl (hb K.2.1 hd)  q) hr
theorem own_iadd (K : own_Cx p s m meth c Z own nm bytes maxL ret) {x y : Int32} (hd : own_D bytes pc (.iadd) 1 pc') (hr : own_G w p l e R s m args below meth c Z Q h k n (mkF m pc' Ls (.int (x + y) :: st))) : own_G w p l e R s m args below meth c Z Q h k n (mkF m pc Ls (.int y :: .int x :: st)) := by
  obtain ⟨hd, rfl⟩ := hd
  exact own_pure K (fun X _ _ _ _ q => XS.iadd X.here K.1 rfl (hb K.2.1 hd) rfl q) hr
theorem own_isub (K : own_Cx p s m meth c Z own nm bytes maxL ret) {x y : Int32} (hd : own_D bytes pc (.isub) 1 pc') (hr : own_G w p l e R s m args below meth c Z Q h k n (mkF m pc' Ls (.int (x - y) :: st))) : own_G w p l e R s m args below meth c Z Q h k n (mkF m pc Ls (.int y :: .int x :: st)) := by
  obtain ⟨hd, rfl⟩ := hd
  exact own_pure K (fun X _ _ _ _ q => XS.isub X.here K.1 rfl (hb K.2.1 hd) rfl q) hr
theorem own_iand (K : own_Cx p s m meth c Z own nm bytes maxL ret) {x y : Int32} (hd : own_D bytes pc (.iand) 1 pc') (hr : own_G w p l e R s m args below meth c Z Q h k n (mkF m pc' Ls (.int (x &&& y) :: st))) : own_G w p l e R s m args below meth c Z Q h k n (mkF m pc Ls (.int y :: .int x :: st)) := by
  obtain ⟨hd, rfl⟩ := hd
  exact own_pure K (fun X _ _ _ _ q => XS.iand X.here K.1 rfl (hb K.2.1 hd) rfl q) hr
theorem own_imul (K : own_Cx p s m meth c Z own nm bytes maxL ret) {x y : Int32} (hd : own_D bytes pc (.imul) 1 pc') (hr : own_G w p l e R s m args below meth c Z Q h k n (mkF m pc' Ls (.int (x * y) :: st))) : own_G w p l e R s m args below meth c Z Q h k n (mkF m pc Ls (.int y :: .int x :: st)) := by
  obtain ⟨hd, rfl⟩ := hd
  exact own_pure K (fun X _ _ _ _ q => XS.imul X.here K.1 rfl (hb K.2.1 hd) rfl q) hr
theorem own_ixor (K : own_Cx p s m meth c Z own nm bytes maxL ret) {x y : Int32} (hd : own_D bytes pc (.ixor) 1 pc') (hr : own_G w p l e R s m args below meth c Z Q h k n (mkF m pc' Ls (.int (x ^^^ y) :: st))) : own_G w p l e R s m args below meth c Z Q h k n (mkF m pc Ls (.int y :: .int x :: st)) := by
  obtain ⟨hd, rfl⟩ := hd
  exact own_pure K (fun X _ _ _ _ q => XT.ixor X.here K.1 rfl (hb K.2.1 hd) rfl q) hr
theorem own_ior (K : own_Cx p s m meth c Z own nm bytes maxL ret) {x y : Int32} (hd : own_D bytes pc (.ior) 1 pc') (hr : own_G w p l e R s m args below meth c Z Q h k n (mkF m pc' Ls (.int (x ||| y) :: st))) : own_G w p l e R s m args below meth c Z Q h k n (mkF m pc Ls (.int y :: .int x :: st)) := by
  obtain ⟨hd, rfl⟩ := hd
  exact own_pure K (fun X _ _ _ _ q => XT.ior X.here K.1 rfl (hb K.2.1 hd) rfl q) hr
theorem own_ishl (K : own_Cx p s m meth c Z own nm bytes maxL ret) {x y : Int32} (hd : own_D bytes pc (.ishl) 1 pc') (hr : own_G w p l e R s m args below meth c Z Q h k n (mkF m pc' Ls (.int (x <<< (y &&& 31)) :: st))) : own_G w p l e R s m args below meth c Z Q h k n (mkF m pc Ls (.int y :: .int x :: st)) := by
  obtain ⟨hd, rfl⟩ := hd
  exact own_pure K (fun X _ _ _ _ q => XT.ishl X.here K.1 rfl (hb K.2.1 hd) rfl q) hr
theorem own_ishr (K : own_Cx p s m meth c Z own nm bytes maxL ret) {x y : Int32} (hd : own_D bytes pc (.ishr) 1 pc') (hr : own_G w p l e R s m args below meth c Z Q h k n (mkF m pc' Ls (.int (x >>> (y &&& 31)) :: st))) : own_G w p l e R s m args below meth c Z Q h k n (mkF m pc Ls (.int y :: .int x :: st)) := by
  obtain ⟨hd, rfl⟩ := hd
  exact own_pure K (fun X _ _ _ _ q => XT.ishr X.here K.1 rfl (hb K.2.1 hd) rfl q) hr
theorem own_iushr (K : own_Cx p s m meth c Z own nm bytes maxL ret) {x y : Int32} (hd : own_D bytes pc (.iushr) 1 pc') (hr : own_G w p l e R s m args below meth c Z Q h k n (mkF m pc' Ls (.int (XT.ushr x y) :: st))) : own_G w p l e R s m args below meth c Z Q h k n (mkF m pc Ls (.int y :: .int x :: st)) := by
  obtain ⟨hd, rfl⟩ := hd
  exact own_pure K (fun X _ _ _ _ q => XT.iushr X.here K.1 rfl (hb K.2.1 hd) rfl q) hr
theorem own_ladd (K : own_Cx p s m meth c Z own nm bytes maxL ret) {x y : Int64} (hd : own_D bytes pc (.ladd) 1 pc') (hr : own_G w p l e R s m args below meth c Z Q h k n (mkF m pc' Ls (.long (x + y) :: st))) : own_G w p l e R s m args below meth c Z Q h k n (mkF m pc Ls (.long y :: .long x :: st)) := by
  obtain ⟨hd, rfl⟩ := hd
  exact own_pure K (fun X _ _ _ _ q => XT.ladd X.here K.1 rfl (hb K.2.1 hd) rfl q) hr
theorem own_lsub (K : own_Cx p s m meth c Z own nm bytes maxL ret) {x y : Int64} (hd : own_D bytes pc (.lsub) 1 pc') (hr : own_G w p l e R s m args below meth c Z Q h k n (mkF m pc' Ls (.long (x - y) :: st))) : own_G w p l e R s m args below meth c Z Q h k n (mkF m pc Ls (.long y :: .long x :: st)) := by
  obtain ⟨hd, rfl⟩ := hd
  exact own_pure K (fun X _ _ _ _ q => XT.lsub X.here K.1 rfl (hb K.2.1 hd) rfl q) hr
theorem own_lmul (K : own_Cx p s m meth c Z own nm bytes maxL ret) {x y : Int64} (hd : own_D bytes pc (.lmul) 1 pc') (hr : own_G w p l e R s m args below meth c Z Q h k n (mkF m pc' Ls (.long (x * y) :: st))) : own_G w p l e R s m args below meth c Z Q h k n (mkF m pc Ls (.long y :: .long x :: st)) := by
  obtain ⟨hd, rfl⟩ := hd
  exact own_pure K (fun X _ _ _ _ q => XT.lmul X.here K.1 rfl (hb K.2.1 hd) rfl q) hr
theorem own_land (K : own_Cx p s m meth c Z own nm bytes maxL ret) {x y : Int64} (hd : own_D bytes pc (.land) 1 pc') (hr : own_G w p l e R s m args below meth c Z Q h k n (mkF m pc' Ls (.long (x &&& y) :: st))) : own_G w p l e R s m args below meth c Z Q h k n (mkF m pc Ls (.long y :: .long x :: st)) := by
  obtain ⟨hd, rfl⟩ := hd
  exact own_pure K (fun X _ _ _ _ q => XT.land X.here K.1 rfl (hb K.2.1 hd) rfl q) hr
theorem own_lor (K : own_Cx p s m meth c Z own nm bytes maxL ret) {x y : Int64} (hd : own_D bytes pc (.lor) 1 pc') (hr : own_G w p l e R s m args below meth c Z Q h k n (mkF m pc' Ls (.long (x ||| y) :: st))) : own_G w p l e R s m args below meth c Z Q h k n (mkF m pc Ls (.long y :: .long x :: st)) := by
  obtain ⟨hd, rfl⟩ := hd
  exact own_pure K (fun X _ _ _ _ q => XT.lor X.here K.1 rfl (hb K.2.1 hd) rfl q) hr
theorem own_lxor (K : own_Cx p s m meth c Z own nm bytes maxL ret) {x y : Int64} (hd : own_D bytes pc (.lxor) 1 pc') (hr : own_G w p l e R s m args below meth c Z Q h k n (mkF m pc' Ls (.long (x ^^^ y) :: st))) : own_G w p l e R s m args below meth c Z Q h k n (mkF m pc Ls (.long y :: .long x :: st)) := by
  obtain ⟨hd, rfl⟩ := hd
  exact own_pure K (fun X _ _ _ _ q => XT.lxor X.here K.1 rfl (hb K.2.1 hd) rfl q) hr
theorem own_lshl (K : own_Cx p s m meth c Z own nm bytes maxL ret) {x : Int64} {y : Int32} (hd : own_D bytes pc (.lshl) 1 pc') (hr : own_G w p l e R s m args below meth c Z Q h k n (mkF m pc' Ls (.long (x <<< (y.toInt64 &&& 63)) :: st))) : own_G w p l e R s m args below meth c Z Q h k n (mkF m pc Ls (.int y :: .long x :: st)) := by
  obtain ⟨hd, rfl⟩ := hd
  exact own_pure K (fun X _ _ _ _ q => XT.lshl X.here K.1 rfl (hb K.2.1 hd) rfl q) hr
theorem own_lshr (K : own_Cx p s m meth c Z own nm bytes maxL ret) {x : Int64} {y : Int32} (hd : own_D bytes pc (.lshr) 1 pc') (hr : own_G w p l e R s m args below meth c Z Q h k n (mkF m pc' Ls (.long (x >>> (y.toInt64 &&& 63)) :: st))) : own_G w p l e R s m args below meth c Z Q h k n (mkF m pc Ls (.int y :: .long x :: st)) := by
  obtain ⟨hd, rfl⟩ := hd
  exact own_pure K (fun X _ _ _ _ q => XT.lshr X.here K.1 rfl (hb K.2.1 hd) rfl q) hr
theorem own_lushr (K : own_Cx p s m meth c Z own nm bytes maxL ret) {x : Int64} {y : Int32} (hd : own_D bytes pc (.lushr) 1 pc') (hr : own_G w p l e R s m args below meth c Z Q h k n (mkF m pc' Ls (.long (XT.ushrL x y) :: st))) : own_G w p l e R s m args below meth c Z Q h k n (mkF m pc Ls (.int y :: .long x :: st)) := by
  obtain ⟨hd, rfl⟩ := hd
  exact own_pure K (fun X _ _ _ _ q => XT.lushr X.here K.1 rfl (hb K.2.1 hd) rfl q) hr
theorem own_lcmp (K : own_Cx p s m meth c Z own nm bytes maxL ret) {x y : Int64} (hd : own_D bytes pc (.lcmp) 1 pc') (hr : own_G w p l e R s m args below meth c Z Q h k n (mkF m pc' Ls (.int (XT.cmpL x y) :: st))) : own_G w p l e R s m args below meth c Z Q h k n (mkF m pc Ls (.long y :: .long x :: st)) := by
  obtain ⟨hd, rfl⟩ := hd
  exact own_pure K (fun X _ _ _ _ q => XT.lcmp X.here K.1 rfl (hb K.2.1 hd) rfl q) hr
theorem own_idiv (K : own_Cx p s m meth c Z own nm bytes maxL ret) {x y : Int32} (hd : own_D bytes pc (.idiv) 1 pc') (hy : y ≠ 0) (hr : own_G w p l e R s m args below meth c Z Q h k n (mkF m pc' Ls (.int (x / y) :: st))) : own_G w p l e R s m args below meth c Z Q h k n (mkF m pc Ls (.int y :: .int x :: st)) := by
  obtain ⟨hd, rfl⟩ := hd
  exact own_pure K (fun X _ _ _ _ q => XS.idiv X.here K.1 rfl (hb K.2.1 hd) rfl hy q) hr
theorem own_ldiv (K : own_Cx p s m meth c Z own nm bytes maxL ret) {x y : Int64} (hd : own_D bytes pc (.ldiv) 1 pc') (hy : y ≠ 0) (hr : own_G w p l e R s m args below meth c Z Q h k n (mkF m pc' Ls (.long (x / y) :: st))) : own_G w p l e R s m args below meth c Z Q h k n (mkF m pc Ls (.long y :: .long x :: st)) := by
  obtain ⟨hd, rfl⟩ := hd
  exact own_pure K (fun X _ _ _ _ q => XT.ldiv X.here K.1 rfl (hb K.2.1 hd) rfl hy q) hr
theorem own_irem (K : own_Cx p s m meth c Z own nm bytes maxL ret) {x y : Int32} (hd : own_D bytes pc .irem 1 pc') (hy : y ≠ 0) (hr : own_G w p l e R s m args below meth c Z Q h k n (mkF m pc' Ls (.int (x % y) :: st))) : own_G w p l e R s m args below meth c Z Q h k n (mkF m pc Ls (.int y :: .int x :: st)) := by
  obtain ⟨hd, rfl⟩ := hd
  exact own_pure K (fun X _ _ _ _ q => iremM X K.1 rfl (hb K.2.1 hd) rfl hy q) hr
theorem own_ineg (K : own_Cx p s m meth c Z own nm bytes maxL ret) {x : Int32} (hd : own_D bytes pc (.ineg) 1 pc') (hr : own_G w p l e R s m args below meth c Z Q h k n (mkF m pc' Ls (.int (-x) :: st))) : own_G w p l e R s m args below meth c Z Q h k n (mkF m pc Ls (.int x :: st)) := by
  obtain ⟨hd, rfl⟩ := hd
  exact own_pure K (fun X _ _ _ _ q => XS.ineg X.here K.1 rfl (hb K.2.1 hd) rfl q) hr
theorem own_lneg (K : own_Cx p s m meth c Z own nm bytes maxL ret) {x : Int64} (hd : own_D bytes pc (.lneg) 1 pc') (hr : own_G w p l e R s m args below meth c Z Q h k n (mkF m pc' Ls (.long (-x) :: st))) : own_G w p l e R s m args below meth c Z Q h k n (mkF m pc Ls (.long x :: st)) := by
  obtain ⟨hd, rfl⟩ := hd
  exact own_pure K (fun X _ _ _ _ q => XT.lneg X.here K.1 rfl (hb K.2.1 hd) rfl q) hr
theorem own_i2l (K : own_Cx p s m meth c Z own nm bytes maxL ret) {x : Int32} (hd : own_D bytes pc (.i2l) 1 pc') (hr : own_G w p l e R s m args below meth c Z Q h k n (mkF m pc' Ls (.long (x.toInt64) :: st))) : own_G w p l e R s m args below meth c Z Q h k n (mkF m pc Ls (.int x :: st)) := by
  obtain ⟨hd, rfl⟩ := hd
  exact own_pure K (fun X _ _ _ _ q => XT.i2l X.here K.1 rfl (hb K.2.1 hd) rfl q) hr
theorem own_l2i (K : own_Cx p s m meth c Z own nm bytes maxL ret) {x : Int64} (hd : own_D bytes pc (.l2i) 1 pc') (hr : own_G w p l e R s m args below meth c Z Q h k n (mkF m pc' Ls (.int (x.toInt32) :: st))) : own_G w p l e R s m args below meth c Z Q h k n (mkF m pc Ls (.long x :: st)) := by
  obtain ⟨hd, rfl⟩ := hd
  exact own_pure K (fun X _ _ _ _ q => XT.l2i X.here K.1 rfl (hb K.2.1 hd) rfl q) hr
theorem own_i2b (K : own_Cx p s m meth c Z own nm bytes maxL ret) {x : Int32} (hd : own_D bytes pc (.i2b) 1 pc') (hr : own_G w p l e R s m args below meth c Z Q h k n (mkF m pc' Ls (.int (x.toInt8.toInt32) :: st))) : own_G w p l e R s m args below meth c Z Q h k n (mkF m pc Ls (.int x :: st)) := by
  obtain ⟨hd, rfl⟩ := hd
  exact own_pure K (fun X _ _ _ _ q => XT.i2b X.here K.1 rfl (hb K.2.1 hd) rfl q) hr
theorem own_i2c (K : own_Cx p s m meth c Z own nm bytes maxL ret) {x : Int32} (hd : own_D bytes pc (.i2c) 1 pc') (hr : own_G w p l e R s m args below meth c Z Q h k n (mkF m pc' Ls (.int (x.toUInt32.toUInt16.toUInt32.toInt32) :: st))) : own_G w p l e R s m args below meth c Z Q h k n (mkF m pc Ls (.int x :: st)) := by
  obtain ⟨hd, rfl⟩ := hd
  exact own_pure K (fun X _ _ _ _ q => XT.i2c X.here K.1 rfl (hb K.2.1 hd) rfl q) hr
theorem own_i2s (K : own_Cx p s m meth c Z own nm bytes maxL ret) {x : Int32} (hd : own_D bytes pc (.i2s) 1 pc') (hr : own_G w p l e R s m args below meth c Z Q h k n (mkF m pc' Ls (.int (x.toInt16.toInt32) :: st))) : own_G w p l e R s m args below meth c Z Q h k n (mkF m pc Ls (.int x :: st)) := by
  obtain ⟨hd, rfl⟩ := hd
  exact own_pure K (fun X _ _ _ _ q => XT.i2s X.here K.1 rfl (hb K.2.1 hd) rfl q) hr
theorem own_i2d (K : own_Cx p s m meth c Z own nm bytes maxL ret) {x : Int32} (hd : own_D bytes pc (.i2d) 1 pc') (hr : own_G w p l e R s m args below meth c Z Q h k n (mkF m pc' Ls (.double (FP.i2d x) :: st))) : own_G w p l e R s m args below meth c Z Q h k n (mkF m pc Ls (.int x :: st)) := by
  obtain ⟨hd, rfl⟩ := hd
  exact own_pure K (fun X _ _ _ _ q => XS.i2dS X.here K.1 rfl (hb K.2.1 hd) rfl rfl q) hr
theorem own_l2d (K : own_Cx p s m meth c Z own nm bytes maxL ret) {x : Int64} (hd : own_D bytes pc (.l2d) 1 pc') (hr : own_G w p l e R s m args below meth c Z Q h k n (mkF m pc' Ls (.double (FP.l2d x) :: st))) : own_G w p l e R s m args below meth c Z Q h k n (mkF m pc Ls (.long x :: st)) := by
  obtain ⟨hd, rfl⟩ := hd
  exact own_pure K (fun X _ _ _ _ q => XS.l2dS X.here K.1 rfl (hb K.2.1 hd) rfl rfl q) hr
theorem own_dneg (K : own_Cx p s m meth c Z own nm bytes maxL ret) {x : UInt64} (hd : own_D bytes pc (.dneg) 1 pc') (hr : own_G w p l e R s m args below meth c Z Q h k n (mkF m pc' Ls (.double (FP.dneg x) :: st))) : own_G w p l e R s m args below meth c Z Q h k n (mkF m pc Ls (.double x :: st)) := by
  obtain ⟨hd, rfl⟩ := hd
  exact own_pure K (fun X _ _ _ _ q => XS.dnegS X.here K.1 rfl (hb K.2.1 hd) rfl rfl q) hr
theorem own_dcmp (K : own_Cx p s m meth c Z own nm bytes maxL ret) {oo : CmpOp} {x y : UInt64} (hd : own_D bytes pc (.dcmp oo) 1 pc') (hr : own_G w p l e R s m args below meth c Z Q h k n (mkF m pc' Ls (.int (cmpValue (FP.dcmp x y) oo) :: st))) : own_G w p l e R s m args below meth c Z Q h k n (mkF m pc Ls (.double y :: .double x :: st)) := by
  obtain ⟨hd, rfl⟩ := hd
  exact own_pure K (fun X _ _ _ _ q => XS.dcmpS X.here K.1 rfl (hb K.2.1 hd) rfl rfl q) hr
theorem own_dadd (K : own_Cx p s m meth c Z own nm bytes maxL ret) {x y : UInt64} (hd : own_D bytes pc (.dadd) 1 pc') (hn : Jvm.Free.Fl.NoNaN64 (FP.dadd x y)) (hr : own_G w p l e R s m args below meth c Z Q h k n (mkF m pc' Ls (.double (FP.dadd x y) :: st))) : own_G w p l e R s m args below meth c Z Q h k n (mkF m pc Ls (.double y :: .double x :: st)) := by
  obtain ⟨hd, rfl⟩ := hd
  exact own_pure K (fun X _ _ _ _ q => XS.daddS X.here K.1 rfl (hb K.2.1 hd) rfl hn rfl q) hr
theorem own_dsub (K : own_Cx p s m meth c Z own nm bytes maxL ret) {x y : UInt64} (hd : own_D bytes pc (.dsub) 1 pc') (hn : Jvm.Free.Fl.NoNaN64 (FP.dsub x y)) (hr : own_G w p l e R s m args below meth c Z Q h k n (mkF m pc' Ls (.double (FP.dsub x y) :: st))) : own_G w p l e R s m args below meth c Z Q h k n (mkF m pc Ls (.double y :: .double x :: st)) := by
  obtain ⟨hd, rfl⟩ := hd
  exact own_pure K (fun X _ _ _ _ q => XS.dsubS X.here K.1 rfl (hb K.2.1 hd) rfl hn rfl q) hr
theorem own_dmul (K : own_Cx p s m meth c Z own nm bytes maxL ret) {x y : UInt64} (hd : own_D bytes pc (.dmul) 1 pc') (hn : Jvm.Free.Fl.NoNaN64 (FP.dmul x y)) (hr : own_G w p l e R s m args below meth c Z Q h k n (mkF m pc' Ls (.double (FP.dmul x y) :: st))) : own_G w p l e R s m args below meth c Z Q h k n (mkF m pc Ls (.double y :: .double x :: st)) := by
  obtain ⟨hd, rfl⟩ := hd
  exact own_pure K (fun X _ _ _ _ q => XS.dmulS X.here K.1 rfl (hb K.2.1 hd) rfl hn rfl q) hr
theorem own_ddiv (K : own_Cx p s m meth c Z own nm bytes maxL ret) {x y : UInt64} (hd : own_D bytes pc (.ddiv) 1 pc') (hn : Jvm.Free.Fl.NoNaN64 (FP.ddiv x y)) (hr : own_G w p l e R s m args below meth c Z Q h k n (mkF m pc' Ls (.double (FP.ddiv x y) :: st))) : own_G w p l e R s m args below meth c Z Q h k n (mkF m pc Ls (.double y :: .double x :: st)) := by
  obtain ⟨hd, rfl⟩ := hd
  exact own_pure K (fun X _ _ _ _ q => XS.ddivS X.here K.1 rfl (hb K.2.1 hd) rfl hn rfl q) hr
theorem own_dup (K : own_Cx p s m meth c Z own nm bytes maxL ret) {x : Value} (hd : own_D bytes pc (.dup) 1 pc') (hc : x.category = 1) (hr : own_G w p l e R s m args below meth c Z Q h k n (mkF m pc' Ls (x :: x :: st))) : own_G w p l e R s m args below meth c Z Q h k n (mkF m pc Ls (x :: st)) := by
  obtain ⟨hd, rfl⟩ := hd
  exact own_pure K (fun X _ _ _ _ q => XS.dup X.here K.1 rfl (hb K.2.1 hd) rfl hc q) hr
theorem own_pop (K : own_Cx p s m meth c Z own nm bytes maxL ret) {x : Value} (hd : own_D bytes pc (.pop) 1 pc') (hc : x.category = 1) (hr : own_G w p l e R s m args below meth c Z Q h k n (mkF m pc' Ls (st))) : own_G w p l e R s m args below meth c Z Q h k n (mkF m pc Ls (x :: st)) := by
  obtain ⟨hd, rfl⟩ := hd
  exact own_pure K (fun X _ _ _ _ q => XT.pop X.here K.1 rfl (hb K.2.1 hd) rfl hc q) hr
theorem own_dupX1 (K : own_Cx p s m meth c Z own nm bytes maxL ret) {x y : Value} (hd : own_D bytes pc (.dup_x1) 1 pc') (hc : x.category = 1) (hc' : y.category = 1) (hr : own_G w p l e R s m args below meth c Z Q h k n (mkF m pc' Ls (x :: y :: x :: st))) : own_G w p l e R s m args below meth c Z Q h k n (mkF m pc Ls (x :: y :: st)) := by
  obtain ⟨hd, rfl⟩ := hd
  exact own_pure K (fun X _ _ _ _ q => XT.dupX1 X.here K.1 rfl (hb K.2.1 hd) rfl hc hc' q) hr
theorem own_dup2 (K : own_Cx p s m meth c Z own nm bytes maxL ret) {x y : Value} (hd : own_D bytes pc (.dup2) 1 pc') (hc : x.category = 1) (hc' : y.category = 1) (hr : own_G w p l e R s m args below meth c Z Q h k n (mkF m pc' Ls (x :: y :: x :: y :: st))) : own_G w p l e R s m args below meth c Z Q h k n (mkF m pc Ls (x :: y :: st)) := by
  obtain ⟨hd, rfl⟩ := hd
  exact own_pure K (fun X _ _ _ _ q => XT.dup2 X.here K.1 rfl (hb K.2.1 hd) rfl hc hc' q) hr
theorem own_iinc (K : own_Cx p s m meth c Z own nm bytes maxL ret) {kk : Nat} {cst : Int} {x y : Int32} (hd : own_D bytes pc (.iinc kk cst) 3 pc') (hl : Ls[kk]? = some (.val (.int x))) (hy : x + Int32.ofInt cst = y) (hl' : storeLocals Ls kk (.int y) = some Ls') (hr : own_G w p l e R s m args below meth c Z Q h k n (mkF m pc' Ls' st)) : own_G w p l e R s m args below meth c Z Q h k n (mkF m pc Ls st) := by
  obtain ⟨hd, rfl⟩ := hd
  subst hy
  exact own_pure K (fun X _ _ _ _ q => XS.iinc X.here K.1 rfl (hb K.2.1 hd) hl hl' q) hr
theorem own_goto (K : own_Cx p s m meth c Z own nm bytes maxL ret) {off : Int} {pcF : Nat} (hd : own_B bytes pc (.goto off) off pcF pcT) (hr : own_G w p l e R s m args below meth c Z Q h k n (mkF m pcT Ls st)) : own_G w p l e R s m args below meth c Z Q h k n (mkF m pc Ls st) := by
  obtain ⟨hd, -, h1, h2⟩ := hd
  exact own_pure K (fun X _ _ _ _ q => XS.goto X.here K.1 rfl rfl (hb K.2.1 hd) h1 h2 q) hr
theorem own_ldcI (K : own_Cx p s m meth c Z own nm bytes maxL ret) {i : Nat} {v : Int32} (hd : own_D bytes pc (.ldc i) 2 pc') (wc : (Cond.constant own i v).before a0 Z = true) (hr : own_G w p l e R s m args below meth c Z Q h k n (mkF m pc' Ls (.int v :: st))) : own_G w p l e R s m args below meth c Z Q h k n (mkF m pc Ls st) := by
  obtain ⟨hd, rfl⟩ := hd
  exact own_pure K (fun X hZ ho _ _ q => X.ldcI K.1 ho (mvT hZ wc) rfl (hb K.2.1 hd) q) hr
theorem own_ldc2J (K : own_Cx p s m meth c Z own nm bytes maxL ret) {i : Nat} {v : Int64} (hd : own_D bytes pc (.ldc2_w i) 3 pc') (wc : (Cond.constantLong own i v).before a0 Z = true) (hr : own_G w p l e R s m args below meth c Z Q h k n (mkF m pc' Ls (.long v :: st))) : own_G w p l e R s m args below meth c Z Q h k n (mkF m pc Ls st) := by
  obtain ⟨hd, rfl⟩ := hd
  exact own_pure K (fun X hZ ho _ _ q => X.ldc2J K.1 ho (mvT hZ wc) rfl (hb K.2.1 hd) q) hr
theorem own_ldc2D (K : own_Cx p s m meth c Z own nm bytes maxL ret) {i : Nat} {v : UInt64} (hd : own_D bytes pc (.ldc2_w i) 3 pc') (wc : (Cond.constantDouble own i v).before a0 Z = true) (hr : own_G w p l e R s m args below meth c Z Q h k n (mkF m pc' Ls (.double v :: st))) : own_G w p l e R s m args below meth c Z Q h k n (mkF m pc Ls st) := by
  obtain ⟨hd, rfl⟩ := hd
  exact own_pure K (fun X hZ ho _ _ q => X.ldc2DoubleC K.1 ho (mvT hZ wc) (g := mkF m pc Ls st) rfl (hb K.2.1 hd) _ q) hr
theorem own_i0_eq (x : Int32) : (ifCond.holds .eq x = true) = (x = 0) := by simp [ifCond.holds, Int32.lt_iff_toInt_lt, Int32.le_iff_toInt_le]
theorem own_ii_eq (x y : Int32) : (if_icmp.holds .eq x y = true) = (x = y) := by simp [if_icmp.holds, Int32.lt_iff_toInt_lt, Int32.le_iff_toInt_le]
theorem own_ifeq (K : own_Cx p s m meth c Z own nm bytes maxL ret) {off : Int} {pcF : Nat} {x : Int32} (hd : own_B bytes pc (.ifCond .eq off) off pcF pcT) (hT : (x = 0) → own_G w p l e R s m args below meth c Z Q h k n (mkF m pcT Ls st)) (hF : ¬ (x = 0) → own_G w p l e R s m args below meth c Z Q h k n (mkF m pcF Ls st)) : own_G w p l e R s m args below meth c Z Q h k n (mkF m pc Ls (.int x :: st)) := by
  obtain ⟨hd, rfl, h1, h2⟩ := hd
  by_cases q : ifCond.holds .eq x = true
  · exact own_pure K (fun X _ _ _ _ r => XS.ifYes X.here K.1 rfl rfl (hb K.2.1 hd) rfl q h1 h2 r) (hT ((own_i0_eq x).mp q))
  · exact own_pure K (fun X _ _ _ _ r => XS.ifNo X.here K.1 rfl (hb K.2.1 hd) rfl (Bool.eq_false_iff.mpr q) r) (hF fun z => q ((own_i0_eq x).mpr z))
theorem own_icmpeq (K : own_Cx p s m meth c Z own nm bytes maxL ret) {off : Int} {pcF : Nat} {x y : Int32} (hd : own_B bytes pc (.if_icmp .eq off) off pcF pcT) (hT : (x = y) → own_G w p l e R s m args below meth c Z Q h k n (mkF m pcT Ls st)) (hF : ¬ (x = y) → own_G w p l e R s m args below meth c Z Q h k n (mkF m pcF Ls st)) : own_G w p l e R s m args below meth c Z Q h k n (mkF m pc Ls (.int y :: .int x :: st)) := by
  obtain ⟨hd, rfl, h1, h2⟩ := hd
  by_cases q : if_icmp.holds .eq x y = true
  · exact own_pure K (fun X _ _ _ _ r => XS.icmpYes X.here K.1 rfl rfl (hb K.2.1 hd) rfl q h1 h2 r) (hT ((own_ii_eq x y).mp q))
  · exact own_pure K (fun X _ _ _ _ r => XS.icmpNo X.here K.1 rfl (hb K.2.1 hd) rfl (Bool.eq_false_iff.mpr q) r) (hF fun z => q ((own_ii_eq x y).mpr z))
theorem own_i0_ne (x : Int32) : (ifCond.holds .ne x = true) = (x ≠ 0) := by simp [ifCond.holds, Int32.lt_iff_toInt_lt, Int32.le_iff_toInt_le]
theorem own_ii_ne (x y : Int32) : (if_icmp.holds .ne x y = true) = (x ≠ y) := by simp [if_icmp.holds, Int32.lt_iff_toInt_lt, Int32.le_iff_toInt_le]
theorem own_ifne (K : own_Cx p s m meth c Z own nm bytes maxL ret) {off : Int} {pcF : Nat} {x : Int32} (hd : own_B bytes pc (.ifCond .ne off) off pcF pcT) (hT : (x ≠ 0) → own_G w p l e R s m args below meth c Z Q h k n (mkF m pcT Ls st)) (hF : ¬ (x ≠ 0) → own_G w p l e R s m args below meth c Z Q h k n (mkF m pcF Ls st)) : own_G w p l e R s m args below meth c Z Q h k n (mkF m pc Ls (.int x :: st)) := by
  obtain ⟨hd, rfl, h1, h2⟩ := hd
  by_cases q : ifCond.holds .ne x = true
  · exact own_pure K (fun X _ _ _ _ r => XS.ifYes X.here K.1 rfl rfl (hb K.2.1 hd) rfl q h1 h2 r) (hT ((own_i0_ne x).mp q))
  · exact own_pure K (fun X _ _ _ _ r => XS.ifNo X.here K.1 rfl (hb K.2.1 hd) rfl (Bool.eq_false_iff.mpr q) r) (hF fun z => q ((own_i0_ne x).mpr z))
theorem own_icmpne (K : own_Cx p s m meth c Z own nm bytes maxL ret) {off : Int} {pcF : Nat} {x y : Int32} (hd : own_B bytes pc (.if_icmp .ne off) off pcF pcT) (hT : (x ≠ y) → own_G w p l e R s m args below meth c Z Q h k n (mkF m pcT Ls st)) (hF : ¬ (x ≠ y) → own_G w p l e R s m args below meth c Z Q h k n (mkF m pcF Ls st)) : own_G w p l e R s m args below meth c Z Q h k n (mkF m pc Ls (.int y :: .int x :: st)) := by
  obtain ⟨hd, rfl, h1, h2⟩ := hd
  by_cases q : if_icmp.holds .ne x y = true
  · exact own_pure K (fun X _ _ _ _ r => XS.icmpYes X.here K.1 rfl rfl (hb K.2.1 hd) rfl q h1 h2 r) (hT ((own_ii_ne x y).mp q))
  · exact own_pure K (fun X _ _ _ _ r => XS.icmpNo X.here K.1 rfl (hb K.2.1 hd) rfl (Bool.eq_false_iff.mpr q) r) (hF fun z => q ((own_ii_ne x y).mpr z))
theorem own_i0_lt (x : Int32) : (ifCond.holds .lt x = true) = (x.toInt < 0) := by simp [ifCond.holds, Int32.lt_iff_toInt_lt, Int32.le_iff_toInt_le]
theorem own_ii_lt (x y : Int32) : (if_icmp.holds .lt x y = true) = (x.toInt < y.toInt) := by simp [if_icmp.holds, Int32.lt_iff_toInt_lt, Int32.le_iff_toInt_le]
theorem own_iflt (K : own_Cx p s m meth c Z own nm bytes maxL ret) {off : Int} {pcF : Nat} {x : Int32} (hd : own_B bytes pc (.ifCond .lt off) off pcF pcT) (hT : (x.toInt < 0) → own_G w p l e R s m args below meth c Z Q h k n (mkF m pcT Ls st)) (hF : ¬ (x.toInt < 0) → own_G w p l e R s m args below meth c Z Q h k n (mkF m pcF Ls st)) : own_G w p l e R s m args below meth c Z Q h k n (mkF m pc Ls (.int x :: st)) := by
  obtain ⟨hd, rfl, h1, h2⟩ := hd
  by_cases q : ifCond.holds .lt x = true
  · exact own_pure K (fun X _ _ _ _ r => XS.ifYes X.here K.1 rfl rfl (hb K.2.1 hd) rfl q h1 h2 r) (hT ((own_i0_lt x).mp q))
  · exact own_pure K (fun X _ _ _ _ r => XS.ifNo X.here K.1 rfl (hb K.2.1 hd) rfl (Bool.eq_false_iff.mpr q) r) (hF fun z => q ((own_i0_lt x).mpr z))
theorem own_icmplt (K : own_Cx p s m meth c Z own nm bytes maxL ret) {off : Int} {pcF : Nat} {x y : Int32} (hd : own_B bytes pc (.if_icmp .lt off) off pcF pcT) (hT : (x.toInt < y.toInt) → own_G w p l e R s m args below meth c Z Q h k n (mkF m pcT Ls st)) (hF : ¬ (x.toInt < y.toInt) → own_G w p l e R s m args below meth c Z Q h k n (mkF m pcF Ls st)) : own_G w p l e R s m args below meth c Z Q h k n (mkF m pc Ls (.int y :: .int x :: st)) := by
  obtain ⟨hd, rfl, h1, h2⟩ := hd
  by_cases q : if_icmp.holds .lt x y = true
  · exact own_pure K (fun X _ _ _ _ r => XS.icmpYes X.here K.1 rfl rfl (hb K.2.1 hd) rfl q h1 h2 r) (hT ((own_ii_lt x y).mp q))
  · exact own_pure K (fun X _ _ _ _ r => XS.icmpNo X.here K.1 rfl (hb K.2.1 hd) rfl (Bool.eq_false_iff.mpr q) r) (hF fun z => q ((own_ii_lt x y).mpr z))
theorem own_i0_ge (x : Int32) : (ifCond.holds .ge x = true) = (0 ≤ x.toInt) := by simp [ifCond.holds, Int32.lt_iff_toInt_lt, Int32.le_iff_toInt_le]
theorem own_ii_ge (x y : Int32) : (if_icmp.holds .ge x y = true) = (y.toInt ≤ x.toInt) := by simp [if_icmp.holds, Int32.lt_iff_toInt_lt, Int32.le_iff_toInt_le]
theorem own_ifge (K : own_Cx p s m meth c Z own nm bytes maxL ret) {off : Int} {pcF : Nat} {x : Int32} (hd : own_B bytes pc (.ifCond .ge off) off pcF pcT) (hT : (0 ≤ x.toInt) → own_G w p l e R s m args below meth c Z Q h k n (mkF m pcT Ls st)) (hF : ¬ (0 ≤ x.toInt) → own_G w p l e R s m args below meth c Z Q h k n (mkF m pcF Ls st)) : own_G w p l e R s m args below meth c Z Q h k n (mkF m pc Ls (.int x :: st)) := by
  obtain ⟨hd, rfl, h1, h2⟩ := hd
  by_cases q : ifCond.holds .ge x = true
  · exact own_pure K (fun X _ _ _ _ r => XS.ifYes X.here K.1 rfl rfl (hb K.2.1 hd) rfl q h1 h2 r) (hT ((own_i0_ge x).mp q))
  · exact own_pure K (fun X _ _ _ _ r => XS.ifNo X.here K.1 rfl (hb K.2.1 hd) rfl (Bool.eq_false_iff.mpr q) r) (hF fun z => q ((own_i0_ge x).mpr z))
theorem own_icmpge (K : own_Cx p s m meth c Z own nm bytes maxL ret) {off : Int} {pcF : Nat} {x y : Int32} (hd : own_B bytes pc (.if_icmp .ge off) off pcF pcT) (hT : (y.toInt ≤ x.toInt) → own_G w p l e R s m args below meth c Z Q h k n (mkF m pcT Ls st)) (hF : ¬ (y.toInt ≤ x.toInt) → own_G w p l e R s m args below meth c Z Q h k n (mkF m pcF Ls st)) : own_G w p l e R s m args below meth c Z Q h k n (mkF m pc Ls (.int y :: .int x :: st)) := by
  obtain ⟨hd, rfl, h1, h2⟩ := hd
  by_cases q : if_icmp.holds .ge x y = true
  · exact own_pure K (fun X _ _ _ _ r => XS.icmpYes X.here K.1 rfl rfl (hb K.2.1 hd) rfl q h1 h2 r) (hT ((own_ii_ge x y).mp q))
  · exact own_pure K (fun X _ _ _ _ r => XS.icmpNo X.here K.1 rfl (hb K.2.1 hd) rfl (Bool.eq_false_iff.mpr q) r) (hF fun z => q ((own_ii_ge x y).mpr z))
theorem own_i0_gt (x : Int32) : (ifCond.holds .gt x = true) = (0 < x.toInt) := by simp [ifCond.holds, Int32.lt_iff_toInt_lt, Int32.le_iff_toInt_le]
theorem own_ii_gt (x y : Int32) : (if_icmp.holds .gt x y = true) = (y.toInt < x.toInt) := by simp [if_icmp.holds, Int32.lt_iff_toInt_lt, Int32.le_iff_toInt_le]
theorem own_ifgt (K : own_Cx p s m meth c Z own nm bytes maxL ret) {off : Int} {pcF : Nat} {x : Int32} (hd : own_B bytes pc (.ifCond .gt off) off pcF pcT) (hT : (0 < x.toInt) → own_G w p l e R s m args below meth c Z Q h k n (mkF m pcT Ls st)) (hF : ¬ (0 < x.toInt) → own_G w p l e R s m args below meth c Z Q h k n (mkF m pcF Ls st)) : own_G w p l e R s m args below meth c Z Q h k n (mkF m pc Ls (.int x :: st)) := by
  obtain ⟨hd, rfl, h1, h2⟩ := hd
  by_cases q : ifCond.holds .gt x = true
  · exact own_pure K (fun X _ _ _ _ r => XS.ifYes X.here K.1 rfl rfl (hb K.2.1 hd) rfl q h1 h2 r) (hT ((own_i0_gt x).mp q))
  · exact own_pure K (fun X _ _ _ _ r => XS.ifNo X.here K.1 rfl (hb K.2.1 hd) rfl (Bool.eq_false_iff.mpr q) r) (hF fun z => q ((own_i0_gt x).mpr z))
theorem own_icmpgt (K : own_Cx p s m meth c Z own nm bytes maxL ret) {off : Int} {pcF : Nat} {x y : Int32} (hd : own_B bytes pc (.if_icmp .gt off) off pcF pcT) (hT : (y.toInt < x.toInt) → own_G w p l e R s m args below meth c Z Q h k n (mkF m pcT Ls st)) (hF : ¬ (y.toInt < x.toInt) → own_G w p l e R s m args below meth c Z Q h k n (mkF m pcF Ls st)) : own_G w p l e R s m args below meth c Z Q h k n (mkF m pc Ls (.int y :: .int x :: st)) := by
  obtain ⟨hd, rfl, h1, h2⟩ := hd
  by_cases q : if_icmp.holds .gt x y = true
  · exact own_pure K (fun X _ _ _ _ r => XS.icmpYes X.here K.1 rfl rfl (hb K.2.1 hd) rfl q h1 h2 r) (hT ((own_ii_gt x y).mp q))
  · exact own_pure K (fun X _ _ _ _ r => XS.icmpNo X.here K.1 rfl (hb K.2.1 hd) rfl (Bool.eq_false_iff.mpr q) r) (hF fun z => q ((own_ii_gt x y).mpr z))
theorem own_i0_le (x : Int32) : (ifCond.holds .le x = true) = (x.toInt ≤ 0) := by simp [ifCond.holds, Int32.lt_iff_toInt_lt, Int32.le_iff_toInt_le]
theorem own_ii_le (x y : Int32) : (if_icmp.holds .le x y = true) = (x.toInt ≤ y.toInt) := by simp [if_icmp.holds, Int32.lt_iff_toInt_lt, Int32.le_iff_toInt_le]
theorem own_ifle (K : own_Cx p s m meth c Z own nm bytes maxL ret) {off : Int} {pcF : Nat} {x : Int32} (hd : own_B bytes pc (.ifCond .le off) off pcF pcT) (hT : (x.toInt ≤ 0) → own_G w p l e R s m args below meth c Z Q h k n (mkF m pcT Ls st)) (hF : ¬ (x.toInt ≤ 0) → own_G w p l e R s m args below meth c Z Q h k n (mkF m pcF Ls st)) : own_G w p l e R s m args below meth c Z Q h k n (mkF m pc Ls (.int x :: st)) := by
  obtain ⟨hd, rfl, h1, h2⟩ := hd
  by_cases q : ifCond.holds .le x = true
  · exact own_pure K (fun X _ _ _ _ r => XS.ifYes X.here K.1 rfl rfl (hb K.2.1 hd) rfl q h1 h2 r) (hT ((own_i0_le x).mp q))
  · exact own_pure K (fun X _ _ _ _ r => XS.ifNo X.here K.1 rfl (hb K.2.1 hd) rfl (Bool.eq_false_iff.mpr q) r) (hF fun z => q ((own_i0_le x).mpr z))
theorem own_icmple (K : own_Cx p s m meth c Z own nm bytes maxL ret) {off : Int} {pcF : Nat} {x y : Int32} (hd : own_B bytes pc (.if_icmp .le off) off pcF pcT) (hT : (x.toInt ≤ y.toInt) → own_G w p l e R s m args below meth c Z Q h k n (mkF m pcT Ls st)) (hF : ¬ (x.toInt ≤ y.toInt) → own_G w p l e R s m args below meth c Z Q h k n (mkF m pcF Ls st)) : own_G w p l e R s m args below meth c Z Q h k n (mkF m pc Ls (.int y :: .int x :: st)) := by
  obtain ⟨hd, rfl, h1, h2⟩ := hd
  by_cases q : if_icmp.holds .le x y = true
  · exact own_pure K (fun X _ _ _ _ r => XS.icmpYes X.here K.1 rfl rfl (hb K.2.1 hd) rfl q h1 h2 r) (hT ((own_ii_le x y).mp q))
  · exact own_pure K (fun X _ _ _ _ r => XS.icmpNo X.here K.1 rfl (hb K.2.1 hd) rfl (Bool.eq_false_iff.mpr q) r) (hF fun z => q ((own_ii_le x y).mpr z))
theorem own_ifnullN (K : own_Cx p s m meth c Z own nm bytes maxL ret) {off : Int} {pcF : Nat} (hd : own_B bytes pc (.ifnull off) off pcF pcT) (hr : own_G w p l e R s m args below meth c Z Q h k n (mkF m pcT Ls st)) : own_G w p l e R s m args below meth c Z Q h k n (mkF m pc Ls (.null :: st)) := by
  obtain ⟨hd, rfl, h1, h2⟩ := hd
  exact own_pure K (fun X _ _ _ _ r => XS.ifnullYes X.here K.1 rfl rfl (hb K.2.1 hd) rfl h1 h2 r) hr
theorem own_ifnullR (K : own_Cx p s m meth c Z own nm bytes maxL ret) {off : Int} {pcF : Nat} {b : Addr} (hd : own_B bytes pc (.ifnull off) off pcF pcT) (hr : own_G w p l e R s m args below meth c Z Q h k n (mkF m pcF Ls st)) : own_G w p l e R s m args below meth c Z Q h k n (mkF m pc Ls (.ref b :: st)) := by
  obtain ⟨hd, rfl, h1, h2⟩ := hd
  exact own_pure K (fun X _ _ _ _ r => XS.ifnullNo X.here K.1 rfl (hb K.2.1 hd) rfl r) hr
theorem own_ifnonnullN (K : own_Cx p s m meth c Z own nm bytes maxL ret) {off : Int} {pcF : Nat} (hd : own_B bytes pc (.ifnonnull off) off pcF pcT) (hr : own_G w p l e R s m args below meth c Z Q h k n (mkF m pcF Ls st)) : own_G w p l e R s m args below meth c Z Q h k n (mkF m pc Ls (.null :: st)) := by
  obtain ⟨hd, rfl, h1, h2⟩ := hd
  exact own_pure K (fun X _ _ _ _ r => XT.ifnonnullNo X.here K.1 rfl (hb K.2.1 hd) rfl r) hr
theorem own_ifnonnullR (K : own_Cx p s m meth c Z own nm bytes maxL ret) {off : Int} {pcF : Nat} {b : Addr} (hd : own_B bytes pc (.ifnonnull off) off pcF pcT) (hr : own_G w p l e R s m args below meth c Z Q h k n (mkF m pcT Ls st)) : own_G w p l e R s m args below meth c Z Q h k n (mkF m pc Ls (.ref b :: st)) := by
  obtain ⟨hd, rfl, h1, h2⟩ := hd
  exact own_pure K (fun X _ _ _ _ r => XT.ifnonnullYes X.here K.1 rfl rfl (hb K.2.1 hd) rfl h1 h2 r) hr
theorem own_acmpeq (K : own_Cx p s m meth c Z own nm bytes maxL ret) {off : Int} {pcF : Nat} {x y : Value} (hd : own_B bytes pc (.if_acmp .eq off) off pcF pcT) (h1' : x.isRef = true) (h2' : y.isRef = true) (hT : (x = y) → own_G w p l e R s m args below meth c Z Q h k n (mkF m pcT Ls st)) (hF : ¬ (x = y) → own_G w p l e R s m args below meth c Z Q h k n (mkF m pcF Ls st)) : own_G w p l e R s m args below meth c Z Q h k n (mkF m pc Ls (y :: x :: st)) := by
  obtain ⟨hd, rfl, h1, h2⟩ := hd
  by_cases q : x = y
  · exact own_pure K (fun X _ _ _ _ r => XT.acmpYes X.here K.1 rfl rfl (hb K.2.1 hd) rfl h1' h2' (decide_eq_true q) h1 h2 r) (hT q)
  · exact own_pure K (fun X _ _ _ _ r => XT.acmpNo X.here K.1 rfl (hb K.2.1 hd) rfl h1' h2' (decide_eq_false q) r) (hF q)
theorem own_acmpne (K : own_Cx p s m meth c Z own nm bytes maxL ret) {off : Int} {pcF : Nat} {x y : Value} (hd : own_B bytes pc (.if_acmp .ne off) off pcF pcT) (h1' : x.isRef = true) (h2' : y.isRef = true) (hT : (x ≠ y) → own_G w p l e R s m args below meth c Z Q h k n (mkF m pcT Ls st)) (hF : ¬ (x ≠ y) → own_G w p l e R s m args below meth c Z Q h k n (mkF m pcF Ls st)) : own_G w p l e R s m args below meth c Z Q h k n (mkF m pc Ls (y :: x :: st)) := by
  obtain ⟨hd, rfl, h1, h2⟩ := hd
  by_cases q : x ≠ y
  · exact own_pure K (fun X _ _ _ _ r => XT.acmpYes X.here K.1 rfl rfl (hb K.2.1 hd) rfl h1' h2' (decide_eq_true q) h1 h2 r) (hT q)
  · exact own_pure K (fun X _ _ _ _ r => XT.acmpNo X.here K.1 rfl (hb K.2.1 hd) rfl h1' h2' (decide_eq_false q) r) (hF q)
theorem own_getfield (K : own_Cx p s m meth c Z own nm bytes maxL ret) {i j q : Nat} {R0 O f d host C : String} {v : Value} {a : Addr} {fs : List (String × String × String × Value)} (hd : own_D bytes pc (.getfield i) 3 pc') (wl : (Cond.fieldLink own i R0 f d).before a0 Z = true ∨ (Cond.fieldLinkNest own i R0 f d host).before a0 Z = true) (via : Via Z R0 O f d) (H : own_H Z h os as) (ho : os[j]? = some (a, C, fs)) (hf : fs[q]? = some (O, f, d, v)) (hr : own_G w p l e R s m args below meth c Z Q h k n (mkF m pc' Ls (v :: st))) : own_G w p l e R s m args below meth c Z Q h k n (mkF m pc Ls (.ref a :: st)) := by
  obtain ⟨hd, rfl⟩ := hd
  refine own_step K (P := fun h' => h' = h) (fun X hZ hw eT N => ?_) (fun h' e => by subst e; exact hr)
  obtain ⟨T', X', e', st⟩ := getF X K.1 hZ hw wl via eT (H.fld ho hf) (g := mkF m pc Ls (.ref a :: st)) rfl rfl (hb K.2.1 hd)
  exact ⟨T', _, _, X', N, e', Nat.le_refl _, rfl, st⟩
theorem own_putfield (K : own_Cx p s m meth c Z own nm bytes maxL ret) {i j q kk : Nat} {R0 O f d host C : String} {v v0 : Value} {a : Addr} {fs : List (String × String × String × Value)} {ty : FieldType} (hd : own_D bytes pc (.putfield i) 3 pc') (wl : (Cond.fieldLink own i R0 f d).before a0 Z = true ∨ (Cond.fieldLinkNest own i R0 f d host).before a0 Z = true) (via : Via Z R0 O f d) (H : own_H Z h os as) (ho : os[j]? = some (a, C, fs)) (hf : fs[q]? = some (O, f, d, v0))
    (L : (Cond.lays C O f d).before a0 Z = true ∨ ((Cond.laysFinal C O f d).before a0 Z = true ∧ own = O ∧ nm = "<init>")) (wi : (Cond.instantiable C kk).before a0 Z = true) (hty : parseFieldDescriptor d = some ty) (hn : narrow ty v = v) (hfit : fits ty v = true) (hr : ∀ h', own_H Z h' (os.set j (a, C, fs.set q (O, f, d, v))) as → own_G w p l e R s m args below meth c Z Q h' k n (mkF m pc' Ls st)) : own_G w p l e R s m args below meth c Z Q h k n (mkF m pc Ls (v :: .ref a :: st)) := by
  obtain ⟨hd, rfl⟩ := hd
  refine own_step K (P := fun h' => own_H Z h' (os.set j (a, C, fs.set q (O, f, d, v))) as) (fun X hZ hw eT N => ?_) hr
  obtain ⟨T', h', X', e', W, st⟩ := putF X K.1 hZ hw wl via eT (H.fld ho hf) (H.atO ho) (L.imp id (fun z => ⟨z.1, z.2.1, K.2.2.2.2.2.2.2.trans z.2.2⟩)) wi hty hn hfit (g := mkF m pc Ls (v :: .ref a :: st)) rfl rfl (hb K.2.1 hd)
  exact ⟨T', h', _, X', Fr.snoc X' N (H.newO ho), e', Nat.le_of_eq (Wr.size W).symm, H.wrO ho hf W, st⟩
theorem own_new (K : own_Cx p s m meth c Z own nm bytes maxL ret) {i kk : Nat} {C : String} {fs : List (String × String × String × Value)} (hd : own_D bytes pc (.new i) 3 pc') (w1 : (Cond.classLink own i C).before a0 Z = true) (w2 : (Cond.instantiable C kk).before a0 Z = true) (w3 : (Cond.initialized C).before a0 Z = true) (H : own_H Z h os as)
    (hF : ∀ f ∈ fs, Laid Z a0 C f.1 f.2.1 f.2.2.1 ∧ ∃ ty, parseFieldDescriptor f.2.2.1 = some ty ∧ f.2.2.2 = defaultValue ty) (hP : fs.Pairwise (fun f g => slotOf Z f.1 f.2.1 f.2.2.1 ≠ slotOf Z g.1 g.2.1 g.2.2.1)) (hc : k + 1 ≤ R.cells) (hl : n + kk ≤ R.slots)
    (hr : ∀ h' a, own_H Z h' ((a, C, fs) :: os) as → own_G w p l e R s m args below meth c Z Q h' (k + 1) (n + kk) (mkF m pc' Ls (.ref a :: st))) : own_G w p l e R s m args below meth c Z Q h k n (mkF m pc Ls st) := by
  obtain ⟨hd, rfl⟩ := hd
  refine own_step K (P := fun h' => own_H Z h' ((h.size, C, fs) :: os) as) (fun X hZ hw eT N => ?_) (fun h' H' => hr h' _ H')
  obtain ⟨T', h', X', e', E, A, D, -, st⟩ := newO X K.1 hZ hw w1 w2 w3 eT (g := mkF m pc Ls st) rfl (hb K.2.1 hd) hc hl
  exact ⟨T', h', _, X', N, e', E.1, H.addO E ⟨A, fun f hf => by obtain ⟨hL, ty, t1, t2⟩ := hF f hf; show Fld Z h' h.size f.1 f.2.1 f.2.2.1 f.2.2.2; rw [t2]; exact D hL t1, hP⟩, st⟩
theorem own_newarray (K : own_Cx p s m meth c Z own nm bytes maxL ret) {aty : ArrayType} {ty : FieldType} {N : Int32} {q : Nat} {ad : String} {vs : List Value} (hd : own_D bytes pc (.newarray aty) 2 pc') (hty : newarray.typeOf aty = ty) (w1 : (Cond.arrayClass ty).before a0 Z = true) (H : own_H Z h os as) (hN : N.toInt = (q : Int)) (had : "[" ++ ty.toString = ad) (hvs : vs = List.replicate q (defaultValue ty)) (hq : q * 8 ≤ 536870912) (hc : k + 1 ≤ R.cells) (hl : n + q ≤ R.slots)
    (hr : ∀ h' a, own_H Z h' os ((a, ty, ad, vs) :: as) → own_G w p l e R s m args below meth c Z Q h' (k + 1) (n + q) (mkF m pc' Ls (.ref a :: st))) : own_G w p l e R s m args below meth c Z Q h k n (mkF m pc Ls (.int N :: st)) := by
  obtain ⟨hd, rfl⟩ := hd
  subst hty
  refine own_step K (P := fun h' => own_H Z h' os ((h.size, newarray.typeOf aty, ad, vs) :: as)) (fun X hZ hw eT N => ?_) (fun h' H' => hr h' _ H')
  have hNq := own_idx hN
  obtain ⟨T', h', cA, X', e', E, A, Ex, st⟩ := newPE X K.1 hZ w1 eT (g := mkF m pc Ls (.int _ :: st)) rfl (hb K.2.1 hd) rfl (by rw [Int32.lt_iff_toInt_lt, hN, show (0 : Int32).toInt = 0 from rfl]; omega) (cap := q) (Nat.le_of_eq hNq) hq hc hl had
  refine ⟨T', h', _, X', N, e', E.1, H.addA E ⟨_, A, ?_, ?_, fun _ => Ex, fun C hC => ?_⟩, st⟩
  · show (newA cA (newarray.typeOf aty) _).slots.toList = vs
    simp [newA, hNq, hvs]
  · intro v hv
    rw [show v = defaultValue (newarray.typeOf aty) from List.eq_of_mem_replicate (hvs ▸ hv)]
    cases aty <;> rfl
  · cases aty <;> cases hC
theorem own_iaload (K : own_Cx p s m meth c Z own nm bytes maxL ret) {i q : Nat} {a : Addr} {ad : String} {vs : List Value} {v : Value} {j : Int32} (hd : own_D bytes pc .iaload 1 pc') (H : own_H Z h os as) (ha : as[i]? = some (a, .int, ad, vs)) (hj : j.toInt = (q : Int)) (hv : vs[q]? = some v) (hr : own_G w p l e R s m args below meth c Z Q h k n (mkF m pc' Ls (v :: st))) : own_G w p l e R s m args below meth c Z Q h k n (mkF m pc Ls (.int j :: .ref a :: st)) := by
  obtain ⟨hd, rfl⟩ := hd
  obtain ⟨-, cl, A, e1, -⟩ := H.2.2.1 _ (own_mem ha)
  have hq := (List.getElem?_eq_some_iff.mp hv).1
  have hsz : cl.slots.size = vs.length := by rw [← Array.length_toList]; exact congrArg List.length e1
  exact own_pure K (fun X hZ _ eT _ r => X.iaload K.1 (by rw [eT]; exact A.1) (State.isArrayOf_alike hZ.alike A.2.1) A.2.2 (by rw [hsz]; exact own_in hj hq) (by rw [own_idx hj, ← Array.getElem?_toList]; exact (show cl.slots.toList = vs from e1) ▸ hv) (g := mkF m pc Ls (.int j :: .ref a :: st)) rfl rfl (hb K.2.1 hd) _ r) hr
theorem own_laload (K : own_Cx p s m meth c Z own nm bytes maxL ret) {i q : Nat} {a : Addr} {ad : String} {vs : List Value} {v : Value} {j : Int32} (hd : own_D bytes pc .laload 1 pc') (H : own_H Z h os as) (ha : as[i]? = some (a, .long, ad, vs)) (hj : j.toInt = (q : Int)) (hv : vs[q]? = some v) (hr : own_G w p l e R s m args below meth c Z Q h k n (mkF m pc' Ls (v :: st))) : own_G w p l e R s m args below meth c Z Q h k n (mkF m pc Ls (.int j :: .ref a :: st)) := by
  obtain ⟨hd, rfl⟩ := hd
  obtain ⟨-, cl, A, e1, -⟩ := H.2.2.1 _ (own_mem ha)
  have hq := (List.getElem?_eq_some_iff.mp hv).1
  have hsz : cl.slots.size = vs.length := by rw [← Array.length_toList]; exact congrArg List.length e1
  exact own_pure K (fun X hZ _ eT _ r => X.laload K.1 (by rw [eT]; exact A.1) (State.isArrayOf_alike hZ.alike A.2.1) A.2.2 (by rw [hsz]; exact own_in hj hq) (by rw [own_idx hj, ← Array.getElem?_toList]; exact (show cl.slots.toList = vs from e1) ▸ hv) (g := mkF m pc Ls (.int j :: .ref a :: st)) rfl rfl (hb K.2.1 hd) _ r) hr
theorem own_daload (K : own_Cx p s m meth c Z own nm bytes maxL ret) {i q : Nat} {a : Addr} {ad : String} {vs : List Value} {v : Value} {j : Int32} (hd : own_D bytes pc .daload 1 pc') (H : own_H Z h os as) (ha : as[i]? = some (a, .double, ad, vs)) (hj : j.toInt = (q : Int)) (hv : vs[q]? = some v) (hr : own_G w p l e R s m args below meth c Z Q h k n (mkF m pc' Ls (v :: st))) : own_G w p l e R s m args below meth c Z Q h k n (mkF m pc Ls (.int j :: .ref a :: st)) := by
  obtain ⟨hd, rfl⟩ := hd
  obtain ⟨-, cl, A, e1, -⟩ := H.2.2.1 _ (own_mem ha)
  have hq := (List.getElem?_eq_some_iff.mp hv).1
  have hsz : cl.slots.size = vs.length := by rw [← Array.length_toList]; exact congrArg List.length e1
  exact own_pure K (fun X hZ _ eT _ r => X.daload K.1 (by rw [eT]; exact A.1) (State.isArrayOf_alike hZ.alike A.2.1) A.2.2 (by rw [hsz]; exact own_in hj hq) (by rw [own_idx hj, ← Array.getElem?_toList]; exact (show cl.slots.toList = vs from e1) ▸ hv) (g := mkF m pc Ls (.int j :: .ref a :: st)) rfl rfl (hb K.2.1 hd) _ r) hr
theorem own_caload (K : own_Cx p s m meth c Z own nm bytes maxL ret) {i q : Nat} {a : Addr} {ad : String} {vs : List Value} {v : Value} {j : Int32} (hd : own_D bytes pc .caload 1 pc') (H : own_H Z h os as) (ha : as[i]? = some (a, .char, ad, vs)) (hj : j.toInt = (q : Int)) (hv : vs[q]? = some v) (hr : own_G w p l e R s m args below meth c Z Q h k n (mkF m pc' Ls (v :: st))) : own_G w p l e R s m args below meth c Z Q h k n (mkF m pc Ls (.int j :: .ref a :: st)) := by
  obtain ⟨hd, rfl⟩ := hd
  obtain ⟨-, cl, A, e1, -⟩ := H.2.2.1 _ (own_mem ha)
  have hq := (List.getElem?_eq_some_iff.mp hv).1
  have hsz : cl.slots.size = vs.length := by rw [← Array.length_toList]; exact congrArg List.length e1
  exact own_pure K (fun X hZ _ eT _ r => X.caload K.1 (by rw [eT]; exact A.1) (State.isArrayOf_alike hZ.alike A.2.1) A.2.2 (by rw [hsz]; exact own_in hj hq) (by rw [own_idx hj, ← Array.getElem?_toList]; exact (show cl.slots.toList = vs from e1) ▸ hv) (g := mkF m pc Ls (.int j :: .ref a :: st)) rfl rfl (hb K.2.1 hd) _ r) hr
theorem own_baload (K : own_Cx p s m meth c Z own nm bytes maxL ret) {i q : Nat} {a : Addr} {ad : String} {vs : List Value} {v : Value} {j : Int32} (hd : own_D bytes pc .baload 1 pc') (H : own_H Z h os as) (ha : as[i]? = some (a, .byte, ad, vs)) (hj : j.toInt = (q : Int)) (hv : vs[q]? = some v) (hr : own_G w p l e R s m args below meth c Z Q h k n (mkF m pc' Ls (v :: st))) : own_G w p l e R s m args below meth c Z Q h k n (mkF m pc Ls (.int j :: .ref a :: st)) := by
  obtain ⟨hd, rfl⟩ := hd
  obtain ⟨-, cl, A, e1, -⟩ := H.2.2.1 _ (own_mem ha)
  have hq := (List.getElem?_eq_some_iff.mp hv).1
  have hsz : cl.slots.size = vs.length := by rw [← Array.length_toList]; exact congrArg List.length e1
  exact own_pure K (fun X hZ _ eT _ r => X.baloadBytes K.1 (by rw [eT]; exact A.1) (State.isArrayOf_alike hZ.alike A.2.1) A.2.2 (by rw [hsz]; exact own_in hj hq) (by rw [own_idx hj, ← Array.getElem?_toList]; exact (show cl.slots.toList = vs from e1) ▸ hv) (g := mkF m pc Ls (.int j :: .ref a :: st)) rfl rfl (hb K.2.1 hd) _ r) hr
theorem own_aaload (K : own_Cx p s m meth c Z own nm bytes maxL ret) {i q : Nat} {a : Addr} {ad : String} {ty : FieldType} {vs : List Value} {v : Value} {j : Int32} (hd : own_D bytes pc .aaload 1 pc') (H : own_H Z h os as) (ha : as[i]? = some (a, ty, ad, vs)) (hty : ty.isReference = true) (hj : j.toInt = (q : Int)) (hv : vs[q]? = some v) (hr : own_G w p l e R s m args below meth c Z Q h k n (mkF m pc' Ls (v :: st))) : own_G w p l e R s m args below meth c Z Q h k n (mkF m pc Ls (.int j :: .ref a :: st)) := by
  obtain ⟨hd, rfl⟩ := hd
  obtain ⟨-, cl, A, e1, -⟩ := H.2.2.1 _ (own_mem ha)
  have hq := (List.getElem?_eq_some_iff.mp hv).1
  have hsz : cl.slots.size = vs.length := by rw [← Array.length_toList]; exact congrArg List.length e1
  exact own_pure K (fun X hZ _ eT _ r => X.aaload K.1 (by rw [eT]; exact A.1) (State.isArrayOf_alike hZ.alike A.2.1) hty A.2.2 (by rw [hsz]; exact own_in hj hq) (by rw [own_idx hj, ← Array.getElem?_toList]; exact (show cl.slots.toList = vs from e1) ▸ hv) (g := mkF m pc Ls (.int j :: .ref a :: st)) rfl rfl (hb K.2.1 hd) _ r) hr
theorem own_iastore (K : own_Cx p s m meth c Z own nm bytes maxL ret) {i q : Nat} {a : Addr} {ad : String} {vs : List Value} {j : Int32} {x : Int32} (hd : own_D bytes pc .iastore 1 pc') (H : own_H Z h os as) (ha : as[i]? = some (a, .int, ad, vs)) (hj : j.toInt = (q : Int)) (hq : q < vs.length) (hr : ∀ h', own_H Z h' os (as.set i (a, .int, ad, vs.set q (.int x))) → own_G w p l e R s m args below meth c Z Q h' k n (mkF m pc' Ls st)) : own_G w p l e R s m args below meth c Z Q h k n (mkF m pc Ls (.int x :: .int j :: .ref a :: st)) := by
  obtain ⟨hd, rfl⟩ := hd
  obtain ⟨na, cl, A, e1, -⟩ := H.2.2.1 _ (own_mem ha)
  have hsz : cl.slots.size = vs.length := by rw [← Array.length_toList]; exact congrArg List.length e1
  refine own_step K (P := fun h' => own_H Z h' os (as.set i (a, .int, ad, vs.set q (.int x)))) (fun X hZ _ eT N => ?_) hr
  obtain ⟨T', h', X', e', W, st⟩ := stI X K.1 hZ eT A (by rw [hsz]; exact own_in hj hq) (g := mkF m pc Ls (.int x :: .int j :: .ref a :: st)) rfl rfl (hb K.2.1 hd)
  exact ⟨T', h', _, X', Fr.snoc X' N na, e', Nat.le_of_eq (Wr.size W).symm, H.wrA ha hq (rfl) (by rw [own_idx hj] at W; exact W), st⟩
theorem own_lastore (K : own_Cx p s m meth c Z own nm bytes maxL ret) {i q : Nat} {a : Addr} {ad : String} {vs : List Value} {j : Int32} {x : Int64} (hd : own_D bytes pc .lastore 1 pc') (H : own_H Z h os as) (ha : as[i]? = some (a, .long, ad, vs)) (hj : j.toInt = (q : Int)) (hq : q < vs.length) (hr : ∀ h', own_H Z h' os (as.set i (a, .long, ad, vs.set q (.long x))) → own_G w p l e R s m args below meth c Z Q h' k n (mkF m pc' Ls st)) : own_G w p l e R s m args below meth c Z Q h k n (mkF m pc Ls (.long x :: .int j :: .ref a :: st)) := by
  obtain ⟨hd, rfl⟩ := hd
  obtain ⟨na, cl, A, e1, -⟩ := H.2.2.1 _ (own_mem ha)
  have hsz : cl.slots.size = vs.length := by rw [← Array.length_toList]; exact congrArg List.length e1
  refine own_step K (P := fun h' => own_H Z h' os (as.set i (a, .long, ad, vs.set q (.long x)))) (fun X hZ _ eT N => ?_) hr
  obtain ⟨T', h', X', e', W, st⟩ := stJ X K.1 hZ eT A (by rw [hsz]; exact own_in hj hq) (g := mkF m pc Ls (.long x :: .int j :: .ref a :: st)) rfl rfl (hb K.2.1 hd)
  exact ⟨T', h', _, X', Fr.snoc X' N na, e', Nat.le_of_eq (Wr.size W).symm, H.wrA ha hq (rfl) (by rw [own_idx hj] at W; exact W), st⟩
theorem own_dastore (K : own_Cx p s m meth c Z own nm bytes maxL ret) {i q : Nat} {a : Addr} {ad : String} {vs : List Value} {j : Int32} {x : UInt64} (hd : own_D bytes pc .dastore 1 pc') (H : own_H Z h os as) (ha : as[i]? = some (a, .double, ad, vs)) (hj : j.toInt = (q : Int)) (hq : q < vs.length) (hr : ∀ h', own_H Z h' os (as.set i (a, .double, ad, vs.set q (.double x))) → own_G w p l e R s m args below meth c Z Q h' k n (mkF m pc' Ls st)) : own_G w p l e R s m args below meth c Z Q h k n (mkF m pc Ls (.double x :: .int j :: .ref a :: st)) := by
  obtain ⟨hd, rfl⟩ := hd
  obtain ⟨na, cl, A, e1, -⟩ := H.2.2.1 _ (own_mem ha)
  have hsz : cl.slots.size = vs.length := by rw [← Array.length_toList]; exact congrArg List.length e1
  refine own_step K (P := fun h' => own_H Z h' os (as.set i (a, .double, ad, vs.set q (.double x)))) (fun X hZ _ eT N => ?_) hr
  obtain ⟨T', h', X', e', W, st⟩ := stD X K.1 hZ eT A (by rw [hsz]; exact own_in hj hq) (g := mkF m pc Ls (.double x :: .int j :: .ref a :: st)) rfl rfl (hb K.2.1 hd)
  exact ⟨T', h', _, X', Fr.snoc X' N na, e', Nat.le_of_eq (Wr.size W).symm, H.wrA ha hq (rfl) (by rw [own_idx hj] at W; exact W), st⟩
theorem own_castore (K : own_Cx p s m meth c Z own nm bytes maxL ret) {i q : Nat} {a : Addr} {ad : String} {vs : List Value} {j : Int32} {x : Int32} (hd : own_D bytes pc .castore 1 pc') (H : own_H Z h os as) (ha : as[i]? = some (a, .char, ad, vs)) (hj : j.toInt = (q : Int)) (hq : q < vs.length) (hr : ∀ h', own_H Z h' os (as.set i (a, .char, ad, vs.set q (.int (nar .char x)))) → own_G w p l e R s m args below meth c Z Q h' k n (mkF m pc' Ls st)) : own_G w p l e R s m args below meth c Z Q h k n (mkF m pc Ls (.int x :: .int j :: .ref a :: st)) := by
  obtain ⟨hd, rfl⟩ := hd
  obtain ⟨na, cl, A, e1, -⟩ := H.2.2.1 _ (own_mem ha)
  have hsz : cl.slots.size = vs.length := by rw [← Array.length_toList]; exact congrArg List.length e1
  refine own_step K (P := fun h' => own_H Z h' os (as.set i (a, .char, ad, vs.set q (.int (nar .char x))))) (fun X hZ _ eT N => ?_) hr
  obtain ⟨T', h', X', e', W, st⟩ := stC X K.1 hZ eT A (by rw [hsz]; exact own_in hj hq) (g := mkF m pc Ls (.int x :: .int j :: .ref a :: st)) rfl rfl (hb K.2.1 hd)
  exact ⟨T', h', _, X', Fr.snoc X' N na, e', Nat.le_of_eq (Wr.size W).symm, H.wrA ha hq (by first | exact fits_nar_char _ | exact fits_nar_char | (simp [fits_nar_char]; done)) (by rw [own_idx hj] at W; exact W), st⟩
theorem own_bastore (K : own_Cx p s m meth c Z own nm bytes maxL ret) {i q : Nat} {a : Addr} {ad : String} {vs : List Value} {j : Int32} {x : Int32} (hd : own_D bytes pc .bastore 1 pc') (H : own_H Z h os as) (ha : as[i]? = some (a, .byte, ad, vs)) (hj : j.toInt = (q : Int)) (hq : q < vs.length) (hr : ∀ h', own_H Z h' os (as.set i (a, .byte, ad, vs.set q (.int (nar .byte x)))) → own_G w p l e R s m args below meth c Z Q h' k n (mkF m pc' Ls st)) : own_G w p l e R s m args below meth c Z Q h k n (mkF m pc Ls (.int x :: .int j :: .ref a :: st)) := by
  obtain ⟨hd, rfl⟩ := hd
  obtain ⟨na, cl, A, e1, -⟩ := H.2.2.1 _ (own_mem ha)
  have hsz : cl.slots.size = vs.length := by rw [← Array.length_toList]; exact congrArg List.length e1
  refine own_step K (P := fun h' => own_H Z h' os (as.set i (a, .byte, ad, vs.set q (.int (nar .byte x))))) (fun X hZ _ eT N => ?_) hr
  obtain ⟨T', h', X', e', W, st⟩ := stB X K.1 hZ eT A (by rw [hsz]; exact own_in hj hq) (g := mkF m pc Ls (.int x :: .int j :: .ref a :: st)) rfl rfl (hb K.2.1 hd)
  exact ⟨T', h', _, X', Fr.snoc X' N na, e', Nat.le_of_eq (Wr.size W).symm, H.wrA ha hq (by first | exact fits_nar_byte _ | exact fits_nar_byte | (simp [fits_nar_byte]; done)) (by rw [own_idx hj] at W; exact W), st⟩
theorem own_arraylength (K : own_Cx p s m meth c Z own nm bytes maxL ret) {i : Nat} {a : Addr} {ad : String} {ty : FieldType} {vs : List Value} {N : Int32} (hd : own_D bytes pc .arraylength 1 pc') (H : own_H Z h os as) (ha : as[i]? = some (a, ty, ad, vs)) (hN : N.toInt = (vs.length : Int)) (hr : own_G w p l e R s m args below meth c Z Q h k n (mkF m pc' Ls (.int N :: st))) : own_G w p l e R s m args below meth c Z Q h k n (mkF m pc Ls (.ref a :: st)) := by
  obtain ⟨hd, rfl⟩ := hd
  obtain ⟨-, cl, A, e1, -⟩ := H.2.2.1 _ (own_mem ha)
  have hsz : cl.slots.size = vs.length := by rw [← Array.length_toList]; exact congrArg List.length e1
  have e2 : cl.slots.size.toInt32 = N := by rw [hsz]; exact own_len hN
  exact own_pure K (fun X hZ _ eT _ r => X.arraylength K.1 (by rw [eT]; exact A.1) (State.isArrayOf_alike hZ.alike A.2.1) (g := mkF m pc Ls (.ref a :: st)) rfl rfl (hb K.2.1 hd) _ (by rw [e2]; exact r)) hr
theorem own_checkcast (K : own_Cx p s m meth c Z own nm bytes maxL ret) {i : Nat} {a : Addr} {Kn : String} (hd : own_D bytes pc (.checkcast i) 3 pc') (w1 : (Cond.classLink own i Kn).before a0 Z = true) (I : Ins Z h a Kn true) (hr : own_G w p l e R s m args below meth c Z Q h k n (mkF m pc' Ls (.ref a :: st))) : own_G w p l e R s m args below meth c Z Q h k n (mkF m pc Ls (.ref a :: st)) := by
  obtain ⟨hd, rfl⟩ := hd
  refine own_step K (P := fun h' => h' = h) (fun X hZ hw eT N => ?_) (fun h' e => by subst e; exact hr)
  obtain ⟨T', X', e', st⟩ := castY X K.1 hZ hw w1 eT I (g := mkF m pc Ls (.ref a :: st)) rfl rfl (hb K.2.1 hd)
  exact ⟨T', _, _, X', N, e', Nat.le_refl _, rfl, st⟩
theorem own_H.exaA (H : own_H Z h os as) {i : Nat} {a : Addr} {ty : FieldType} {ad : String} {vs : List Value} (ha : as[i]? = some (a, ty, ad, vs)) (hn : ad ≠ "") : Exa Z h a ad := by
  obtain ⟨-, cl, -, -, -, h4, -⟩ := H.2.2.1 _ (own_mem ha); exact h4 hn
theorem own_clone (K : own_Cx p s m meth c Z own nm bytes maxL ret) {i j : Nat} {a : Addr} {ty : FieldType} {ad : String} {vs : List Value} (hd : own_D bytes pc (.invokevirtual i) 3 pc') (w1 : (Cond.methodLink own i ⟨ad, "clone", "()Ljava/lang/Object;"⟩).before a0 Z = true) (w2 : (Cond.sameMethod ad "java/lang/Object" "clone" "()Ljava/lang/Object;").before a0 Z = true) (w3 : (Cond.native ⟨"java/lang/Object", "clone", "()Ljava/lang/Object;"⟩).before a0 Z = true)
    (w4 : (Cond.instanceMethod ⟨"java/lang/Object", "clone", "()Ljava/lang/Object;"⟩).before a0 Z = true) (w5 : (Cond.selects ad ⟨ad, "clone", "()Ljava/lang/Object;"⟩ ⟨"java/lang/Object", "clone", "()Ljava/lang/Object;"⟩).before a0 Z = true) (w6 : (Cond.castable ad "java/lang/Cloneable").before a0 Z = true)
    (H : own_H Z h os as) (ha : as[j]? = some (a, ty, ad, vs)) (hn : ad ≠ "") (hsz : Ls.size = maxL) (hf : 1 ≤ R.frames) {W : Nat} (hW : (st.map fun v => v.category).sum ≤ W) (hl : W + 14 ≤ R.locals) (hc : k + 1 ≤ R.cells) (hsl : n + vs.length ≤ R.slots)
    (hr : ∀ h' b, own_H Z h' os ((b, ty, ad, vs) :: as) → own_G w p l e R s m args below meth c Z Q h' (k + 1) (n + vs.length) (mkF m pc' Ls (.ref b :: st))) : own_G w p l e R s m args below meth c Z Q h k n (mkF m pc Ls (.ref a :: st)) := by
  obtain ⟨hd, rfl⟩ := hd
  obtain ⟨-, cl, A, e1, e3, e4, e5⟩ := H.2.2.1 _ (own_mem ha)
  have hsz' : cl.slots.size = vs.length := by rw [← Array.length_toList]; exact congrArg List.length e1
  have F : FitC Z cl := fun i v hv => by
    obtain ⟨hs, k, hk, comp, hkind⟩ := A.2.1
    have hm : v ∈ vs := by
      have : cl.slots.toList[i]? = some v := by rw [Array.getElem?_toList]; exact hv
      exact (show cl.slots.toList = vs from e1) ▸ own_mem this
    simp [State.fitsSlot, State.slotType?, hk, hkind, show fits ty v = true from e3 v hm]
  refine own_step K (P := fun h' => own_H Z h' os ((h.size, ty, ad, vs) :: as)) (fun X hZ hw eT N => ?_) (fun h' H' => hr h' _ H')
  obtain ⟨T', h', X', e', E, A', Ex, st⟩ := cloneA X K.1 hZ hw w1 w2 w3 w4 w5 w6 eT A (e4 hn) F (g := mkF m pc Ls (.ref a :: st)) rfl (hsz.trans K.2.2.1.symm) rfl (hb K.2.1 hd) hf (W := W) (by show 2 * 0 + _ ≤ W; simpa using hW) hl (cap := vs.length) (Nat.le_of_eq hsz') hc hsl
  exact ⟨T', h', _, X', N, e', E.1, H.addA E ⟨_, A', e1, e3, fun _ => Ex, e5⟩, st⟩
theorem own_initO (K : own_Cx p s m meth c Z own nm bytes maxL ret) {i : Nat} {a : Addr} (hd : own_D bytes pc (.invokespecial i) 3 pc') (w1 : (Cond.methodLink own i Lib.objectInit).before a0 Z = true) (w2 : (Cond.instanceMethod Lib.objectInit).before a0 Z = true) (w3 : (Cond.code Lib.objectInit ⟨#[0xb1]⟩ 1 none).before a0 Z = true) (hsz : Ls.size = maxL) (hf : 1 ≤ R.frames) {W : Nat} (hW : (st.map fun v => v.category).sum ≤ W) (hl : W + 12 ≤ R.locals) (hr : own_G w p l e R s m args below meth c Z Q h k n (mkF m pc' Ls st)) : own_G w p l e R s m args below meth c Z Q h k n (mkF m pc Ls (.ref a :: st)) := by
  obtain ⟨hd, rfl⟩ := hd
  refine own_step K (P := fun h' => h' = h) (fun X hZ hw eT N => ?_) (fun h' e => by subst e; exact hr)
  obtain ⟨T', X', e', st⟩ := initO X K.1 hZ hw w1 w2 w3 eT (g := mkF m pc Ls (.ref a :: st)) rfl (hsz.trans K.2.2.1.symm) rfl (hb K.2.1 hd) hf (W := W) (by show 2 * 0 + _ ≤ W; simpa using hW) hl
  exact ⟨T', _, _, X', N, e', Nat.le_refl _, rfl, st⟩
theorem own_static (K : own_Cx p s m meth c Z own nm bytes maxL ret) {i ml W : Nat} {y : MethodName} {b : ByteArray} {rt : Option FieldType} {rm : Room} {argsL : List Value} {Qc : Option Value → Heap → Prop} {ps : List FieldType} {r : Option FieldType} (hd : own_D bytes pc (.invokestatic i) 3 pc') (w1 : (Cond.methodLink own i y).before a0 Z = true) (w2 : (Cond.static y).before a0 Z = true) (w3 : (Cond.initialized y.cls).before a0 Z = true) (w4 : (Cond.code y b ml rt).before a0 Z = true)
    (hM : own_Met false l Z y b ml rt [] rm argsL.toArray h Qc) (hp : parseMethodDescriptor y.desc = some ⟨ps, r⟩) (hlen : argsL.length = ps.length) (hst : st = argsL.reverse ++ rest) (hsz : Ls.size = maxL) (hy : y.cls ≠ "java/lang/invoke/MethodHandle" ∧ y.cls ≠ "java/lang/invoke/VarHandle") (hW : (rest.map fun v => v.category).sum ≤ W) (hf : rm.frames + 1 ≤ R.frames) (hl : W + (ml + 11) + rm.locals ≤ R.locals) (hc : k + rm.cells ≤ R.cells) (hs : n + rm.slots ≤ R.slots)
    (hr : ∀ v h', Qc v h' → own_G w p l e R s m args below meth c Z Q h' (k + rm.cells) (n + rm.slots) (mkF m (pc') Ls (v.toList ++ rest))) : own_G w p l e R s m args below meth c Z Q h k n (mkF m pc Ls st) := by
  obtain ⟨hd, rfl⟩ := hd
  intro T hX
  obtain ⟨L, vm, X, N, eT, hw, hS⟩ := hX
  have hZ := own_zw K.2.2.2.2.2.1 hS
  have hown : (s.setVm vm).vm.findClass own = some m.cls := by rw [show (s.setVm vm).vm = vm from rfl, hS.1.alike.findClass]; exact K.2.2.2.2.2.2.1
  obtain ⟨v, vm1, ⟨T1, L1, k1, n1⟩, -, X1, ⟨Lc, ⟨hQ, N1, z1⟩, l1, y1, x1⟩, st1⟩ := Jvm.LawKit.callS X K.1 (y := y) hown (mvT hZ w1) (mvT hZ w2) (mvT hZ w3) (mvT hZ w4) hy (backOf (W := W) (Q := fun v h'' L => Qc v h'' ∧ Fr Z.heap.size L ∧ h.size ≤ h''.size) (show MetFree _ _ _ _ _ _ from hM) hZ w4 w3 hf hl) (g := mkF m pc Ls st) rfl (hsz.trans K.2.2.1.symm) (argsL := argsL) (rest := rest) (lenOf hp hlen) hst (by show 2 * 0 + _ ≤ W; simpa using hW) (hb K.2.1 hd) (fun _ _ => ⟨rfl, eT, hc, hs⟩)
  dsimp only [Pt.U, Pt.locs, Pt.cells, Pt.slots] at X1 l1 y1 x1 st1 hQ z1
  subst l1 y1 x1
  obtain ⟨T', v', h', k', n', hX', r1, r2, r3, r4, r5⟩ := hr v T1.heap hQ T1 ⟨_, vm, X1, N.app N1, rfl, hw, own_since hS z1⟩
  exact ⟨T', v', h', k', n', hX', r1, r2, r3, r4, fun fs q => st1 _ (r5 fs q)⟩
theorem own_special (K : own_Cx p s m meth c Z own nm bytes maxL ret) {i ml W : Nat} {y : MethodName} {b : ByteArray} {rm : Room} {a : Addr} {argsL : List Value} {Qc : Option Value → Heap → Prop} {ps : List FieldType} {r : Option FieldType} (hd : own_D bytes pc (.invokespecial i) 3 pc') (hy1 : y.name = "<init>") (w1 : (Cond.methodLink own i y).before a0 Z = true) (w2 : (Cond.instanceMethod y).before a0 Z = true) (w3 : (Cond.initialized y.cls).before a0 Z = true) (w4 : (Cond.code y b ml none).before a0 Z = true)
    (hM : own_Met false l Z y b ml none [] rm (.ref a :: argsL).toArray h Qc) (hp : parseMethodDescriptor y.desc = some ⟨ps, r⟩) (hlen : argsL.length = ps.length) (hst : st = argsL.reverse ++ .ref a :: rest) (hsz : Ls.size = maxL) (hy : y.cls ≠ "java/lang/invoke/MethodHandle" ∧ y.cls ≠ "java/lang/invoke/VarHandle") (hW : (rest.map fun v => v.category).sum ≤ W) (hf : rm.frames + 1 ≤ R.frames) (hl : W + (ml + 11) + rm.locals ≤ R.locals) (hc : k + rm.cells ≤ R.cells) (hs : n + rm.slots ≤ R.slots)
    (hr : ∀ v h', Qc v h' → own_G w p l e R s m args below meth c Z Q h' (k + rm.cells) (n + rm.slots) (mkF m (pc') Ls (v.toList ++ rest))) : own_G w p l e R s m args below meth c Z Q h k n (mkF m pc Ls st) := by
  obtain ⟨hd, rfl⟩ := hd
  intro T hX
  obtain ⟨L, vm, X, N, eT, hw, hS⟩ := hX
  have hZ := own_zw K.2.2.2.2.2.1 hS
  have hown : (s.setVm vm).vm.findClass own = some m.cls := by rw [show (s.setVm vm).vm = vm from rfl, hS.1.alike.findClass]; exact K.2.2.2.2.2.2.1
  obtain ⟨v, vm1, ⟨T1, L1, k1, n1⟩, -, X1, ⟨Lc, ⟨hQ, N1, z1⟩, l1, y1, x1⟩, st1⟩ := X.specialBack K.1 (y := y) hy1 hown (mvT hZ w1) (mvT hZ w2) (mvT hZ w4) hy (backOf (W := W) (Q := fun v h'' L => Qc v h'' ∧ Fr Z.heap.size L ∧ h.size ≤ h''.size) (show MetFree _ _ _ _ _ _ from hM) hZ w4 w3 hf hl) (g := mkF m pc Ls st) rfl (hsz.trans K.2.2.1.symm) (Steps.refl _) (a := a) (argsL := argsL) (rest := rest) (lenOf hp hlen) hst (by show 2 * 0 + _ ≤ W; simpa using hW) (hb K.2.1 hd) (fun _ _ => ⟨rfl, eT, hc, hs⟩)
  dsimp only [Pt.U, Pt.locs, Pt.cells, Pt.slots] at X1 l1 y1 x1 st1 hQ z1
  subst l1 y1 x1
  obtain ⟨T', v', h', k', n', hX', r1, r2, r3, r4, r5⟩ := hr v T1.heap hQ T1 ⟨_, vm, X1, N.app N1, rfl, hw, own_since hS z1⟩
  exact ⟨T', v', h', k', n', hX', r1, r2, r3, r4, fun fs q => st1.trans (r5 fs q)⟩
theorem own_virtual (K : own_Cx p s m meth c Z own nm bytes maxL ret) {i ml W : Nat} {y : MethodName} {C : String} {b : ByteArray} {rt : Option FieldType} {rm : Room} {a : Addr} {argsL : List Value} {Qc : Option Value → Heap → Prop} {ps : List FieldType} {r : Option FieldType} (hd : own_D bytes pc (.invokevirtual i) 3 pc') (w1 : (Cond.methodLink own i y).before a0 Z = true) (w2 : (Cond.declares y).before a0 Z = true) (w5 : (Cond.selects C y y).before a0 Z = true) (w6 : (Cond.instanceMethod y).before a0 Z = true) (w3 : (Cond.initialized y.cls).before a0 Z = true) (w4 : (Cond.code y b ml rt).before a0 Z = true)
    (E : Exa Z h a C) (hM : own_Met false l Z y b ml rt [] rm (.ref a :: argsL).toArray h Qc) (hp : parseMethodDescriptor y.desc = some ⟨ps, r⟩) (hlen : argsL.length = ps.length) (hst : st = argsL.reverse ++ .ref a :: rest) (hsz : Ls.size = maxL) (hy : y.cls ≠ "java/lang/invoke/MethodHandle" ∧ y.cls ≠ "java/lang/invoke/VarHandle") (hW : (rest.map fun v => v.category).sum ≤ W) (hf : rm.frames + 1 ≤ R.frames) (hl : W + (ml + 11) + rm.locals ≤ R.locals) (hc : k + rm.cells ≤ R.cells) (hs : n + rm.slots ≤ R.slots)
    (hr : ∀ v h', Qc v h' → own_G w p l e R s m args below meth c Z Q h' (k + rm.cells) (n + rm.slots) (mkF m (pc') Ls (v.toList ++ rest))) : own_G w p l e R s m args below meth c Z Q h k n (mkF m pc Ls st) := by
  obtain ⟨hd, rfl⟩ := hd
  intro T hX
  obtain ⟨L, vm, X, N, eT, hw, hS⟩ := hX
  have hZ := own_zw K.2.2.2.2.2.1 hS
  have hown : (s.setVm vm).vm.findClass own = some m.cls := by rw [show (s.setVm vm).vm = vm from rfl, hS.1.alike.findClass]; exact K.2.2.2.2.2.2.1
  obtain ⟨cq, kq, qa, qb, qc⟩ := isOf (s := s.setVm vm) hZ eT E
  obtain ⟨v, vm1, ⟨T1, L1, k1, n1⟩, -, X1, ⟨Lc, ⟨hQ, N1, z1⟩, l1, y1, x1⟩, st1⟩ := X.virtualBack K.1 (y := y) (z := y) hown (mvT hZ w1) (mvT hZ w2) (notFace_of_selects (C := C) (args := #[]) (mvT hZ w5)) (mvT hZ w5) (mvT hZ w6) hy (backOf (W := W) (Q := fun v h'' L => Qc v h'' ∧ Fr Z.heap.size L ∧ h.size ≤ h''.size) (show MetFree _ _ _ _ _ _ from hM) hZ w4 w3 hf hl) qa qc (g := mkF m pc Ls st) rfl (hsz.trans K.2.2.1.symm) (Steps.refl _) (argsL := argsL) (rest := rest) (lenOf hp hlen) hst (by show 2 * 0 + _ ≤ W; simpa using hW) (hb K.2.1 hd) (fun _ _ => ⟨rfl, eT, hc, hs⟩)
  dsimp only [Pt.U, Pt.locs, Pt.cells, Pt.slots] at X1 l1 y1 x1 st1 hQ z1
  subst l1 y1 x1
  obtain ⟨T', v', h', k', n', hX', r1, r2, r3, r4, r5⟩ := hr v T1.heap hQ T1 ⟨_, vm, X1, N.app N1, rfl, hw, own_since hS z1⟩
  exact ⟨T', v', h', k', n', hX', r1, r2, r3, r4, fun fs q => st1.trans (r5 fs q)⟩
theorem own_virtualZ (K : own_Cx p s m meth c Z own nm bytes maxL ret) {i ml W : Nat} {y z : MethodName} {C : String} {b : ByteArray} {rt : Option FieldType} {rm : Room} {a : Addr} {argsL : List Value} {Qc : Option Value → Heap → Prop} {ps : List FieldType} {r : Option FieldType} (hd : own_D bytes pc (.invokevirtual i) 3 pc') (w1 : (Cond.methodLink own i y).before a0 Z = true) (w2 : (Cond.declares y).before a0 Z = true) (w5 : (Cond.selects C y z).before a0 Z = true) (w6 : (Cond.instanceMethod z).before a0 Z = true) (w3 : (Cond.initialized z.cls).before a0 Z = true) (w4 : (Cond.code z b ml rt).before a0 Z = true)
    (E : Exa Z h a C) (hnf : ∀ vm, s.Warmed39 vm → NotFace (s.setVm vm) y) (hM : own_Met false l Z z b ml rt [] rm (.ref a :: argsL).toArray h Qc) (hp : parseMethodDescriptor y.desc = some ⟨ps, r⟩) (hlen : argsL.length = ps.length) (hst : st = argsL.reverse ++ .ref a :: rest) (hsz : Ls.size = maxL) (hy : y.cls ≠ "java/lang/invoke/MethodHandle" ∧ y.cls ≠ "java/lang/invoke/VarHandle") (hW : (rest.map fun v => v.category).sum ≤ W) (hf : rm.frames + 1 ≤ R.frames) (hl : W + (ml + 11) + rm.locals ≤ R.locals) (hc : k + rm.cells ≤ R.cells) (hs : n + rm.slots ≤ R.slots)
    (hr : ∀ v h', Qc v h' → own_G w p l e R s m args below meth c Z Q h' (k + rm.cells) (n + rm.slots) (mkF m (pc') Ls (v.toList ++ rest))) : own_G w p l e R s m args below meth c Z Q h k n (mkF m pc Ls st) := by
  obtain ⟨hd, rfl⟩ := hd
  intro T hX
  obtain ⟨L, vm, X, N, eT, hw, hS⟩ := hX
  have hZ := own_zw K.2.2.2.2.2.1 hS
  have hown : (s.setVm vm).vm.findClass own = some m.cls := by rw [show (s.setVm vm).vm = vm from rfl, hS.1.alike.findClass]; exact K.2.2.2.2.2.2.1
  obtain ⟨cq, kq, qa, qb, qc⟩ := isOf (s := s.setVm vm) hZ eT E
  obtain ⟨v, vm1, ⟨T1, L1, k1, n1⟩, -, X1, ⟨Lc, ⟨hQ, N1, z1⟩, l1, y1, x1⟩, st1⟩ := X.virtualBack K.1 (y := y) (z := z) hown (mvT hZ w1) (mvT hZ w2) (hnf vm hS.1) (mvT hZ w5) (mvT hZ w6) hy (backOf (W := W) (Q := fun v h'' L => Qc v h'' ∧ Fr Z.heap.size L ∧ h.size ≤ h''.size) (show MetFree _ _ _ _ _ _ from hM) hZ w4 w3 hf hl) qa qc (g := mkF m pc Ls st) rfl (hsz.trans K.2.2.1.symm) (Steps.refl _) (argsL := argsL) (rest := rest) (lenOf hp hlen) hst (by show 2 * 0 + _ ≤ W; simpa using hW) (hb K.2.1 hd) (fun _ _ => ⟨rfl, eT, hc, hs⟩)
  dsimp only [Pt.U, Pt.locs, Pt.cells, Pt.slots] at X1 l1 y1 x1 st1 hQ z1
  subst l1 y1 x1
  obtain ⟨T', v', h', k', n', hX', r1, r2, r3, r4, r5⟩ := hr v T1.heap hQ T1 ⟨_, vm, X1, N.app N1, rfl, hw, own_since hS z1⟩
  exact ⟨T', v', h', k', n', hX', r1, r2, r3, r4, fun fs q => st1.trans (r5 fs q)⟩
theorem own_retI (K : own_Cx p s m meth c Z own nm bytes maxL (some .int)) {z : Int32} (hd : own_D bytes pc .ireturn 1 pc') (hk : k ≤ R.cells) (hn : n ≤ R.slots) (hQ : Q (some (.int z)) h) : own_G w p l e R s m args below meth c Z Q h k n (mkF m pc Ls (.int z :: st)) := by
  obtain ⟨hd, -⟩ := hd
  intro T hX
  obtain ⟨L, vm, X, N, eT, hw, hS⟩ := hX
  exact ⟨T, some (.int z), h, k, n, ⟨L, vm, X, N, eT, hw, hS⟩, hk, hn, (fun q => by rw [K.2.2.2.1] at q; cases q), hQ, fun fs q => retOut X K.1 K.2.2.2.1 (rfl) (Or.inl ⟨rfl, Or.inl rfl, z, rfl⟩) (hb K.2.1 hd) q⟩
theorem own_retZ (K : own_Cx p s m meth c Z own nm bytes maxL (some .boolean)) {z : Int32} (hz : z = 0 ∨ z = 1) (hd : own_D bytes pc .ireturn 1 pc') (hk : k ≤ R.cells) (hn : n ≤ R.slots) (hQ : Q (some (.int z)) h) : own_G w p l e R s m args below meth c Z Q h k n (mkF m pc Ls (.int z :: st)) := by
  obtain ⟨hd, -⟩ := hd
  intro T hX
  obtain ⟨L, vm, X, N, eT, hw, hS⟩ := hX
  exact ⟨T, some (.int z), h, k, n, ⟨L, vm, X, N, eT, hw, hS⟩, hk, hn, (fun q => by rw [K.2.2.2.1] at q; cases q), hQ, fun fs q => retOut X K.1 K.2.2.2.1 (by rcases hz with rfl | rfl <;> decide) (Or.inl ⟨rfl, Or.inr (Or.inl rfl), z, rfl⟩) (hb K.2.1 hd) q⟩
theorem own_retC (K : own_Cx p s m meth c Z own nm bytes maxL (some .char)) {z : Int32} (hz : narrow .char (.int z) = .int z) (hd : own_D bytes pc .ireturn 1 pc') (hk : k ≤ R.cells) (hn : n ≤ R.slots) (hQ : Q (some (.int z)) h) : own_G w p l e R s m args below meth c Z Q h k n (mkF m pc Ls (.int z :: st)) := by
  obtain ⟨hd, -⟩ := hd
  intro T hX
  obtain ⟨L, vm, X, N, eT, hw, hS⟩ := hX
  exact ⟨T, some (.int z), h, k, n, ⟨L, vm, X, N, eT, hw, hS⟩, hk, hn, (fun q => by rw [K.2.2.2.1] at q; cases q), hQ, fun fs q => retOut X K.1 K.2.2.2.1 (hz) (Or.inl ⟨rfl, Or.inr (Or.inr (Or.inr (Or.inl rfl))), z, rfl⟩) (hb K.2.1 hd) q⟩
theorem own_retBy (K : own_Cx p s m meth c Z own nm bytes maxL (some .byte)) {z : Int32} (hz : narrow .byte (.int z) = .int z) (hd : own_D bytes pc .ireturn 1 pc') (hk : k ≤ R.cells) (hn : n ≤ R.slots) (hQ : Q (some (.int z)) h) : own_G w p l e R s m args below meth c Z Q h k n (mkF m pc Ls (.int z :: st)) := by
  obtain ⟨hd, -⟩ := hd
  intro T hX
  obtain ⟨L, vm, X, N, eT, hw, hS⟩ := hX
  exact ⟨T, some (.int z), h, k, n, ⟨L, vm, X, N, eT, hw, hS⟩, hk, hn, (fun q => by rw [K.2.2.2.1] at q; cases q), hQ, fun fs q => retOut X K.1 K.2.2.2.1 (hz) (Or.inl ⟨rfl, Or.inr (Or.inr (Or.inl rfl)), z, rfl⟩) (hb K.2.1 hd) q⟩
theorem own_retL (K : own_Cx p s m meth c Z own nm bytes maxL (some .long)) {z : Int64} (hd : own_D bytes pc .lreturn 1 pc') (hk : k ≤ R.cells) (hn : n ≤ R.slots) (hQ : Q (some (.long z)) h) : own_G w p l e R s m args below meth c Z Q h k n (mkF m pc Ls (.long z :: st)) := by
  obtain ⟨hd, -⟩ := hd
  intro T hX
  obtain ⟨L, vm, X, N, eT, hw, hS⟩ := hX
  exact ⟨T, some (.long z), h, k, n, ⟨L, vm, X, N, eT, hw, hS⟩, hk, hn, (fun q => by rw [K.2.2.2.1] at q; cases q), hQ, fun fs q => retOut X K.1 K.2.2.2.1 (rfl) (Or.inr (Or.inl ⟨rfl, rfl, z, rfl⟩)) (hb K.2.1 hd) q⟩
theorem own_retD (K : own_Cx p s m meth c Z own nm bytes maxL (some .double)) {z : UInt64} (hd : own_D bytes pc .dreturn 1 pc') (hk : k ≤ R.cells) (hn : n ≤ R.slots) (hQ : Q (some (.double z)) h) : own_G w p l e R s m args below meth c Z Q h k n (mkF m pc Ls (.double z :: st)) := by
  obtain ⟨hd, -⟩ := hd
  intro T hX
  obtain ⟨L, vm, X, N, eT, hw, hS⟩ := hX
  exact ⟨T, some (.double z), h, k, n, ⟨L, vm, X, N, eT, hw, hS⟩, hk, hn, (fun q => by rw [K.2.2.2.1] at q; cases q), hQ, fun fs q => retOut X K.1 K.2.2.2.1 (rfl) (Or.inr (Or.inr (Or.inl ⟨rfl, rfl, z, rfl⟩))) (hb K.2.1 hd) q⟩
theorem own_retA (K : own_Cx p s m meth c Z own nm bytes maxL (some tyR)) {v : Value} (hty : tyR.isReference = true) (hv : v.isRef = true) (hd : own_D bytes pc .areturn 1 pc') (hk : k ≤ R.cells) (hn : n ≤ R.slots) (hQ : Q (some (v)) h) : own_G w p l e R s m args below meth c Z Q h k n (mkF m pc Ls (v :: st)) := by
  obtain ⟨hd, -⟩ := hd
  intro T hX
  obtain ⟨L, vm, X, N, eT, hw, hS⟩ := hX
  exact ⟨T, some (v), h, k, n, ⟨L, vm, X, N, eT, hw, hS⟩, hk, hn, (fun q => by rw [K.2.2.2.1] at q; cases q), hQ, fun fs q => retOut X K.1 K.2.2.2.1 (by rcases ref_cases hv with rfl | ⟨a, rfl⟩ <;> cases tyR <;> first | rfl | cases hty) (Or.inr (Or.inr (Or.inr (Or.inr ⟨rfl, hty, hv⟩)))) (hb K.2.1 hd) q⟩
theorem own_retV (K : own_Cx p s m meth c Z own nm bytes maxL none) (hd : own_D bytes pc .return_ 1 pc') (hk : k ≤ R.cells) (hn : n ≤ R.slots) (hQ : Q none h) : own_G w p l e R s m args below meth c Z Q h k n (mkF m pc Ls []) := by
  obtain ⟨hd, -⟩ := hd
  intro T hX
  obtain ⟨L, vm, X, N, eT, hw, hS⟩ := hX
  exact ⟨T, none, h, k, n, ⟨L, vm, X, N, eT, hw, hS⟩, hk, hn, (fun _ => rfl), hQ, fun fs q => X.returnOut K.1 K.2.2.2.1 (hb K.2.1 hd) q⟩
theorem own_met {y : MethodName} {ws : List Cond} {rm : Room} {as' : Array Value} (hpn : plainFor y = true)
    (body : ∀ (p : Program) (e : Env) (s : State) (m : MethodId) (below : List Frame) (meth : Method) (c : Code), own_Cx p s m meth c Z y.cls y.name bytes maxL ret → own_G w p l e rm s m as' below meth c Z Q h 0 0 (entryFrame m as' maxL)) :
    own_Met w l Z y bytes maxL ret ws rm as' h Q := by
  refine MetFree.of_bodySF hpn hisR ?_
  intro p e s m args below meth c s₁ Bd hml0 hP hK
  obtain ⟨rfl, hZ, hh⟩ := hP
  have X0 : Stand p l e rm s m args below meth c s₁ [] 0 0 := Stand.of_body Bd
  have e0 : s₁.heap = h := by rw [← hh, Bd.state]; rfl
  have hlk : meth.locks = false := BodyLoose.notSynchronized Bd
  obtain ⟨T', v, h', k', n', ⟨L, vm, X, N, eT, hw, hS⟩, r1, r2, r3, r4, r5⟩ := body p e s m below meth c ⟨Bd.exec, Bd.bytes, hml0, Bd.returns, hlk, hZ, findClass_of_methodNamed Bd.named, (name_of_methodNamed Bd.named Bd.method).1⟩ s₁
    ⟨[], s.vm, X0, Fr.nil _, e0, fun _ => rfl, (State.WarmedH.refl s).since _⟩
  have hgr : h.size ≤ h'.size := by rw [← eT, ← hh]; exact X.same.2.1
  cases w with
  | false =>
    obtain rfl := hw rfl
    obtain ⟨fs, hr, hrun, hended, hW, hsame⟩ := Stand.leave (s := s) X r3
    exact ⟨_, _, r5 fs hr, hrun, hended, v, L, rfl, ⟨by show Q v T'.heap; rw [eT]; exact r4, N, by show h.size ≤ T'.heap.size; rw [eT]; exact hgr⟩, ⟨_, rfl⟩, hW, hsame.mono r1 r2⟩
  | true =>
    obtain ⟨fs, hr, hrun, hended, q1, q2, q3, q4⟩ := Stand.leaveW X hS (Nat.le_of_eq (congrArg Array.size eT.symm)) r3
    exact ⟨_, _, r5 fs hr, hrun, hended, v, L, rfl, ⟨by show Q v T'.heap; rw [eT]; exact r4, N, by show h.size ≤ T'.heap.size; rw [eT]; exact hgr⟩, q1, q2, q3, q4.mono r1 r2⟩
theorem own_list_getD {vs : List Value} {cl : Cell} (e : cl.slots.toList = vs) (d : Value) {i : Nat} (hi : i < cl.slots.size) : cl.slots[i]? = some (vs.getD i d) := by
  subst e
  rw [List.getD_eq_getElem?_getD, Array.getElem?_toList, Array.getElem?_eq_getElem hi]; rfl
theorem own_arv {a : Addr} {ty : FieldType} {ad : String} {vs : List Value} (F : own_AK Z h (a, ty, ad, vs)) (hl : vs.length < 2147483648) : ∃ (kc : ClassId) (z : Int32), z.toNatClampNeg = vs.length ∧ ¬ z < 0 ∧ Arv Z h a kc ty z vs .null := by
  obtain ⟨cl, A, e1, e3, -, -⟩ := F
  have e1' : cl.slots.toList = vs := e1
  have hsz : cl.slots.size = vs.length := by rw [← Array.length_toList, e1']
  have q := len_toInt (n := vs.length) (by omega)
  have z0 : ¬ vs.length.toInt32 < 0 := by rw [Int32.lt_iff_toInt_lt, q, show (0 : Int32).toInt = 0 from rfl]; omega
  have zc : vs.length.toInt32.toNatClampNeg = vs.length := by simp only [Int32.toNatClampNeg, q]; rfl
  refine ⟨cl.cls, vs.length.toInt32, zc, z0, cl, A, rfl, by rw [zc]; exact hsz, z0, fun i hi => own_list_getD e1' _ hi, fun i hi => ?_⟩
  have hi' : i < vs.length := by omega
  rw [List.getD_eq_getElem?_getD, List.getElem?_eq_getElem hi']
  exact e3 _ (List.getElem_mem hi')
theorem own_of_arv {a : Addr} {ty : FieldType} {vs : List Value} {kc : ClassId} {z : Int32} {d : Value} (F : Arv Z h a kc ty z vs d) (hz : z.toNatClampNeg = vs.length) : ∃ cl : Cell, Arr Z h a cl ty ∧ cl.cls = kc ∧ cl.slots.toList = vs ∧ ∀ v ∈ vs, fits ty v = true := by
  obtain ⟨cl, A, e1, e2, -, H, G⟩ := F
  have hsz : cl.slots.size = vs.length := e2.trans hz
  refine ⟨cl, A, e1, ?_, fun v hv => ?_⟩
  · apply List.ext_getElem?
    intro i
    rw [Array.getElem?_toList]
    by_cases hi : i < cl.slots.size
    · rw [H i hi, List.getD_eq_getElem?_getD, List.getElem?_eq_getElem (by omega)]; rfl
    · rw [Array.getElem?_eq_none (by omega), List.getElem?_eq_none (by omega)]
  · obtain ⟨i, hi, rfl⟩ := List.getElem_of_mem hv
    have := G i (by omega)
    rw [List.getD_eq_getElem?_getD, List.getElem?_eq_getElem hi] at this
    exact this
theorem own_H.keepA (H : own_H Z h os as) {b : Addr} {ty : FieldType} {ad : String} {vd vd' : List Value} {i : Nat} (hb : as[i]? = some (b, ty, ad, vd)) (Kp : Keep h h' [b]) (F : ∃ cl : Cell, Arr Z h' b cl ty ∧ cl.slots.toList = vd' ∧ ∀ v ∈ vd', fits ty v = true) (hty : ∀ C, ty ≠ .object C) : own_H Z h' os (as.set i (b, ty, ad, vd')) := by
  have nb := (H.2.2.1 _ (own_mem hb)).1
  have hlen := (List.getElem?_eq_some_iff.mp hb).1
  refine ⟨⟨Nat.le_trans H.1.1 Kp.1, fun x cx hx => Kp.2.1 x cx (H.1.2 x cx hx) fun q => ?_⟩, fun o ho => ?_, fun y hy => ?_, ?_⟩
  · cases List.mem_singleton.mp q; exact absurd (Array.getElem?_eq_some_iff.mp hx).1 (Nat.not_lt.mpr nb)
  · obtain ⟨n1, E, F', Pw⟩ := H.2.1 o ho
    exact ⟨n1, E.keep Kp, fun f hf => (F' f hf).keep Kp fun q => H.neOA ho (own_mem hb) (List.mem_singleton.mp q), Pw⟩
  · obtain ⟨j, hj⟩ := List.mem_iff_getElem?.mp hy
    rw [List.getElem?_set] at hj
    by_cases ij : i = j
    · subst ij
      rw [if_pos rfl, if_pos hlen] at hj
      obtain rfl := Option.some.inj hj
      obtain ⟨cl, A, e1, e2⟩ := F
      obtain ⟨-, cl0, -, -, -, e4, -⟩ := H.2.2.1 _ (own_mem hb)
      exact ⟨nb, cl, A, e1, e2, fun q => (e4 q).keep Kp, fun C hC => absurd hC (hty C)⟩
    · rw [if_neg ij] at hj
      obtain ⟨n1, cl, h1, h2, h3, h4, h5⟩ := H.2.2.1 _ (own_mem hj)
      exact ⟨n1, cl, ⟨Kp.2.1 _ _ h1.1 fun q => H.neAA hj hb (Ne.symm ij) (List.mem_singleton.mp q), h1.2⟩, h2, h3, fun q => (h4 q).keep Kp, h5⟩
  · rw [own_set_map (f := fun z => z.1) (x' := (b, ty, ad, vd')) hb rfl]; exact H.2.2.2
theorem own_range_take {vs : List Value} {sq nq : Nat} {d : Value} (hq : sq + nq ≤ vs.length) : (vs.drop sq).take nq = (List.range nq).map fun i => vs.getD (sq + i) d := by
  apply List.ext_getElem?
  intro i
  by_cases hi : i < nq
  · rw [List.getElem?_take_of_lt hi, List.getElem?_drop, List.getElem?_map, List.getElem?_range hi, Option.map_some, List.getD_eq_getElem?_getD, List.getElem?_eq_getElem (by omega)]; rfl
  · rw [List.getElem?_eq_none (by simp; omega), List.getElem?_eq_none (by simp; omega)]
theorem own_arraycopy (K : own_Cx p s m meth c Z own nm bytes maxL ret) {i ia ib : Nat} {a b : Addr} {ty : FieldType} {ada adb : String} {vs vd : List Value} {sp dp nn : Int32} {sq dq nq : Nat} (hd : own_D bytes pc (.invokestatic i) 3 pc') (w1 : (Cond.methodLink own i Jvm.Stand.acN).before a0 Z = true) (w2 : (Cond.native Jvm.Stand.acN).before a0 Z = true) (w3 : (Cond.static Jvm.Stand.acN).before a0 Z = true) (w4 : (Cond.initialized "java/lang/System").before a0 Z = true) (H : own_H Z h os as)
    (ha : as[ia]? = some (a, ty, ada, vs)) (hb' : as[ib]? = some (b, ty, adb, vd)) (hty : refKind ty = false) (hto : ∀ C, ty ≠ .object C) (hsp : sp.toInt = (sq : Int)) (hdp : dp.toInt = (dq : Int)) (hnn : nn.toInt = (nq : Int)) (h4 : sq + nq ≤ vs.length) (h5 : dq + nq ≤ vd.length) (hvl : vs.length < 2147483648) (hvd : vd.length < 2147483648) (hsz : Ls.size = maxL) (hf : 1 ≤ R.frames) {W : Nat} (hW : (st.map fun v => v.category).sum ≤ W) (hlo : W + (nativeFrameWords "java/lang/System" "arraycopy" 5 + 11) ≤ R.locals)
    (hr : ∀ h', own_H Z h' os (as.set ib (b, ty, adb, vd.take dq ++ (vs.drop sq).take nq ++ vd.drop (dq + nq))) → own_G w p l e R s m args below meth c Z Q h' k n (mkF m pc' Ls st)) : own_G w p l e R s m args below meth c Z Q h k n (mkF m pc Ls (.int nn :: .int dp :: .ref b :: .int sp :: .ref a :: st)) := by
  obtain ⟨hd, rfl⟩ := hd
  refine own_step K (P := fun h' => own_H Z h' os (as.set ib (b, ty, adb, vd.take dq ++ (vs.drop sq).take nq ++ vd.drop (dq + nq)))) (fun X hZ hw eT N => ?_) hr
  obtain ⟨ka, za, qa1, qa2, A⟩ := own_arv (H.2.2.1 _ (own_mem ha)).2 hvl
  obtain ⟨kb, zb, qb1, qb2, B⟩ := own_arv (H.2.2.1 _ (own_mem hb')).2 hvd
  have i1 := own_idx hsp
  have i2 := own_idx hdp
  have i3 := own_idx hnn
  have neg : ∀ {x : Int32} {q : Nat}, x.toInt = (q : Int) → ¬ x < 0 := fun {x q} e => by rw [Int32.lt_iff_toInt_lt, e, show (0 : Int32).toInt = 0 from rfl]; omega
  obtain ⟨T', h', L, X', e', N', Kp, A', st⟩ := cpA X K.1 hZ hw w1 w2 w3 w4 eT A B (Or.inl ⟨rfl, hty⟩) (neg hsp) (neg hdp) (neg hnn) (by rw [i1, i3, qa1]; exact h4) (by rw [i2, i3, qb1]; exact h5) (by rw [i1, i3]) (by rw [i2, i3]; exact h5) N (H.2.2.1 _ (own_mem hb')).1 (g := mkF m pc Ls (.int nn :: .int dp :: .ref b :: .int sp :: .ref a :: st)) rfl (hsz.trans K.2.2.1.symm) rfl (hb K.2.1 hd) hf (W := W) (by show 2 * 0 + _ ≤ W; simpa using hW) hlo
  rw [i2, i3, ← own_range_take h4] at A'
  obtain ⟨cl, c1, -, c3, c4⟩ := own_of_arv A' (by rw [qb1]; simp; omega)
  exact ⟨T', h', L, X', N', e', Kp.1, H.keepA hb' Kp ⟨cl, c1, c3, c4⟩ hto, st⟩
theorem own_cast {g g' : JFrame} (q : g = g') (hr : own_G w p l e R s m args below meth c Z Q h k n g') : own_G w p l e R s m args below meth c Z Q h k n g := q ▸ hr
theorem own_topI {x x' : Int32} (q : x = x') (hr : own_G w p l e R s m args below meth c Z Q h k n (mkF m pc Ls (.int x' :: st))) : own_G w p l e R s m args below meth c Z Q h k n (mkF m pc Ls (.int x :: st)) := q ▸ hr
theorem own_topL {x x' : Int64} (q : x = x') (hr : own_G w p l e R s m args below meth c Z Q h k n (mkF m pc Ls (.long x' :: st))) : own_G w p l e R s m args below meth c Z Q h k n (mkF m pc Ls (.long x :: st)) := q ▸ hr
theorem own_topD {x x' : UInt64} (q : x = x') (hr : own_G w p l e R s m args below meth c Z Q h k n (mkF m pc Ls (.double x' :: st))) : own_G w p l e R s m args below meth c Z Q h k n (mkF m pc Ls (.double x :: st)) := q ▸ hr
theorem own_H.perm (H : own_H Z h os as) (po : os.Perm os') (pa : as.Perm as') : own_H Z h os' as' :=
  ⟨H.1, fun o ho => H.2.1 o (po.mem_iff.mpr ho), fun a ha => H.2.2.1 a (pa.mem_iff.mpr ha), ((po.map _).append (pa.map _)).nodup_iff.mp H.2.2.2⟩
theorem own_front {α : Type} {L : List α} {x : α} : ∀ {i : Nat}, L[i]? = some x → L.Perm (x :: L.eraseIdx i) := by
  induction L with
  | nil => intro i hx; cases hx
  | cons y L ih =>
    intro i hx
    cases i with
    | zero => cases hx; exact List.Perm.refl _
    | succ i =>
      have q := ih (i := i) (by simpa using hx)
      exact ((q.cons y).trans (List.Perm.swap x y _))
theorem own_H.frontO (H : own_H Z h os as) (i : Nat) {x : own_O} (hx : os[i]? = some x) : own_H Z h (x :: os.eraseIdx i) as := H.perm (own_front hx) (List.Perm.refl _)
theorem own_H.frontA (H : own_H Z h os as) (i : Nat) {x : own_A} (hx : as[i]? = some x) : own_H Z h os (x :: as.eraseIdx i) := H.perm (List.Perm.refl _) (own_front hx)
end OwnKit
end Jvm.RoadKit
namespace Jvm.Pilot.@@N@@
open Jvm Jvm.ClassFile Sem Op Lib Jvm.Free Jvm.Stand Jvm.LawKit Jvm.RoadKit Bundle Jvm.Pilot.@@N@@.Jvm.D
def own_Z (Z : State) (a0 : Array Value) : Prop := ∀ d ∈ tables_1, d.before a0 Z = true
theorem own_w0 {Z : State} {a0 : Array Value} (hw : own_Z Z a0) : (Jvm.Cond.arrayClass Jvm.ClassFile.FieldType.double).before a0 Z = true := hw _ (List.mem_of_getElem? (i := 0) rfl)
theorem own_w1 {Z : State} {a0 : Array Value} (hw : own_Z Z a0) : (Jvm.Cond.methodLink "com/example/fuseplan/fuseplan/runtime/OperandGatherPinLaw" (7 : Nat) ({ cls := "com/example/fuseplan/fuseplan/runtime/OperandGatherPinLaw", name := "v", desc := "(JI)D" } : Jvm.MethodName)).before a0 Z = true := hw _ (List.mem_of_getElem? (i := 1) rfl)
theorem own_w2 {Z : State} {a0 : Array Value} (hw : own_Z Z a0) : (Jvm.Cond.static ({ cls := "com/example/fuseplan/fuseplan/runtime/OperandGatherPinLaw", name := "v", desc := "(JI)D" } : Jvm.MethodName)).before a0 Z = true := hw _ (List.mem_of_getElem? (i := 2) rfl)
theorem own_w3 {Z : State} {a0 : Array Value} (hw : own_Z Z a0) : (Jvm.Cond.initialized "com/example/fuseplan/fuseplan/runtime/OperandGatherPinLaw").before a0 Z = true := hw _ (List.mem_of_getElem? (i := 3) rfl)
theorem own_w4 {Z : State} {a0 : Array Value} (hw : own_Z Z a0) : (Jvm.Cond.code ({ cls := "com/example/fuseplan/fuseplan/runtime/OperandGatherPinLaw", name := "v", desc := "(JI)D" } : Jvm.MethodName) method_4_code (3 : Nat) (Option.some Jvm.ClassFile.FieldType.double)).before a0 Z = true := hw _ (List.mem_of_getElem? (i := 4) rfl)
theorem own_w5 {Z : State} {a0 : Array Value} (hw : own_Z Z a0) : (Jvm.Cond.constantLong "com/example/fuseplan/fuseplan/runtime/OperandGatherPinLaw" (36 : Nat) (15 : Int64)).before a0 Z = true := hw _ (List.mem_of_getElem? (i := 5) rfl)
theorem own_w6 {Z : State} {a0 : Array Value} (hw : own_Z Z a0) : (Jvm.Cond.arrayClass Jvm.ClassFile.FieldType.int).before a0 Z = true := hw _ (List.mem_of_getElem? (i := 6) rfl)
theorem own_w7 {Z : State} {a0 : Array Value} (hw : own_Z Z a0) : (Jvm.Cond.methodLink "com/example/fuseplan/fuseplan/runtime/OperandGatherPinLaw" (13 : Nat) ({ cls := "com/example/fuseplan/fuseplan/runtime/OperandGatherPinLaw", name := "pick", desc := "(III)I" } : Jvm.MethodName)).before a0 Z = true := hw _ (List.mem_of_getElem? (i := 7) rfl)
theorem own_w8 {Z : State} {a0 : Array Value} (hw : own_Z Z a0) : (Jvm.Cond.static ({ cls := "com/example/fuseplan/fuseplan/runtime/OperandGatherPinLaw", name := "pick", desc := "(III)I" } : Jvm.MethodName)).before a0 Z = true := hw _ (List.mem_of_getElem? (i := 8) rfl)
theorem own_w9 {Z : State} {a0 : Array Value} (hw : own_Z Z a0) : (Jvm.Cond.code ({ cls := "com/example/fuseplan/fuseplan/runtime/OperandGatherPinLaw", name := "pick", desc := "(III)I" } : Jvm.MethodName) method_3_code (3 : Nat) (Option.some Jvm.ClassFile.FieldType.int)).before a0 Z = true := hw _ (List.mem_of_getElem? (i := 9) rfl)
theorem own_w10 {Z : State} {a0 : Array Value} (hw : own_Z Z a0) : (Jvm.Cond.constantDouble "com/example/fuseplan/fuseplan/runtime/OperandGatherPinLaw" (17 : Nat) (4696837146684686336 : UInt64)).before a0 Z = true := hw _ (List.mem_of_getElem? (i := 10) rfl)
theorem own_w11 {Z : State} {a0 : Array Value} (hw : own_Z Z a0) : (Jvm.Cond.classLink "com/example/fuseplan/fuseplan/runtime/OperandGatherPinLaw" (19 : Nat) "com/example/fuseplan/fuseplan/runtime/Operand").before a0 Z = true := hw _ (List.mem_of_getElem? (i := 11) rfl)
theorem own_w12 {Z : State} {a0 : Array Value} (hw : own_Z Z a0) : (Jvm.Cond.instantiable "com/example/fuseplan/fuseplan/runtime/Operand" (3 : Nat)).before a0 Z = true := hw _ (List.mem_of_getElem? (i := 12) rfl)
theorem own_w13 {Z : State} {a0 : Array Value} (hw : own_Z Z a0) : (Jvm.Cond.initialized "com/example/fuseplan/fuseplan/runtime/Operand").before a0 Z = true := hw _ (List.mem_of_getElem? (i := 13) rfl)
theorem own_w14 {Z : State} {a0 : Array Value} (hw : own_Z Z a0) : (Jvm.Cond.methodLink "com/example/fuseplan/fuseplan/runtime/OperandGatherPinLaw" (21 : Nat) ({ cls := "com/example/fuseplan/fuseplan/runtime/Operand", name := "<init>", desc := "([DII)V" } : Jvm.MethodName)).before a0 Z = true := hw _ (List.mem_of_getElem? (i := 14) rfl)
theorem own_w15 {Z : State} {a0 : Array Value} (hw : own_Z Z a0) : (Jvm.Cond.instanceMethod ({ cls := "com/example/fuseplan/fuseplan/runtime/Operand", name := "<init>", desc := "([DII)V" } : Jvm.MethodName)).before a0 Z = true := hw _ (List.mem_of_getElem? (i := 15) rfl)
theorem own_w16 {Z : State} {a0 : Array Value} (hw : own_Z Z a0) : (Jvm.Cond.code ({ cls := "com/example/fuseplan/fuseplan/runtime/Operand", name := "<init>", desc := "([DII)V" } : Jvm.MethodName) prog_147_method_1_code (4 : Nat) (Option.none : Option Jvm.ClassFile.FieldType)).before a0 Z = true := hw _ (List.mem_of_getElem? (i := 16) rfl)
theorem own_w17 {Z : State} {a0 : Array Value} (hw : own_Z Z a0) : (Jvm.Cond.methodLink "com/example/fuseplan/fuseplan/runtime/Operand" (1 : Nat) ({ cls := "java/lang/Record", name := "<init>", desc := "()V" } : Jvm.MethodName)).before a0 Z = true := hw _ (List.mem_of_getElem? (i := 17) rfl)
theorem own_w18 {Z : State} {a0 : Array Value} (hw : own_Z Z a0) : (Jvm.Cond.instanceMethod ({ cls := "java/lang/Record", name := "<init>", desc := "()V" } : Jvm.MethodName)).before a0 Z = true := hw _ (List.mem_of_getElem? (i := 18) rfl)
theorem own_w20 {Z : State} {a0 : Array Value} (hw : own_Z Z a0) : (Jvm.Cond.initialized "java/lang/Record").before a0 Z = true := hw _ (List.mem_of_getElem? (i := 20) rfl)
theorem own_w21 {Z : State} {a0 : Array Value} (hw : own_Z Z a0) : (Jvm.Cond.code ({ cls := "java/lang/Record", name := "<init>", desc := "()V" } : Jvm.MethodName) jdk_30_method_1_code (1 : Nat) (Option.none : Option Jvm.ClassFile.FieldType)).before a0 Z = true := hw _ (List.mem_of_getElem? (i := 21) rfl)
theorem own_w22 {Z : State} {a0 : Array Value} (hw : own_Z Z a0) : (Jvm.Cond.methodLink "java/lang/Record" (1 : Nat) ({ cls := "java/lang/Object", name := "<init>", desc := "()V" } : Jvm.MethodName)).before a0 Z = true := hw _ (List.mem_of_getElem? (i := 22) rfl)
theorem own_w23 {Z : State} {a0 : Array Value} (hw : own_Z Z a0) : (Jvm.Cond.instanceMethod ({ cls := "java/lang/Object", name := "<init>", desc := "()V" } : Jvm.MethodName)).before a0 Z = true := hw _ (List.mem_of_getElem? (i := 23) rfl)
theorem own_w24 {Z : State} {a0 : Array Value} (hw : own_Z Z a0) : (Jvm.Cond.code ({ cls := "java/lang/Object", name := "<init>", desc := "()V" } : Jvm.MethodName) object_method_1_code (1 : Nat) (Option.none : Option Jvm.ClassFile.FieldType)).before a0 Z = true := hw _ (List.mem_of_getElem? (i := 24) rfl)
theorem own_w25 {Z : State} {a0 : Array Value} (hw : own_Z Z a0) : (Jvm.Cond.fieldLink "com/example/fuseplan/fuseplan/runtime/Operand" (7 : Nat) "com/example/fuseplan/fuseplan/runtime/Operand" "cells" "[D").before a0 Z = true := hw _ (List.mem_of_getElem? (i := 25) rfl)
theorem own_w26 {Z : State} {a0 : Array Value} (hw : own_Z Z a0) : (Jvm.Cond.laysFinal "com/example/fuseplan/fuseplan/runtime/Operand" "com/example/fuseplan/fuseplan/runtime/Operand" "cells" "[D").before a0 Z = true := hw _ (List.mem_of_getElem? (i := 26) rfl)
theorem own_w27 {Z : State} {a0 : Array Value} (hw : own_Z Z a0) : (Jvm.Cond.fieldLink "com/example/fuseplan/fuseplan/runtime/Operand" (13 : Nat) "com/example/fuseplan/fuseplan/runtime/Operand" "rowStride" "I").before a0 Z = true := hw _ (List.mem_of_getElem? (i := 27) rfl)
theorem own_w28 {Z : State} {a0 : Array Value} (hw : own_Z Z a0) : (Jvm.Cond.laysFinal "com/example/fuseplan/fuseplan/runtime/Operand" "com/example/fuseplan/fuseplan/runtime/Operand" "rowStride" "I").before a0 Z = true := hw _ (List.mem_of_getElem? (i := 28) rfl)
theorem own_w29 {Z : State} {a0 : Array Value} (hw : own_Z Z a0) : (Jvm.Cond.fieldLink "com/example/fuseplan/fuseplan/runtime/Operand" (17 : Nat) "com/example/fuseplan/fuseplan/runtime/Operand" "colStride" "I").before a0 Z = true := hw _ (List.mem_of_getElem? (i := 29) rfl)
theorem own_w30 {Z : State} {a0 : Array Value} (hw : own_Z Z a0) : (Jvm.Cond.laysFinal "com/example/fuseplan/fuseplan/runtime/Operand" "com/example/fuseplan/fuseplan/runtime/Operand" "colStride" "I").before a0 Z = true := hw _ (List.mem_of_getElem? (i := 30) rfl)
theorem own_w31 {Z : State} {a0 : Array Value} (hw : own_Z Z a0) : (Jvm.Cond.methodLink "com/example/fuseplan/fuseplan/runtime/OperandGatherPinLaw" (24 : Nat) ({ cls := "com/example/fuseplan/fuseplan/runtime/Operand", name := "gather", desc := "([I[II[D)V" } : Jvm.MethodName)).before a0 Z = true := hw _ (List.mem_of_getElem? (i := 31) rfl)
theorem own_w32 {Z : State} {a0 : Array Value} (hw : own_Z Z a0) : (Jvm.Cond.declares ({ cls := "com/example/fuseplan/fuseplan/runtime/Operand", name := "gather", desc := "([I[II[D)V" } : Jvm.MethodName)).before a0 Z = true := hw _ (List.mem_of_getElem? (i := 32) rfl)
theorem own_w33 {Z : State} {a0 : Array Value} (hw : own_Z Z a0) : (Jvm.Cond.instanceMethod ({ cls := "com/example/fuseplan/fuseplan/runtime/Operand", name := "gather", desc := "([I[II[D)V" } : Jvm.MethodName)).before a0 Z = true := hw _ (List.mem_of_getElem? (i := 33) rfl)
theorem own_w34 {Z : State} {a0 : Array Value} (hw : own_Z Z a0) : (Jvm.Cond.selects "com/example/fuseplan/fuseplan/runtime/Operand" ({ cls := "com/example/fuseplan/fuseplan/runtime/Operand", name := "gather", desc := "([I[II[D)V" } : Jvm.MethodName) ({ cls := "com/example/fuseplan/fuseplan/runtime/Operand", name := "gather", desc := "([I[II[D)V" } : Jvm.MethodName)).before a0 Z = true := hw _ (List.mem_of_getElem? (i := 34) rfl)
theorem own_w35 {Z : State} {a0 : Array Value} (hw : own_Z Z a0) : (Jvm.Cond.code ({ cls := "com/example/fuseplan/fuseplan/runtime/Operand", name := "gather", desc := "([I[II[D)V" } : Jvm.MethodName) prog_147_method_5_code (6 : Nat) (Option.none : Option Jvm.ClassFile.FieldType)).before a0 Z = true := hw _ (List.mem_of_getElem? (i := 35) rfl)
theorem own_w36 {Z : State} {a0 : Array Value} (hw : own_Z Z a0) : (Jvm.Cond.methodLink "com/example/fuseplan/fuseplan/runtime/OperandGatherPinLaw" (28 : Nat) ({ cls := "com/example/fuseplan/fuseplan/runtime/OperandGatherPinLaw", name := "want", desc := "(II[DII)D" } : Jvm.MethodName)).before a0 Z = true := hw _ (List.mem_of_getElem? (i := 36) rfl)
theorem own_w37 {Z : State} {a0 : Array Value} (hw : own_Z Z a0) : (Jvm.Cond.static ({ cls := "com/example/fuseplan/fuseplan/runtime/OperandGatherPinLaw", name := "want", desc := "(II[DII)D" } : Jvm.MethodName)).before a0 Z = true := hw _ (List.mem_of_getElem? (i := 37) rfl)
theorem own_w38 {Z : State} {a0 : Array Value} (hw : own_Z Z a0) : (Jvm.Cond.code ({ cls := "com/example/fuseplan/fuseplan/runtime/OperandGatherPinLaw", name := "want", desc := "(II[DII)D" } : Jvm.MethodName) method_5_code (5 : Nat) (Option.some Jvm.ClassFile.FieldType.double)).before a0 Z = true := hw _ (List.mem_of_getElem? (i := 38) rfl)
theorem own_w39 {Z : State} {a0 : Array Value} (hw : own_Z Z a0) : (Jvm.Cond.methodLink "com/example/fuseplan/fuseplan/runtime/OperandGatherPinLaw" (32 : Nat) ({ cls := "com/example/fuseplan/fuseplan/runtime/OperandGatherPinLaw", name := "ok", desc := "([DIID)Z" } : Jvm.MethodName)).before a0 Z = true := hw _ (List.mem_of_getElem? (i := 39) rfl)
theorem own_w40 {Z : State} {a0 : Array Value} (hw : own_Z Z a0) : (Jvm.Cond.static ({ cls := "com/example/fuseplan/fuseplan/runtime/OperandGatherPinLaw", name := "ok", desc := "([DIID)Z" } : Jvm.MethodName)).before a0 Z = true := hw _ (List.mem_of_getElem? (i := 40) rfl)
theorem own_w41 {Z : State} {a0 : Array Value} (hw : own_Z Z a0) : (Jvm.Cond.code ({ cls := "com/example/fuseplan/fuseplan/runtime/OperandGatherPinLaw", name := "ok", desc := "([DIID)Z" } : Jvm.MethodName) method_6_code (5 : Nat) (Option.some Jvm.ClassFile.FieldType.boolean)).before a0 Z = true := hw _ (List.mem_of_getElem? (i := 41) rfl)
theorem own_d0_0 : own_D method_4_code 0 (.iload_n 2) 1 1 := ⟨by decide +kernel, rfl⟩
theorem own_d0_1 : own_D method_4_code 1 (.bipush 16) 2 3 := ⟨by decide +kernel, rfl⟩
theorem own_d0_3 : own_D method_4_code 3 (.imul) 1 4 := ⟨by decide +kernel, rfl⟩
theorem own_d0_4 : own_D method_4_code 4 (.lload_n 0) 1 5 := ⟨by decide +kernel, rfl⟩
theorem own_d0_5 : own_D method_4_code 5 (.iconst 4) 1 6 := ⟨by decide +kernel, rfl⟩
theorem own_d0_6 : own_D method_4_code 6 (.iload_n 2) 1 7 := ⟨by decide +kernel, rfl⟩
theorem own_d0_7 : own_D method_4_code 7 (.imul) 1 8 := ⟨by decide +kernel, rfl⟩
theorem own_d0_8 : own_D method_4_code 8 (.lushr) 1 9 := ⟨by decide +kernel, rfl⟩
theorem own_d0_9 : own_D method_4_code 9 (.ldc2_w 36) 3 12 := ⟨by decide +kernel, rfl⟩
theorem own_d0_12 : own_D method_4_code 12 (.land) 1 13 := ⟨by decide +kernel, rfl⟩
theorem own_d0_13 : own_D method_4_code 13 (.l2i) 1 14 := ⟨by decide +kernel, rfl⟩
theorem own_d0_14 : own_D method_4_code 14 (.iadd) 1 15 := ⟨by decide +kernel, rfl⟩
theorem own_d0_15 : own_D method_4_code 15 (.bipush 72) 2 17 := ⟨by decide +kernel, rfl⟩
theorem own_d0_17 : own_D method_4_code 17 (.isub) 1 18 := ⟨by decide +kernel, rfl⟩
theorem own_d0_18 : own_D method_4_code 18 (.i2d) 1 19 := ⟨by decide +kernel, rfl⟩
theorem own_d0_19 : own_D method_4_code 19 (.dreturn) 1 20 := ⟨by decide +kernel, rfl⟩
theorem own_d1_0 : own_D method_3_code 0 (.iload_n 0) 1 1 := ⟨by decide +kernel, rfl⟩
theorem own_d1_1 : own_D method_3_code 1 (.iconst 2) 1 2 := ⟨by decide +kernel, rfl⟩
theorem own_d1_2 : own_D method_3_code 2 (.iload_n 1) 1 3 := ⟨by decide +kernel, rfl⟩
theorem own_d1_3 : own_D method_3_code 3 (.imul) 1 4 := ⟨by decide +kernel, rfl⟩
theorem own_d1_4 : own_D method_3_code 4 (.iushr) 1 5 := ⟨by decide +kernel, rfl⟩
theorem own_d1_5 : own_D method_3_code 5 (.iconst 3) 1 6 := ⟨by decide +kernel, rfl⟩
theorem own_d1_6 : own_D method_3_code 6 (.iand) 1 7 := ⟨by decide +kernel, rfl⟩
theorem own_d1_7 : own_D method_3_code 7 (.iload_n 2) 1 8 := ⟨by decide +kernel, rfl⟩
theorem own_d1_8 : own_D method_3_code 8 (.irem) 1 9 := ⟨by decide +kernel, rfl⟩
theorem own_d1_9 : own_D method_3_code 9 (.ireturn) 1 10 := ⟨by decide +kernel, rfl⟩
theorem own_d2_0 : own_D jdk_30_method_1_code 0 (.aload_n 0) 1 1 := ⟨by decide +kernel, rfl⟩
theorem own_d2_1 : own_D jdk_30_method_1_code 1 (.invokespecial 1) 3 4 := ⟨by decide +kernel, rfl⟩
theorem own_d2_4 : own_D jdk_30_method_1_code 4 (.return_) 1 5 := ⟨by decide +kernel, rfl⟩
theorem own_d3_0 : own_D prog_147_method_1_code 0 (.aload_n 0) 1 1 := ⟨by decide +kernel, rfl⟩
theorem own_d3_1 : own_D prog_147_method_1_code 1 (.invokespecial 1) 3 4 := ⟨by decide +kernel, rfl⟩
theorem own_d3_4 : own_D prog_147_method_1_code 4 (.aload_n 0) 1 5 := ⟨by decide +kernel, rfl⟩
theorem own_d3_5 : own_D prog_147_method_1_code 5 (.aload_n 1) 1 6 := ⟨by decide +kernel, rfl⟩
theorem own_d3_6 : own_D prog_147_method_1_code 6 (.putfield 7) 3 9 := ⟨by decide +kernel, rfl⟩
theorem own_d3_9 : own_D prog_147_method_1_code 9 (.aload_n 0) 1 10 := ⟨by decide +kernel, rfl⟩
theorem own_d3_10 : own_D prog_147_method_1_code 10 (.iload_n 2) 1 11 := ⟨by decide +kernel, rfl⟩
theorem own_d3_11 : own_D prog_147_method_1_code 11 (.putfield 13) 3 14 := ⟨by decide +kernel, rfl⟩
theorem own_d3_14 : own_D prog_147_method_1_code 14 (.aload_n 0) 1 15 := ⟨by decide +kernel, rfl⟩
theorem own_d3_15 : own_D prog_147_method_1_code 15 (.iload_n 3) 1 16 := ⟨by decide +kernel, rfl⟩
theorem own_d3_16 : own_D prog_147_method_1_code 16 (.putfield 17) 3 19 := ⟨by decide +kernel, rfl⟩
theorem own_d3_19 : own_D prog_147_method_1_code 19 (.return_) 1 20 := ⟨by decide +kernel, rfl⟩
theorem own_d4_0 : own_D prog_147_method_5_code 0 (.iconst 0) 1 1 := ⟨by decide +kernel, rfl⟩
theorem own_d4_1 : own_D prog_147_method_5_code 1 (.istore 5) 2 3 := ⟨by decide +kernel, rfl⟩
theorem own_d4_3 : own_D prog_147_method_5_code 3 (.iload 5) 2 5 := ⟨by decide +kernel, rfl⟩
theorem own_d4_5 : own_D prog_147_method_5_code 5 (.iload_n 3) 1 6 := ⟨by decide +kernel, rfl⟩
theorem own_d4_6 : own_B prog_147_method_5_code 6 (.if_icmp .ge 38) 38 9 44 := ⟨by decide +kernel, rfl, by decide, by decide⟩
theorem own_d4_44 : own_D prog_147_method_5_code 44 (.return_) 1 45 := ⟨by decide +kernel, rfl⟩
theorem own_d4_9 : own_D prog_147_method_5_code 9 (.aload 4) 2 11 := ⟨by decide +kernel, rfl⟩
theorem own_d4_11 : own_D prog_147_method_5_code 11 (.iload 5) 2 13 := ⟨by decide +kernel, rfl⟩
theorem own_d4_13 : own_D prog_147_method_5_code 13 (.aload_n 0) 1 14 := ⟨by decide +kernel, rfl⟩
theorem own_d4_14 : own_D prog_147_method_5_code 14 (.getfield 7) 3 17 := ⟨by decide +kernel, rfl⟩
theorem own_d4_17 : own_D prog_147_method_5_code 17 (.aload_n 1) 1 18 := ⟨by decide +kernel, rfl⟩
theorem own_d4_18 : own_D prog_147_method_5_code 18 (.iload 5) 2 20 := ⟨by decide +kernel, rfl⟩
theorem own_d4_20 : own_D prog_147_method_5_code 20 (.iaload) 1 21 := ⟨by decide +kernel, rfl⟩
theorem own_d4_21 : own_D prog_147_method_5_code 21 (.aload_n 0) 1 22 := ⟨by decide +kernel, rfl⟩
theorem own_d4_22 : own_D prog_147_method_5_code 22 (.getfield 13) 3 25 := ⟨by decide +kernel, rfl⟩
theorem own_d4_25 : own_D prog_147_method_5_code 25 (.imul) 1 26 := ⟨by decide +kernel, rfl⟩
theorem own_d4_26 : own_D prog_147_method_5_code 26 (.aload_n 2) 1 27 := ⟨by decide +kernel, rfl⟩
theorem own_d4_27 : own_D prog_147_method_5_code 27 (.iload 5) 2 29 := ⟨by decide +kernel, rfl⟩
theorem own_d4_29 : own_D prog_147_method_5_code 29 (.iaload) 1 30 := ⟨by decide +kernel, rfl⟩
theorem own_d4_30 : own_D prog_147_method_5_code 30 (.aload_n 0) 1 31 := ⟨by decide +kernel, rfl⟩
theorem own_d4_31 : own_D prog_147_method_5_code 31 (.getfield 17) 3 34 := ⟨by decide +kernel, rfl⟩
theorem own_d4_34 : own_D prog_147_method_5_code 34 (.imul) 1 35 := ⟨by decide +kernel, rfl⟩
theorem own_d4_35 : own_D prog_147_method_5_code 35 (.iadd) 1 36 := ⟨by decide +kernel, rfl⟩
theorem own_d4_36 : own_D prog_147_method_5_code 36 (.daload) 1 37 := ⟨by decide +kernel, rfl⟩
theorem own_d4_37 : own_D prog_147_method_5_code 37 (.dastore) 1 38 := ⟨by decide +kernel, rfl⟩
theorem own_d4_38 : own_D prog_147_method_5_code 38 (.iinc 5 1) 3 41 := ⟨by decide +kernel, rfl⟩
theorem own_d4_41 : own_B prog_147_method_5_code 41 (.goto (-38)) (-38) 44 3 := ⟨by decide +kernel, rfl, by decide, by decide⟩
theorem own_d5_0 : own_D method_5_code 0 (.iload_n 0) 1 1 := ⟨by decide +kernel, rfl⟩
theorem own_d5_1 : own_B method_5_code 1 (.ifCond .ne 12) 12 4 13 := ⟨by decide +kernel, rfl, by decide, by decide⟩
theorem own_d5_4 : own_D method_5_code 4 (.aload_n 2) 1 5 := ⟨by decide +kernel, rfl⟩
theorem own_d5_5 : own_D method_5_code 5 (.iload_n 3) 1 6 := ⟨by decide +kernel, rfl⟩
theorem own_d5_6 : own_D method_5_code 6 (.iload_n 1) 1 7 := ⟨by decide +kernel, rfl⟩
theorem own_d5_7 : own_D method_5_code 7 (.imul) 1 8 := ⟨by decide +kernel, rfl⟩
theorem own_d5_8 : own_D method_5_code 8 (.iload 4) 2 10 := ⟨by decide +kernel, rfl⟩
theorem own_d5_10 : own_D method_5_code 10 (.iadd) 1 11 := ⟨by decide +kernel, rfl⟩
theorem own_d5_11 : own_D method_5_code 11 (.daload) 1 12 := ⟨by decide +kernel, rfl⟩
theorem own_d5_12 : own_D method_5_code 12 (.dreturn) 1 13 := ⟨by decide +kernel, rfl⟩
theorem own_d5_13 : own_D method_5_code 13 (.iload_n 0) 1 14 := ⟨by decide +kernel, rfl⟩
theorem own_d5_14 : own_D method_5_code 14 (.iconst 1) 1 15 := ⟨by decide +kernel, rfl⟩
theorem own_d5_15 : own_B method_5_code 15 (.if_icmp .ne 8) 8 18 23 := ⟨by decide +kernel, rfl, by decide, by decide⟩
theorem own_d5_18 : own_D method_5_code 18 (.aload_n 2) 1 19 := ⟨by decide +kernel, rfl⟩
theorem own_d5_19 : own_D method_5_code 19 (.iload 4) 2 21 := ⟨by decide +kernel, rfl⟩
theorem own_d5_21 : own_D method_5_code 21 (.daload) 1 22 := ⟨by decide +kernel, rfl⟩
theorem own_d5_22 : own_D method_5_code 22 (.dreturn) 1 23 := ⟨by decide +kernel, rfl⟩
theorem own_d5_23 : own_D method_5_code 23 (.iload_n 0) 1 24 := ⟨by decide +kernel, rfl⟩
theorem own_d5_24 : own_D method_5_code 24 (.iconst 2) 1 25 := ⟨by decide +kernel, rfl⟩
theorem own_d5_25 : own_B method_5_code 25 (.if_icmp .ne 7) 7 28 32 := ⟨by decide +kernel, rfl, by decide, by decide⟩
theorem own_d5_28 : own_D method_5_code 28 (.aload_n 2) 1 29 := ⟨by decide +kernel, rfl⟩
theorem own_d5_29 : own_D method_5_code 29 (.iload_n 3) 1 30 := ⟨by decide +kernel, rfl⟩
theorem own_d5_30 : own_D method_5_code 30 (.daload) 1 31 := ⟨by decide +kernel, rfl⟩
theorem own_d5_31 : own_D method_5_code 31 (.dreturn) 1 32 := ⟨by decide +kernel, rfl⟩
theorem own_d5_32 : own_D method_5_code 32 (.aload_n 2) 1 33 := ⟨by decide +kernel, rfl⟩
theorem own_d5_33 : own_D method_5_code 33 (.iconst 0) 1 34 := ⟨by decide +kernel, rfl⟩
theorem own_d5_34 : own_D method_5_code 34 (.daload) 1 35 := ⟨by decide +kernel, rfl⟩
theorem own_d5_35 : own_D method_5_code 35 (.dreturn) 1 36 := ⟨by decide +kernel, rfl⟩
theorem own_d6_0 : own_D method_6_code 0 (.iload_n 1) 1 1 := ⟨by decide +kernel, rfl⟩
theorem own_d6_1 : own_D method_6_code 1 (.iload_n 2) 1 2 := ⟨by decide +kernel, rfl⟩
theorem own_d6_2 : own_B method_6_code 2 (.if_icmp .ge 17) 17 5 19 := ⟨by decide +kernel, rfl, by decide, by decide⟩
theorem own_d6_19 : own_D method_6_code 19 (.aload_n 0) 1 20 := ⟨by decide +kernel, rfl⟩
theorem own_d6_20 : own_D method_6_code 20 (.iload_n 1) 1 21 := ⟨by decide +kernel, rfl⟩
theorem own_d6_21 : own_D method_6_code 21 (.daload) 1 22 := ⟨by decide +kernel, rfl⟩
theorem own_d6_22 : own_D method_6_code 22 (.ldc2_w 17) 3 25 := ⟨by decide +kernel, rfl⟩
theorem own_d6_25 : own_D method_6_code 25 (.dcmp .l) 1 26 := ⟨by decide +kernel, rfl⟩
theorem own_d6_26 : own_B method_6_code 26 (.ifCond .ne 7) 7 29 33 := ⟨by decide +kernel, rfl, by decide, by decide⟩
theorem own_d6_29 : own_D method_6_code 29 (.iconst 1) 1 30 := ⟨by decide +kernel, rfl⟩
theorem own_d6_30 : own_B method_6_code 30 (.goto 4) 4 33 34 := ⟨by decide +kernel, rfl, by decide, by decide⟩
theorem own_d6_34 : own_D method_6_code 34 (.ireturn) 1 35 := ⟨by decide +kernel, rfl⟩
theorem own_d6_5 : own_D method_6_code 5 (.aload_n 0) 1 6 := ⟨by decide +kernel, rfl⟩
theorem own_d6_6 : own_D method_6_code 6 (.iload_n 1) 1 7 := ⟨by decide +kernel, rfl⟩
theorem own_d6_7 : own_D method_6_code 7 (.daload) 1 8 := ⟨by decide +kernel, rfl⟩
theorem own_d6_8 : own_D method_6_code 8 (.dload_n 3) 1 9 := ⟨by decide +kernel, rfl⟩
theorem own_d6_9 : own_D method_6_code 9 (.dcmp .l) 1 10 := ⟨by decide +kernel, rfl⟩
theorem own_d6_10 : own_B method_6_code 10 (.ifCond .ne 7) 7 13 17 := ⟨by decide +kernel, rfl, by decide, by decide⟩
theorem own_d6_13 : own_D method_6_code 13 (.iconst 1) 1 14 := ⟨by decide +kernel, rfl⟩
theorem own_d6_14 : own_B method_6_code 14 (.goto 4) 4 17 18 := ⟨by decide +kernel, rfl, by decide, by decide⟩
theorem own_d6_18 : own_D method_6_code 18 (.ireturn) 1 19 := ⟨by decide +kernel, rfl⟩
theorem own_d7_0 : own_D code 0 (.iload_n 0) 1 1 := ⟨by decide +kernel, rfl⟩
theorem own_d7_1 : own_D code 1 (.iconst 3) 1 2 := ⟨by decide +kernel, rfl⟩
theorem own_d7_2 : own_D code 2 (.iand) 1 3 := ⟨by decide +kernel, rfl⟩
theorem own_d7_3 : own_D code 3 (.iconst 3) 1 4 := ⟨by decide +kernel, rfl⟩
theorem own_d7_4 : own_D code 4 (.irem) 1 5 := ⟨by decide +kernel, rfl⟩
theorem own_d7_5 : own_D code 5 (.iconst 1) 1 6 := ⟨by decide +kernel, rfl⟩
theorem own_d7_6 : own_D code 6 (.iadd) 1 7 := ⟨by decide +kernel, rfl⟩
theorem own_d7_7 : own_D code 7 (.istore 7) 2 9 := ⟨by decide +kernel, rfl⟩
theorem own_d7_9 : own_D code 9 (.iload_n 0) 1 10 := ⟨by decide +kernel, rfl⟩
theorem own_d7_10 : own_D code 10 (.iconst 2) 1 11 := ⟨by decide +kernel, rfl⟩
theorem own_d7_11 : own_D code 11 (.iushr) 1 12 := ⟨by decide +kernel, rfl⟩
theorem own_d7_12 : own_D code 12 (.iconst 3) 1 13 := ⟨by decide +kernel, rfl⟩
theorem own_d7_13 : own_D code 13 (.iand) 1 14 := ⟨by decide +kernel, rfl⟩
theorem own_d7_14 : own_D code 14 (.iconst 3) 1 15 := ⟨by decide +kernel, rfl⟩
theorem own_d7_15 : own_D code 15 (.irem) 1 16 := ⟨by decide +kernel, rfl⟩
theorem own_d7_16 : own_D code 16 (.iconst 1) 1 17 := ⟨by decide +kernel, rfl⟩
theorem own_d7_17 : own_D code 17 (.iadd) 1 18 := ⟨by decide +kernel, rfl⟩
theorem own_d7_18 : own_D code 18 (.istore 8) 2 20 := ⟨by decide +kernel, rfl⟩
theorem own_d7_20 : own_D code 20 (.iload_n 1) 1 21 := ⟨by decide +kernel, rfl⟩
theorem own_d7_21 : own_D code 21 (.iconst 3) 1 22 := ⟨by decide +kernel, rfl⟩
theorem own_d7_22 : own_D code 22 (.iand) 1 23 := ⟨by decide +kernel, rfl⟩
theorem own_d7_23 : own_D code 23 (.istore 9) 2 25 := ⟨by decide +kernel, rfl⟩
theorem own_d7_25 : own_D code 25 (.iload 4) 2 27 := ⟨by decide +kernel, rfl⟩
theorem own_d7_27 : own_D code 27 (.bipush 7) 2 29 := ⟨by decide +kernel, rfl⟩
theorem own_d7_29 : own_D code 29 (.iand) 1 30 := ⟨by decide +kernel, rfl⟩
theorem own_d7_30 : own_D code 30 (.iconst 5) 1 31 := ⟨by decide +kernel, rfl⟩
theorem own_d7_31 : own_D code 31 (.irem) 1 32 := ⟨by decide +kernel, rfl⟩
theorem own_d7_32 : own_D code 32 (.istore 10) 2 34 := ⟨by decide +kernel, rfl⟩
theorem own_d7_34 : own_D code 34 (.iload 9) 2 36 := ⟨by decide +kernel, rfl⟩
theorem own_d7_36 : own_B code 36 (.ifCond .ne 8) 8 39 44 := ⟨by decide +kernel, rfl, by decide, by decide⟩
theorem own_d7_39 : own_D code 39 (.iload 8) 2 41 := ⟨by decide +kernel, rfl⟩
theorem own_d7_41 : own_B code 41 (.goto 14) 14 44 55 := ⟨by decide +kernel, rfl, by decide, by decide⟩
theorem own_d7_55 : own_D code 55 (.istore 11) 2 57 := ⟨by decide +kernel, rfl⟩
theorem own_d7_57 : own_D code 57 (.iload 9) 2 59 := ⟨by decide +kernel, rfl⟩
theorem own_d7_59 : own_B code 59 (.ifCond .eq 9) 9 62 68 := ⟨by decide +kernel, rfl, by decide, by decide⟩
theorem own_d7_68 : own_D code 68 (.iconst 1) 1 69 := ⟨by decide +kernel, rfl⟩
theorem own_d7_69 : own_B code 69 (.goto 4) 4 72 73 := ⟨by decide +kernel, rfl, by decide, by decide⟩
theorem own_d7_73 : own_D code 73 (.istore 12) 2 75 := ⟨by decide +kernel, rfl⟩
theorem own_d7_75 : own_D code 75 (.bipush 9) 2 77 := ⟨by decide +kernel, rfl⟩
theorem own_d7_77 : own_D code 77 (.newarray .double) 2 79 := ⟨by decide +kernel, rfl⟩
theorem own_d7_79 : own_D code 79 (.dup) 1 80 := ⟨by decide +kernel, rfl⟩
theorem own_d7_80 : own_D code 80 (.iconst 0) 1 81 := ⟨by decide +kernel, rfl⟩
theorem own_d7_81 : own_D code 81 (.lload 5) 2 83 := ⟨by decide +kernel, rfl⟩
theorem own_d7_83 : own_D code 83 (.iconst 0) 1 84 := ⟨by decide +kernel, rfl⟩
theorem own_d7_84 : own_D code 84 (.invokestatic 7) 3 87 := ⟨by decide +kernel, rfl⟩
theorem own_d7_87 : own_D code 87 (.dastore) 1 88 := ⟨by decide +kernel, rfl⟩
theorem own_d7_88 : own_D code 88 (.dup) 1 89 := ⟨by decide +kernel, rfl⟩
theorem own_d7_89 : own_D code 89 (.iconst 1) 1 90 := ⟨by decide +kernel, rfl⟩
theorem own_d7_90 : own_D code 90 (.lload 5) 2 92 := ⟨by decide +kernel, rfl⟩
theorem own_d7_92 : own_D code 92 (.iconst 1) 1 93 := ⟨by decide +kernel, rfl⟩
theorem own_d7_93 : own_D code 93 (.invokestatic 7) 3 96 := ⟨by decide +kernel, rfl⟩
theorem own_d7_96 : own_D code 96 (.dastore) 1 97 := ⟨by decide +kernel, rfl⟩
theorem own_d7_97 : own_D code 97 (.dup) 1 98 := ⟨by decide +kernel, rfl⟩
theorem own_d7_98 : own_D code 98 (.iconst 2) 1 99 := ⟨by decide +kernel, rfl⟩
theorem own_d7_99 : own_D code 99 (.lload 5) 2 101 := ⟨by decide +kernel, rfl⟩
theorem own_d7_101 : own_D code 101 (.iconst 2) 1 102 := ⟨by decide +kernel, rfl⟩
theorem own_d7_102 : own_D code 102 (.invokestatic 7) 3 105 := ⟨by decide +kernel, rfl⟩
theorem own_d7_105 : own_D code 105 (.dastore) 1 106 := ⟨by decide +kernel, rfl⟩
theorem own_d7_106 : own_D code 106 (.dup) 1 107 := ⟨by decide +kernel, rfl⟩
theorem own_d7_107 : own_D code 107 (.iconst 3) 1 108 := ⟨by decide +kernel, rfl⟩
theorem own_d7_108 : own_D code 108 (.lload 5) 2 110 := ⟨by decide +kernel, rfl⟩
theorem own_d7_110 : own_D code 110 (.iconst 3) 1 111 := ⟨by decide +kernel, rfl⟩
theorem own_d7_111 : own_D code 111 (.invokestatic 7) 3 114 := ⟨by decide +kernel, rfl⟩
theorem own_d7_114 : own_D code 114 (.dastore) 1 115 := ⟨by decide +kernel, rfl⟩
theorem own_d7_115 : own_D code 115 (.dup) 1 116 := ⟨by decide +kernel, rfl⟩
theorem own_d7_116 : own_D code 116 (.iconst 4) 1 117 := ⟨by decide +kernel, rfl⟩
theorem own_d7_117 : own_D code 117 (.lload 5) 2 119 := ⟨by decide +kernel, rfl⟩
theorem own_d7_119 : own_D code 119 (.iconst 4) 1 120 := ⟨by decide +kernel, rfl⟩
theorem own_d7_120 : own_D code 120 (.invokestatic 7) 3 123 := ⟨by decide +kernel, rfl⟩
theorem own_d7_123 : own_D code 123 (.dastore) 1 124 := ⟨by decide +kernel, rfl⟩
theorem own_d7_124 : own_D code 124 (.dup) 1 125 := ⟨by decide +kernel, rfl⟩
theorem own_d7_125 : own_D code 125 (.iconst 5) 1 126 := ⟨by decide +kernel, rfl⟩
theorem own_d7_126 : own_D code 126 (.lload 5) 2 128 := ⟨by decide +kernel, rfl⟩
theorem own_d7_128 : own_D code 128 (.iconst 5) 1 129 := ⟨by decide +kernel, rfl⟩
theorem own_d7_129 : own_D code 129 (.invokestatic 7) 3 132 := ⟨by decide +kernel, rfl⟩
theorem own_d7_132 : own_D code 132 (.dastore) 1 133 := ⟨by decide +kernel, rfl⟩
theorem own_d7_133 : own_D code 133 (.dup) 1 134 := ⟨by decide +kernel, rfl⟩
theorem own_d7_134 : own_D code 134 (.bipush 6) 2 136 := ⟨by decide +kernel, rfl⟩
theorem own_d7_136 : own_D code 136 (.lload 5) 2 138 := ⟨by decide +kernel, rfl⟩
theorem own_d7_138 : own_D code 138 (.bipush 6) 2 140 := ⟨by decide +kernel, rfl⟩
theorem own_d7_140 : own_D code 140 (.invokestatic 7) 3 143 := ⟨by decide +kernel, rfl⟩
theorem own_d7_143 : own_D code 143 (.dastore) 1 144 := ⟨by decide +kernel, rfl⟩
theorem own_d7_144 : own_D code 144 (.dup) 1 145 := ⟨by decide +kernel, rfl⟩
theorem own_d7_145 : own_D code 145 (.bipush 7) 2 147 := ⟨by decide +kernel, rfl⟩
theorem own_d7_147 : own_D code 147 (.lload 5) 2 149 := ⟨by decide +kernel, rfl⟩
theorem own_d7_149 : own_D code 149 (.bipush 7) 2 151 := ⟨by decide +kernel, rfl⟩
theorem own_d7_151 : own_D code 151 (.invokestatic 7) 3 154 := ⟨by decide +kernel, rfl⟩
theorem own_d7_154 : own_D code 154 (.dastore) 1 155 := ⟨by decide +kernel, rfl⟩
theorem own_d7_155 : own_D code 155 (.dup) 1 156 := ⟨by decide +kernel, rfl⟩
theorem own_d7_156 : own_D code 156 (.bipush 8) 2 158 := ⟨by decide +kernel, rfl⟩
theorem own_d7_158 : own_D code 158 (.lload 5) 2 160 := ⟨by decide +kernel, rfl⟩
theorem own_d7_160 : own_D code 160 (.bipush 8) 2 162 := ⟨by decide +kernel, rfl⟩
theorem own_d7_162 : own_D code 162 (.invokestatic 7) 3 165 := ⟨by decide +kernel, rfl⟩
theorem own_d7_165 : own_D code 165 (.dastore) 1 166 := ⟨by decide +kernel, rfl⟩
theorem own_d7_166 : own_D code 166 (.astore 13) 2 168 := ⟨by decide +kernel, rfl⟩
theorem own_d7_168 : own_D code 168 (.iconst 4) 1 169 := ⟨by decide +kernel, rfl⟩
theorem own_d7_169 : own_D code 169 (.newarray .int) 2 171 := ⟨by decide +kernel, rfl⟩
theorem own_d7_171 : own_D code 171 (.dup) 1 172 := ⟨by decide +kernel, rfl⟩
theorem own_d7_172 : own_D code 172 (.iconst 0) 1 173 := ⟨by decide +kernel, rfl⟩
theorem own_d7_173 : own_D code 173 (.iload_n 2) 1 174 := ⟨by decide +kernel, rfl⟩
theorem own_d7_174 : own_D code 174 (.iconst 0) 1 175 := ⟨by decide +kernel, rfl⟩
theorem own_d7_175 : own_D code 175 (.iload 7) 2 177 := ⟨by decide +kernel, rfl⟩
theorem own_d7_177 : own_D code 177 (.invokestatic 13) 3 180 := ⟨by decide +kernel, rfl⟩
theorem own_d7_180 : own_D code 180 (.iastore) 1 181 := ⟨by decide +kernel, rfl⟩
theorem own_d7_181 : own_D code 181 (.dup) 1 182 := ⟨by decide +kernel, rfl⟩
theorem own_d7_182 : own_D code 182 (.iconst 1) 1 183 := ⟨by decide +kernel, rfl⟩
theorem own_d7_183 : own_D code 183 (.iload_n 2) 1 184 := ⟨by decide +kernel, rfl⟩
theorem own_d7_184 : own_D code 184 (.iconst 1) 1 185 := ⟨by decide +kernel, rfl⟩
theorem own_d7_185 : own_D code 185 (.iload 7) 2 187 := ⟨by decide +kernel, rfl⟩
theorem own_d7_187 : own_D code 187 (.invokestatic 13) 3 190 := ⟨by decide +kernel, rfl⟩
theorem own_d7_190 : own_D code 190 (.iastore) 1 191 := ⟨by decide +kernel, rfl⟩
theorem own_d7_191 : own_D code 191 (.dup) 1 192 := ⟨by decide +kernel, rfl⟩
theorem own_d7_192 : own_D code 192 (.iconst 2) 1 193 := ⟨by decide +kernel, rfl⟩
theorem own_d7_193 : own_D code 193 (.iload_n 2) 1 194 := ⟨by decide +kernel, rfl⟩
theorem own_d7_194 : own_D code 194 (.iconst 2) 1 195 := ⟨by decide +kernel, rfl⟩
theorem own_d7_195 : own_D code 195 (.iload 7) 2 197 := ⟨by decide +kernel, rfl⟩
theorem own_d7_197 : own_D code 197 (.invokestatic 13) 3 200 := ⟨by decide +kernel, rfl⟩
theorem own_d7_200 : own_D code 200 (.iastore) 1 201 := ⟨by decide +kernel, rfl⟩
theorem own_d7_201 : own_D code 201 (.dup) 1 202 := ⟨by decide +kernel, rfl⟩
theorem own_d7_202 : own_D code 202 (.iconst 3) 1 203 := ⟨by decide +kernel, rfl⟩
theorem own_d7_203 : own_D code 203 (.iload_n 2) 1 204 := ⟨by decide +kernel, rfl⟩
theorem own_d7_204 : own_D code 204 (.iconst 3) 1 205 := ⟨by decide +kernel, rfl⟩
theorem own_d7_205 : own_D code 205 (.iload 7) 2 207 := ⟨by decide +kernel, rfl⟩
theorem own_d7_207 : own_D code 207 (.invokestatic 13) 3 210 := ⟨by decide +kernel, rfl⟩
theorem own_d7_210 : own_D code 210 (.iastore) 1 211 := ⟨by decide +kernel, rfl⟩
theorem own_d7_211 : own_D code 211 (.astore 14) 2 213 := ⟨by decide +kernel, rfl⟩
theorem own_d7_213 : own_D code 213 (.iconst 4) 1 214 := ⟨by decide +kernel, rfl⟩
theorem own_d7_214 : own_D code 214 (.newarray .int) 2 216 := ⟨by decide +kernel, rfl⟩
theorem own_d7_216 : own_D code 216 (.dup) 1 217 := ⟨by decide +kernel, rfl⟩
theorem own_d7_217 : own_D code 217 (.iconst 0) 1 218 := ⟨by decide +kernel, rfl⟩
theorem own_d7_218 : own_D code 218 (.iload_n 3) 1 219 := ⟨by decide +kernel, rfl⟩
theorem own_d7_219 : own_D code 219 (.iconst 0) 1 220 := ⟨by decide +kernel, rfl⟩
theorem own_d7_220 : own_D code 220 (.iload 8) 2 222 := ⟨by decide +kernel, rfl⟩
theorem own_d7_222 : own_D code 222 (.invokestatic 13) 3 225 := ⟨by decide +kernel, rfl⟩
theorem own_d7_225 : own_D code 225 (.iastore) 1 226 := ⟨by decide +kernel, rfl⟩
theorem own_d7_226 : own_D code 226 (.dup) 1 227 := ⟨by decide +kernel, rfl⟩
theorem own_d7_227 : own_D code 227 (.iconst 1) 1 228 := ⟨by decide +kernel, rfl⟩
theorem own_d7_228 : own_D code 228 (.iload_n 3) 1 229 := ⟨by decide +kernel, rfl⟩
theorem own_d7_229 : own_D code 229 (.iconst 1) 1 230 := ⟨by decide +kernel, rfl⟩
theorem own_d7_230 : own_D code 230 (.iload 8) 2 232 := ⟨by decide +kernel, rfl⟩
theorem own_d7_232 : own_D code 232 (.invokestatic 13) 3 235 := ⟨by decide +kernel, rfl⟩
theorem own_d7_235 : own_D code 235 (.iastore) 1 236 := ⟨by decide +kernel, rfl⟩
theorem own_d7_236 : own_D code 236 (.dup) 1 237 := ⟨by decide +kernel, rfl⟩
theorem own_d7_237 : own_D code 237 (.iconst 2) 1 238 := ⟨by decide +kernel, rfl⟩
theorem own_d7_238 : own_D code 238 (.iload_n 3) 1 239 := ⟨by decide +kernel, rfl⟩
theorem own_d7_239 : own_D code 239 (.iconst 2) 1 240 := ⟨by decide +kernel, rfl⟩
theorem own_d7_240 : own_D code 240 (.iload 8) 2 242 := ⟨by decide +kernel, rfl⟩
theorem own_d7_242 : own_D code 242 (.invokestatic 13) 3 245 := ⟨by decide +kernel, rfl⟩
theorem own_d7_245 : own_D code 245 (.iastore) 1 246 := ⟨by decide +kernel, rfl⟩
theorem own_d7_246 : own_D code 246 (.dup) 1 247 := ⟨by decide +kernel, rfl⟩
theorem own_d7_247 : own_D code 247 (.iconst 3) 1 248 := ⟨by decide +kernel, rfl⟩
theorem own_d7_248 : own_D code 248 (.iload_n 3) 1 249 := ⟨by decide +kernel, rfl⟩
theorem own_d7_249 : own_D code 249 (.iconst 3) 1 250 := ⟨by decide +kernel, rfl⟩
theorem own_d7_250 : own_D code 250 (.iload 8) 2 252 := ⟨by decide +kernel, rfl⟩
theorem own_d7_252 : own_D code 252 (.invokestatic 13) 3 255 := ⟨by decide +kernel, rfl⟩
theorem own_d7_255 : own_D code 255 (.iastore) 1 256 := ⟨by decide +kernel, rfl⟩
theorem own_d7_256 : own_D code 256 (.astore 15) 2 258 := ⟨by decide +kernel, rfl⟩
theorem own_d7_258 : own_D code 258 (.iconst 5) 1 259 := ⟨by decide +kernel, rfl⟩
theorem own_d7_259 : own_D code 259 (.newarray .double) 2 261 := ⟨by decide +kernel, rfl⟩
theorem own_d7_261 : own_D code 261 (.dup) 1 262 := ⟨by decide +kernel, rfl⟩
theorem own_d7_262 : own_D code 262 (.iconst 0) 1 263 := ⟨by decide +kernel, rfl⟩
theorem own_d7_263 : own_D code 263 (.ldc2_w 17) 3 266 := ⟨by decide +kernel, rfl⟩
theorem own_d7_266 : own_D code 266 (.dastore) 1 267 := ⟨by decide +kernel, rfl⟩
theorem own_d7_267 : own_D code 267 (.dup) 1 268 := ⟨by decide +kernel, rfl⟩
theorem own_d7_268 : own_D code 268 (.iconst 1) 1 269 := ⟨by decide +kernel, rfl⟩
theorem own_d7_269 : own_D code 269 (.ldc2_w 17) 3 272 := ⟨by decide +kernel, rfl⟩
theorem own_d7_272 : own_D code 272 (.dastore) 1 273 := ⟨by decide +kernel, rfl⟩
theorem own_d7_273 : own_D code 273 (.dup) 1 274 := ⟨by decide +kernel, rfl⟩
theorem own_d7_274 : own_D code 274 (.iconst 2) 1 275 := ⟨by decide +kernel, rfl⟩
theorem own_d7_275 : own_D code 275 (.ldc2_w 17) 3 278 := ⟨by decide +kernel, rfl⟩
theorem own_d7_278 : own_D code 278 (.dastore) 1 279 := ⟨by decide +kernel, rfl⟩
theorem own_d7_279 : own_D code 279 (.dup) 1 280 := ⟨by decide +kernel, rfl⟩
theorem own_d7_280 : own_D code 280 (.iconst 3) 1 281 := ⟨by decide +kernel, rfl⟩
theorem own_d7_281 : own_D code 281 (.ldc2_w 17) 3 284 := ⟨by decide +kernel, rfl⟩
theorem own_d7_284 : own_D code 284 (.dastore) 1 285 := ⟨by decide +kernel, rfl⟩
theorem own_d7_285 : own_D code 285 (.dup) 1 286 := ⟨by decide +kernel, rfl⟩
theorem own_d7_286 : own_D code 286 (.iconst 4) 1 287 := ⟨by decide +kernel, rfl⟩
theorem own_d7_287 : own_D code 287 (.ldc2_w 17) 3 290 := ⟨by decide +kernel, rfl⟩
theorem own_d7_290 : own_D code 290 (.dastore) 1 291 := ⟨by decide +kernel, rfl⟩
theorem own_d7_291 : own_D code 291 (.astore 16) 2 293 := ⟨by decide +kernel, rfl⟩
theorem own_d7_293 : own_D code 293 (.new 19) 3 296 := ⟨by decide +kernel, rfl⟩
theorem own_d7_296 : own_D code 296 (.dup) 1 297 := ⟨by decide +kernel, rfl⟩
theorem own_d7_297 : own_D code 297 (.aload 13) 2 299 := ⟨by decide +kernel, rfl⟩
theorem own_d7_299 : own_D code 299 (.iload 11) 2 301 := ⟨by decide +kernel, rfl⟩
theorem own_d7_301 : own_D code 301 (.iload 12) 2 303 := ⟨by decide +kernel, rfl⟩
theorem own_d7_303 : own_D code 303 (.invokespecial 21) 3 306 := ⟨by decide +kernel, rfl⟩
theorem own_d7_306 : own_D code 306 (.aload 14) 2 308 := ⟨by decide +kernel, rfl⟩
theorem own_d7_308 : own_D code 308 (.aload 15) 2 310 := ⟨by decide +kernel, rfl⟩
theorem own_d7_310 : own_D code 310 (.iload 10) 2 312 := ⟨by decide +kernel, rfl⟩
theorem own_d7_312 : own_D code 312 (.aload 16) 2 314 := ⟨by decide +kernel, rfl⟩
theorem own_d7_314 : own_D code 314 (.invokevirtual 24) 3 317 := ⟨by decide +kernel, rfl⟩
theorem own_d7_317 : own_D code 317 (.aload 16) 2 319 := ⟨by decide +kernel, rfl⟩
theorem own_d7_319 : own_D code 319 (.iconst 0) 1 320 := ⟨by decide +kernel, rfl⟩
theorem own_d7_320 : own_D code 320 (.iload 10) 2 322 := ⟨by decide +kernel, rfl⟩
theorem own_d7_322 : own_D code 322 (.iload 9) 2 324 := ⟨by decide +kernel, rfl⟩
theorem own_d7_324 : own_D code 324 (.iload 8) 2 326 := ⟨by decide +kernel, rfl⟩
theorem own_d7_326 : own_D code 326 (.aload 13) 2 328 := ⟨by decide +kernel, rfl⟩
theorem own_d7_328 : own_D code 328 (.aload 14) 2 330 := ⟨by decide +kernel, rfl⟩
theorem own_d7_330 : own_D code 330 (.iconst 0) 1 331 := ⟨by decide +kernel, rfl⟩
theorem own_d7_331 : own_D code 331 (.iaload) 1 332 := ⟨by decide +kernel, rfl⟩
theorem own_d7_332 : own_D code 332 (.aload 15) 2 334 := ⟨by decide +kernel, rfl⟩
theorem own_d7_334 : own_D code 334 (.iconst 0) 1 335 := ⟨by decide +kernel, rfl⟩
theorem own_d7_335 : own_D code 335 (.iaload) 1 336 := ⟨by decide +kernel, rfl⟩
theorem own_d7_336 : own_D code 336 (.invokestatic 28) 3 339 := ⟨by decide +kernel, rfl⟩
theorem own_d7_339 : own_D code 339 (.invokestatic 32) 3 342 := ⟨by decide +kernel, rfl⟩
theorem own_d7_342 : own_B code 342 (.ifCond .eq 102) 102 345 444 := ⟨by decide +kernel, rfl, by decide, by decide⟩
theorem own_d7_345 : own_D code 345 (.aload 16) 2 347 := ⟨by decide +kernel, rfl⟩
theorem own_d7_347 : own_D code 347 (.iconst 1) 1 348 := ⟨by decide +kernel, rfl⟩
theorem own_d7_348 : own_D code 348 (.iload 10) 2 350 := ⟨by decide +kernel, rfl⟩
theorem own_d7_350 : own_D code 350 (.iload 9) 2 352 := ⟨by decide +kernel, rfl⟩
theorem own_d7_352 : own_D code 352 (.iload 8) 2 354 := ⟨by decide +kernel, rfl⟩
theorem own_d7_354 : own_D code 354 (.aload 13) 2 356 := ⟨by decide +kernel, rfl⟩
theorem own_d7_356 : own_D code 356 (.aload 14) 2 358 := ⟨by decide +kernel, rfl⟩
theorem own_d7_358 : own_D code 358 (.iconst 1) 1 359 := ⟨by decide +kernel, rfl⟩
theorem own_d7_359 : own_D code 359 (.iaload) 1 360 := ⟨by decide +kernel, rfl⟩
theorem own_d7_360 : own_D code 360 (.aload 15) 2 362 := ⟨by decide +kernel, rfl⟩
theorem own_d7_362 : own_D code 362 (.iconst 1) 1 363 := ⟨by decide +kernel, rfl⟩
theorem own_d7_363 : own_D code 363 (.iaload) 1 364 := ⟨by decide +kernel, rfl⟩
theorem own_d7_364 : own_D code 364 (.invokestatic 28) 3 367 := ⟨by decide +kernel, rfl⟩
theorem own_d7_367 : own_D code 367 (.invokestatic 32) 3 370 := ⟨by decide +kernel, rfl⟩
theorem own_d7_370 : own_B code 370 (.ifCond .eq 74) 74 373 444 := ⟨by decide +kernel, rfl, by decide, by decide⟩
theorem own_d7_373 : own_D code 373 (.aload 16) 2 375 := ⟨by decide +kernel, rfl⟩
theorem own_d7_375 : own_D code 375 (.iconst 2) 1 376 := ⟨by decide +kernel, rfl⟩
theorem own_d7_376 : own_D code 376 (.iload 10) 2 378 := ⟨by decide +kernel, rfl⟩
theorem own_d7_378 : own_D code 378 (.iload 9) 2 380 := ⟨by decide +kernel, rfl⟩
theorem own_d7_380 : own_D code 380 (.iload 8) 2 382 := ⟨by decide +kernel, rfl⟩
theorem own_d7_382 : own_D code 382 (.aload 13) 2 384 := ⟨by decide +kernel, rfl⟩
theorem own_d7_384 : own_D code 384 (.aload 14) 2 386 := ⟨by decide +kernel, rfl⟩
theorem own_d7_386 : own_D code 386 (.iconst 2) 1 387 := ⟨by decide +kernel, rfl⟩
theorem own_d7_387 : own_D code 387 (.iaload) 1 388 := ⟨by decide +kernel, rfl⟩
theorem own_d7_388 : own_D code 388 (.aload 15) 2 390 := ⟨by decide +kernel, rfl⟩
theorem own_d7_390 : own_D code 390 (.iconst 2) 1 391 := ⟨by decide +kernel, rfl⟩
theorem own_d7_391 : own_D code 391 (.iaload) 1 392 := ⟨by decide +kernel, rfl⟩
theorem own_d7_392 : own_D code 392 (.invokestatic 28) 3 395 := ⟨by decide +kernel, rfl⟩
theorem own_d7_395 : own_D code 395 (.invokestatic 32) 3 398 := ⟨by decide +kernel, rfl⟩
theorem own_d7_398 : own_B code 398 (.ifCond .eq 46) 46 401 444 := ⟨by decide +kernel, rfl, by decide, by decide⟩
theorem own_d7_401 : own_D code 401 (.aload 16) 2 403 := ⟨by decide +kernel, rfl⟩
theorem own_d7_403 : own_D code 403 (.iconst 3) 1 404 := ⟨by decide +kernel, rfl⟩
theorem own_d7_404 : own_D code 404 (.iload 10) 2 406 := ⟨by decide +kernel, rfl⟩
theorem own_d7_406 : own_D code 406 (.iload 9) 2 408 := ⟨by decide +kernel, rfl⟩
theorem own_d7_408 : own_D code 408 (.iload 8) 2 410 := ⟨by decide +kernel, rfl⟩
theorem own_d7_410 : own_D code 410 (.aload 13) 2 412 := ⟨by decide +kernel, rfl⟩
theorem own_d7_412 : own_D code 412 (.aload 14) 2 414 := ⟨by decide +kernel, rfl⟩
theorem own_d7_414 : own_D code 414 (.iconst 3) 1 415 := ⟨by decide +kernel, rfl⟩
theorem own_d7_415 : own_D code 415 (.iaload) 1 416 := ⟨by decide +kernel, rfl⟩
theorem own_d7_416 : own_D code 416 (.aload 15) 2 418 := ⟨by decide +kernel, rfl⟩
theorem own_d7_418 : own_D code 418 (.iconst 3) 1 419 := ⟨by decide +kernel, rfl⟩
theorem own_d7_419 : own_D code 419 (.iaload) 1 420 := ⟨by decide +kernel, rfl⟩
theorem own_d7_420 : own_D code 420 (.invokestatic 28) 3 423 := ⟨by decide +kernel, rfl⟩
theorem own_d7_423 : own_D code 423 (.invokestatic 32) 3 426 := ⟨by decide +kernel, rfl⟩
theorem own_d7_426 : own_B code 426 (.ifCond .eq 18) 18 429 444 := ⟨by decide +kernel, rfl, by decide, by decide⟩
theorem own_d7_429 : own_D code 429 (.aload 16) 2 431 := ⟨by decide +kernel, rfl⟩
theorem own_d7_431 : own_D code 431 (.iconst 4) 1 432 := ⟨by decide +kernel, rfl⟩
theorem own_d7_432 : own_D code 432 (.daload) 1 433 := ⟨by decide +kernel, rfl⟩
theorem own_d7_433 : own_D code 433 (.ldc2_w 17) 3 436 := ⟨by decide +kernel, rfl⟩
theorem own_d7_436 : own_D code 436 (.dcmp .l) 1 437 := ⟨by decide +kernel, rfl⟩
theorem own_d7_437 : own_B code 437 (.ifCond .ne 7) 7 440 444 := ⟨by decide +kernel, rfl, by decide, by decide⟩
theorem own_d7_440 : own_D code 440 (.iconst 1) 1 441 := ⟨by decide +kernel, rfl⟩
theorem own_d7_441 : own_B code 441 (.goto 4) 4 444 445 := ⟨by decide +kernel, rfl, by decide, by decide⟩
theorem own_d7_445 : own_D code 445 (.ireturn) 1 446 := ⟨by decide +kernel, rfl⟩
theorem own_d7_44 : own_D code 44 (.iload 9) 2 46 := ⟨by decide +kernel, rfl⟩
theorem own_d7_46 : own_D code 46 (.iconst 2) 1 47 := ⟨by decide +kernel, rfl⟩
theorem own_d7_47 : own_B code 47 (.if_icmp .ne 7) 7 50 54 := ⟨by decide +kernel, rfl, by decide, by decide⟩
theorem own_d7_54 : own_D code 54 (.iconst 0) 1 55 := ⟨by decide +kernel, rfl⟩
theorem own_d7_62 : own_D code 62 (.iload 9) 2 64 := ⟨by decide +kernel, rfl⟩
theorem own_d7_64 : own_D code 64 (.iconst 1) 1 65 := ⟨by decide +kernel, rfl⟩
theorem own_d7_65 : own_B code 65 (.if_icmp .ne 7) 7 68 72 := ⟨by decide +kernel, rfl, by decide, by decide⟩
theorem own_d7_50 : own_D code 50 (.iconst 1) 1 51 := ⟨by decide +kernel, rfl⟩
theorem own_d7_51 : own_B code 51 (.goto 4) 4 54 55 := ⟨by decide +kernel, rfl, by decide, by decide⟩
theorem own_d7_72 : own_D code 72 (.iconst 0) 1 73 := ⟨by decide +kernel, rfl⟩
theorem own_pd0 : parseMethodDescriptor "()V" = some ⟨[], none⟩ := by decide +kernel
theorem own_pd1 : parseMethodDescriptor "(JI)D" = some ⟨[.long, .int], some .double⟩ := by decide +kernel
theorem own_pd2 : parseMethodDescriptor "(III)I" = some ⟨[.int, .int, .int], some .int⟩ := by decide +kernel
theorem own_pd3 : parseMethodDescriptor "([DII)V" = some ⟨[(.array .double), .int, .int], none⟩ := by decide +kernel
theorem own_pd4 : parseMethodDescriptor "([I[II[D)V" = some ⟨[(.array .int), (.array .int), .int, (.array .double)], none⟩ := by decide +kernel
theorem own_pd5 : parseMethodDescriptor "(II[DII)D" = some ⟨[.int, .int, (.array .double), .int, .int], some .double⟩ := by decide +kernel
theorem own_pd6 : parseMethodDescriptor "([DIID)Z" = some ⟨[(.array .double), .int, .int, .double], some .boolean⟩ := by decide +kernel
abbrev own_OP (a : Addr) (f0 f1 f2 : Value) : own_O := (a, "com/example/fuseplan/fuseplan/runtime/Operand", [("com/example/fuseplan/fuseplan/runtime/Operand", "cells", "[D", f0), ("com/example/fuseplan/fuseplan/runtime/Operand", "rowStride", "I", f1), ("com/example/fuseplan/fuseplan/runtime/Operand", "colStride", "I", f2)])
theorem own_OP_F {Z : State} {a0 : Array Value} (hw : own_Z Z a0) : ∀ f ∈ ([("com/example/fuseplan/fuseplan/runtime/Operand", "cells", "[D", .null), ("com/example/fuseplan/fuseplan/runtime/Operand", "rowStride", "I", (.int (0 : Int32))), ("com/example/fuseplan/fuseplan/runtime/Operand", "colStride", "I", (.int (0 : Int32)))] : List (String × String × String × Value)), Laid Z a0 "com/example/fuseplan/fuseplan/runtime/Operand" f.1 f.2.1 f.2.2.1 ∧ ∃ ty, parseFieldDescriptor f.2.2.1 = some ty ∧ f.2.2.2 = defaultValue ty := by
  intro f hf
  simp only [List.mem_cons, List.not_mem_nil, or_false] at hf
  rcases hf with rfl | rfl | rfl
  · exact ⟨Or.inr (own_w26 hw), (.array .double), by decide +kernel, rfl⟩
  · exact ⟨Or.inr (own_w28 hw), .int, by decide +kernel, rfl⟩
  · exact ⟨Or.inr (own_w30 hw), .int, by decide +kernel, rfl⟩
theorem own_OP_P {Z : State} {a0 : Array Value} (hw : own_Z Z a0) : ([("com/example/fuseplan/fuseplan/runtime/Operand", "cells", "[D", .null), ("com/example/fuseplan/fuseplan/runtime/Operand", "rowStride", "I", (.int (0 : Int32))), ("com/example/fuseplan/fuseplan/runtime/Operand", "colStride", "I", (.int (0 : Int32)))] : List (String × String × String × Value)).Pairwise (fun f g => Jvm.RoadKit.slotOf Z f.1 f.2.1 f.2.2.1 ≠ Jvm.RoadKit.slotOf Z g.1 g.2.1 g.2.2.1) := by
  simp only [List.pairwise_cons, List.mem_cons, List.not_mem_nil, or_false, forall_eq_or_imp, forall_eq, List.Pairwise.nil, and_true, false_implies, implies_true]
  exact ⟨⟨slot_ne (C := "com/example/fuseplan/fuseplan/runtime/Operand") (Or.inr (own_w26 hw)) (Or.inr (own_w28 hw)) (by decide) (t := (.array .double)) (by decide +kernel) (t' := .int) (by decide +kernel), slot_ne (C := "com/example/fuseplan/fuseplan/runtime/Operand") (Or.inr (own_w26 hw)) (Or.inr (own_w30 hw)) (by decide) (t := (.array .double)) (by decide +kernel) (t' := .int) (by decide +kernel)⟩, slot_ne (C := "com/example/fuseplan/fuseplan/runtime/Operand") (Or.inr (own_w28 hw)) (Or.inr (own_w30 hw)) (by decide) (t := .int) (by decide +kernel) (t' := .int) (by decide +kernel)⟩

theorem own_and3 (k : Int32) : k &&& 3 = 0 ∨ k &&& 3 = 1 ∨ k &&& 3 = 2 ∨ k &&& 3 = 3 := by
  have h : ∀ b : BitVec 32, b &&& 3#32 = 0#32 ∨ b &&& 3#32 = 1#32 ∨ b &&& 3#32 = 2#32 ∨ b &&& 3#32 = 3#32 := by
    intro b
    have q : (b &&& 3#32).toNat ≤ 3 := by rw [BitVec.toNat_and]; exact Nat.and_le_right
    bv_omega
  rcases h k.toBitVec with q | q | q | q
  · exact Or.inl (Int32.toBitVec_inj.mp q)
  · exact Or.inr (Or.inl (Int32.toBitVec_inj.mp q))
  · exact Or.inr (Or.inr (Or.inl (Int32.toBitVec_inj.mp q)))
  · exact Or.inr (Or.inr (Or.inr (Int32.toBitVec_inj.mp q)))
theorem own_and_bound (a b : Int32) (hb : 0 ≤ b.toInt) : 0 ≤ (a &&& b).toInt ∧ (a &&& b).toInt ≤ b.toInt := by
  have q : (a &&& b).toBitVec.toNat ≤ b.toBitVec.toNat := by
    show (a.toBitVec &&& b.toBitVec).toNat ≤ _
    rw [BitVec.toNat_and]; exact Nat.and_le_right
  have hb' : b.toInt = (b.toBitVec.toNat : Int) := by
    have : b.toInt = b.toBitVec.toInt := rfl
    rw [this] at hb ⊢
    rw [BitVec.toInt_eq_toNat_cond] at hb ⊢
    have := b.toBitVec.isLt
    split at hb <;> split <;> omega
  have hlt : 2 * b.toBitVec.toNat < 2 ^ 32 := by have := Int32.toInt_lt b; omega
  have : (a &&& b).toInt = (a &&& b).toBitVec.toInt := rfl
  rw [this, BitVec.toInt_eq_toNat_cond]
  split <;> omega
theorem own_add32 {a b : Int32} (h1 : -2147483648 ≤ a.toInt + b.toInt) (h2 : a.toInt + b.toInt ≤ 2147483647) : (a + b).toInt = a.toInt + b.toInt := by
  rw [Int32.toInt_add]; exact Int.bmod_eq_of_le (by omega) (by omega)
theorem own_sub32 {a b : Int32} (h1 : -2147483648 ≤ a.toInt - b.toInt) (h2 : a.toInt - b.toInt ≤ 2147483647) : (a - b).toInt = a.toInt - b.toInt := by
  rw [Int32.toInt_sub]; exact Int.bmod_eq_of_le (by omega) (by omega)
theorem own_mul32 {a b : Int32} (h1 : -2147483648 ≤ a.toInt * b.toInt) (h2 : a.toInt * b.toInt ≤ 2147483647) : (a * b).toInt = a.toInt * b.toInt := by
  rw [Int32.toInt_mul]; exact Int.bmod_eq_of_le (by omega) (by omega)
theorem own_rem32 {a b : Int32} (ha : 0 ≤ a.toInt) (hb : 0 < b.toInt) : 0 ≤ (a % b).toInt ∧ (a % b).toInt < b.toInt := by
  rw [Int32.toInt_mod]
  have h1 := Int.tmod_nonneg b.toInt ha
  have h2 := Int.tmod_lt_of_pos a.toInt hb
  omega
theorem own_i64 (a : Int32) : a.toInt64.toInt = a.toInt := by simp

theorem own_five {n : Int32} (h0 : 0 ≤ n.toInt) (h4 : n.toInt ≤ 4) : n = (0 : Int32) ∨ n = (1 : Int32) ∨ n = (2 : Int32) ∨ n = (3 : Int32) ∨ n = (4 : Int32) := by
  have e0 : (0 : Int32).toInt = 0 := rfl
  have e1 : (1 : Int32).toInt = 1 := rfl
  have e2 : (2 : Int32).toInt = 2 := rfl
  have e3 : (3 : Int32).toInt = 3 := rfl
  have e4 : (4 : Int32).toInt = 4 := rfl
  simp only [← Int32.toInt_inj]
  omega
set_option maxRecDepth 65536 in
set_option maxHeartbeats 40000000 in
theorem own_v_ef (m : MethodId) (x0 : Int64) (x1 : Int32) : entryFrame m #[(.long x0), (.int x1)] 3 = mkF m 0 #[.val (.long x0), .second, .val (.int x1)] [] := by first | (simp [entryFrame, mkF, argsToLocals, Value.category]; done) | rfl
set_option maxRecDepth 65536 in
set_option maxHeartbeats 40000000 in
theorem own_v {l : Launch} {Z : State} {a0 : Array Value} (hw : own_Z Z a0) {h : Heap} {sd : Int64} {i : Int32} : own_Met false l Z (⟨"com/example/fuseplan/fuseplan/runtime/OperandGatherPinLaw", "v", "(JI)D"⟩ : MethodName) method_4_code 3 (some .double) [] ({ frames := 0, cells := 0, slots := 0, locals := 0 } : Room) #[(.long sd), (.int i)] h (fun v h' => (∃ z : Int32, v = some (.double (FP.i2d z))) ∧ h = h') := by
  refine own_met (by first | exact plainFor_of_name (by decide +kernel) | decide +kernel) ?_
  intro p e s m below meth c K
  refine own_cast (own_v_ef m _ _) ?_
  refine own_iloadN K own_d0_0 rfl ?_
  refine own_bipush K own_d0_1 (v := (16 : Int32)) rfl ?_
  refine own_imul K own_d0_3 ?_
  refine own_lloadN K own_d0_4 rfl ?_
  refine own_iconst K own_d0_5 (v := (4 : Int32)) rfl ?_
  refine own_iloadN K own_d0_6 rfl ?_
  refine own_imul K own_d0_7 ?_
  refine own_lushr K own_d0_8 ?_
  refine own_ldc2J K own_d0_9 (v := (15 : Int64)) (own_w5 hw) ?_
  refine own_land K own_d0_12 ?_
  refine own_l2i K own_d0_13 ?_
  refine own_iadd K own_d0_14 ?_
  refine own_bipush K own_d0_15 (v := (72 : Int32)) rfl ?_
  refine own_isub K own_d0_17 ?_
  refine own_i2d K own_d0_18 ?_
  exact own_retD K own_d0_19 (by decide) (by decide) (⟨⟨_, rfl⟩, rfl⟩)
set_option maxRecDepth 65536 in
set_option maxHeartbeats 40000000 in
theorem own_pick_ef (m : MethodId) (x0 : Int32) (x1 : Int32) (x2 : Int32) : entryFrame m #[(.int x0), (.int x1), (.int x2)] 3 = mkF m 0 #[.val (.int x0), .val (.int x1), .val (.int x2)] [] := by first | (simp [entryFrame, mkF, argsToLocals, Value.category]; done) | rfl
set_option maxRecDepth 65536 in
set_option maxHeartbeats 40000000 in
theorem own_pick {l : Launch} {Z : State} {a0 : Array Value} (hw : own_Z Z a0) {h : Heap} {p k n : Int32} (hn : 0 < n.toInt) : own_Met false l Z (⟨"com/example/fuseplan/fuseplan/runtime/OperandGatherPinLaw", "pick", "(III)I"⟩ : MethodName) method_3_code 3 (some .int) [] ({ frames := 0, cells := 0, slots := 0, locals := 0 } : Room) #[(.int p), (.int k), (.int n)] h (fun v h' => (∃ z : Int32, v = some (.int z) ∧ 0 ≤ z.toInt ∧ z.toInt < n.toInt) ∧ h = h') := by
  refine own_met (by first | exact plainFor_of_name (by decide +kernel) | decide +kernel) ?_
  intro p e s m below meth c K
  refine own_cast (own_pick_ef m _ _ _) ?_
  refine own_iloadN K own_d1_0 rfl ?_
  refine own_iconst K own_d1_1 (v := (2 : Int32)) rfl ?_
  refine own_iloadN K own_d1_2 rfl ?_
  refine own_imul K own_d1_3 ?_
  refine own_iushr K own_d1_4 ?_
  refine own_iconst K own_d1_5 (v := (3 : Int32)) rfl ?_
  refine own_iand K own_d1_6 ?_
  refine own_iloadN K own_d1_7 rfl ?_
  refine own_irem K own_d1_8 (fun q => by rw [q] at hn; exact absurd hn (by decide)) ?_
  exact own_retI K own_d1_9 (by decide) (by decide) (⟨⟨_, rfl, own_rem32 (own_and_bound _ 3 (by decide)).1 hn⟩, rfl⟩)
set_option maxRecDepth 65536 in
set_option maxHeartbeats 40000000 in
theorem own_rec_ef (m : MethodId) (x0 : Addr) : entryFrame m #[(.ref x0)] 1 = mkF m 0 #[.val (.ref x0)] [] := by first | (simp [entryFrame, mkF, argsToLocals, Value.category]; done) | rfl
set_option maxRecDepth 65536 in
set_option maxHeartbeats 40000000 in
theorem own_rec {l : Launch} {Z : State} {a0 : Array Value} (hw : own_Z Z a0) {h : Heap} {a : Addr} : own_Met false l Z (⟨"java/lang/Record", "<init>", "()V"⟩ : MethodName) jdk_30_method_1_code 1 none [] ({ frames := 1, cells := 0, slots := 0, locals := 12 } : Room) #[(.ref a)] h (fun v h' => v = none ∧ h = h') := by
  refine own_met (by first | exact plainFor_of_name (by decide +kernel) | decide +kernel) ?_
  intro p e s m below meth c K
  refine own_cast (own_rec_ef m _) ?_
  refine own_aloadN K own_d2_0 rfl rfl ?_
  refine own_initO K own_d2_1 (own_w22 hw) (own_w23 hw) (own_w24 hw) rfl (by decide) (W := 0) (Nat.le_of_eq rfl) (by decide) ?_
  exact own_retV K own_d2_4 (by decide) (by decide) (⟨rfl, rfl⟩)
set_option maxRecDepth 65536 in
set_option maxHeartbeats 40000000 in
theorem own_init_ef (m : MethodId) (x0 : Addr) (x1 : Addr) (x2 : Int32) (x3 : Int32) : entryFrame m #[(.ref x0), (.ref x1), (.int x2), (.int x3)] 4 = mkF m 0 #[.val (.ref x0), .val (.ref x1), .val (.int x2), .val (.int x3)] [] := by first | (simp [entryFrame, mkF, argsToLocals, Value.category]; done) | rfl
set_option maxRecDepth 65536 in
set_option maxHeartbeats 40000000 in
theorem own_init {l : Launch} {Z : State} {a0 : Array Value} (hw : own_Z Z a0) {h : Heap} {os : List own_O} {as : List own_A} {a r : Addr} {x y : Int32} (H : own_H Z h (own_OP a .null (.int (0 : Int32)) (.int (0 : Int32)) :: os) as) : own_Met false l Z (⟨"com/example/fuseplan/fuseplan/runtime/Operand", "<init>", "([DII)V"⟩ : MethodName) prog_147_method_1_code 4 none [] ({ frames := 2, cells := 0, slots := 0, locals := 24 } : Room) #[(.ref a), (.ref r), (.int x), (.int y)] h (fun v h' => v = none ∧ own_H Z h' (own_OP a (.ref r) (.int x) (.int y) :: os) as) := by
  refine own_met (by first | exact plainFor_of_name (by decide +kernel) | decide +kernel) ?_
  intro p e s m below meth c K
  refine own_cast (own_init_ef m _ _ _ _) ?_
  refine own_aloadN K own_d3_0 rfl rfl ?_
  refine own_special K own_d3_1 rfl (own_w17 hw) (own_w18 hw) (own_w20 hw) (own_w21 hw) (a := a) (argsL := []) (rest := []) (own_rec hw) own_pd0 rfl rfl rfl (by decide) (W := 0) (Nat.le_of_eq rfl) (by decide) (by decide) (by decide) (by decide) ?_
  intro v3 h1 q2
  obtain ⟨rfl, rfl⟩ := q2
  refine own_aloadN K own_d3_4 rfl rfl ?_
  refine own_aloadN K own_d3_5 rfl rfl ?_
  refine own_putfield K own_d3_6 (host := "") (Or.inl (own_w25 hw)) Via.refl H (j := 0) rfl (q := 0) rfl (Or.inr ⟨(own_w26 hw), rfl, rfl⟩) (own_w12 hw) (ty := (.array .double)) (by decide +kernel) (rfl) rfl ?_
  intro h4 H5
  replace H5 : own_H Z h4 (own_OP a (.ref r) (.int (0 : Int32)) (.int (0 : Int32)) :: os) (as) := H5
  refine own_aloadN K own_d3_9 rfl rfl ?_
  refine own_iloadN K own_d3_10 rfl ?_
  refine own_putfield K own_d3_11 (host := "") (Or.inl (own_w27 hw)) Via.refl H5 (j := 0) rfl (q := 1) rfl (Or.inr ⟨(own_w28 hw), rfl, rfl⟩) (own_w12 hw) (ty := .int) (by decide +kernel) (rfl) rfl ?_
  intro h6 H7
  replace H7 : own_H Z h6 (own_OP a (.ref r) (.int x) (.int (0 : Int32)) :: os) (as) := H7
  refine own_aloadN K own_d3_14 rfl rfl ?_
  refine own_iloadN K own_d3_15 rfl ?_
  refine own_putfield K own_d3_16 (host := "") (Or.inl (own_w29 hw)) Via.refl H7 (j := 0) rfl (q := 2) rfl (Or.inr ⟨(own_w30 hw), rfl, rfl⟩) (own_w12 hw) (ty := .int) (by decide +kernel) (rfl) rfl ?_
  intro h8 H9
  replace H9 : own_H Z h8 (own_OP a (.ref r) (.int x) (.int y) :: os) (as) := H9
  exact own_retV K own_d3_19 (by decide) (by decide) (⟨rfl, H9⟩)
set_option maxRecDepth 65536 in
set_option maxHeartbeats 40000000 in
theorem own_gather_ef (m : MethodId) (x0 : Addr) (x1 : Addr) (x2 : Addr) (x3 : Int32) (x4 : Addr) : entryFrame m #[(.ref x0), (.ref x1), (.ref x2), (.int x3), (.ref x4)] 6 = mkF m 0 #[.val (.ref x0), .val (.ref x1), .val (.ref x2), .val (.int x3), .val (.ref x4), .unset] [] := by first | (simp [entryFrame, mkF, argsToLocals, Value.category]; done) | rfl
set_option maxRecDepth 65536 in
set_option maxHeartbeats 40000000 in
theorem own_gather {l : Launch} {Z : State} {a0 : Array Value} (hw : own_Z Z a0) {h : Heap} {os : List own_O} {as : List own_A} {a ra ca ta ce : Addr} {vs : List Value} {x y n r0 r1 r2 r3 c0 c1 c2 c3 : Int32} {q0 q1 q2 q3 : Nat} {d0 d1 d2 d3 t0 t1 t2 t3 t4 : UInt64} (hn0 : 0 ≤ n.toInt) (hn4 : n.toInt ≤ 4) (H : own_H Z h (own_OP a (.ref ce) (.int x) (.int y) :: os) ((ra, .int, "[I", [(.int r0), (.int r1), (.int r2), (.int r3)]) :: (ca, .int, "[I", [(.int c0), (.int c1), (.int c2), (.int c3)]) :: (ta, .double, "[D", [(.double t0), (.double t1), (.double t2), (.double t3), (.double t4)]) :: (ce, .double, "[D", vs) :: as)) (hq0 : (r0 * x + c0 * y).toInt = (q0 : Int)) (hd0 : vs[q0]? = some (.double d0)) (hq1 : (r1 * x + c1 * y).toInt = (q1 : Int)) (hd1 : vs[q1]? = some (.double d1)) (hq2 : (r2 * x + c2 * y).toInt = (q2 : Int)) (hd2 : vs[q2]? = some (.double d2)) (hq3 : (r3 * x + c3 * y).toInt = (q3 : Int)) (hd3 : vs[q3]? = some (.double d3)) : own_Met false l Z (⟨"com/example/fuseplan/fuseplan/runtime/Operand", "gather", "([I[II[D)V"⟩ : MethodName) prog_147_method_5_code 6 none [] ({ frames := 0, cells := 0, slots := 0, locals := 0 } : Room) #[(.ref a), (.ref ra), (.ref ca), (.int n), (.ref ta)] h (fun v h' => v = none ∧ own_H Z h' (own_OP a (.ref ce) (.int x) (.int y) :: os) ((ra, .int, "[I", [(.int r0), (.int r1), (.int r2), (.int r3)]) :: (ca, .int, "[I", [(.int c0), (.int c1), (.int c2), (.int c3)]) :: (ta, .double, "[D", [(.double (if 0 < n.toInt then d0 else t0)), (.double (if 1 < n.toInt then d1 else t1)), (.double (if 2 < n.toInt then d2 else t2)), (.double (if 3 < n.toInt then d3 else t3)), (.double t4)]) :: (ce, .double, "[D", vs) :: as)) := by
  refine own_met (by first | exact plainFor_of_name (by decide +kernel) | decide +kernel) ?_
  intro p e s m below meth c K
  refine own_cast (own_gather_ef m _ _ _ _ _) ?_
  have hcase : n = (0 : Int32) ∨ n = (1 : Int32) ∨ n = (2 : Int32) ∨ n = (3 : Int32) ∨ n = (4 : Int32) := own_five hn0 hn4
  rcases hcase with q | q | q | q | q
  · obtain rfl : n = (0 : Int32) := q
    refine own_iconst K own_d4_0 (v := (0 : Int32)) rfl ?_
    refine own_istore K own_d4_1 (Ls' := #[.val (.ref a), .val (.ref ra), .val (.ref ca), .val (.int (0 : Int32)), .val (.ref ta), .val (.int (0 : Int32))]) rfl ?_
    refine own_iload K own_d4_3 rfl ?_
    refine own_iloadN K own_d4_5 rfl ?_
    refine own_icmpge K own_d4_6 (fun _ => ?_) (fun q => absurd (by decide) q)
    exact own_retV K own_d4_44 (by decide) (by decide) (⟨rfl, H⟩)
  · obtain rfl : n = (1 : Int32) := q
    refine own_iconst K own_d4_0 (v := (0 : Int32)) rfl ?_
    refine own_istore K own_d4_1 (Ls' := #[.val (.ref a), .val (.ref ra), .val (.ref ca), .val (.int (1 : Int32)), .val (.ref ta), .val (.int (0 : Int32))]) rfl ?_
    refine own_iload K own_d4_3 rfl ?_
    refine own_iloadN K own_d4_5 rfl ?_
    refine own_icmpge K own_d4_6 (fun q => absurd q (by decide)) (fun _ => ?_)
    refine own_aload K own_d4_9 rfl rfl ?_
    refine own_iload K own_d4_11 rfl ?_
    refine own_aloadN K own_d4_13 rfl rfl ?_
    refine own_getfield K own_d4_14 (host := "") (Or.inl (own_w25 hw)) Via.refl H (j := 0) rfl (q := 0) rfl ?_
    refine own_aloadN K own_d4_17 rfl rfl ?_
    refine own_iload K own_d4_18 rfl ?_
    refine own_iaload K own_d4_20 H (i := 0) rfl (q := 0) (by decide) (rfl) ?_
    refine own_aloadN K own_d4_21 rfl rfl ?_
    refine own_getfield K own_d4_22 (host := "") (Or.inl (own_w27 hw)) Via.refl H (j := 0) rfl (q := 1) rfl ?_
    refine own_imul K own_d4_25 ?_
    refine own_aloadN K own_d4_26 rfl rfl ?_
    refine own_iload K own_d4_27 rfl ?_
    refine own_iaload K own_d4_29 H (i := 1) rfl (q := 0) (by decide) (rfl) ?_
    refine own_aloadN K own_d4_30 rfl rfl ?_
    refine own_getfield K own_d4_31 (host := "") (Or.inl (own_w29 hw)) Via.refl H (j := 0) rfl (q := 2) rfl ?_
    refine own_imul K own_d4_34 ?_
    refine own_iadd K own_d4_35 ?_
    refine own_daload K own_d4_36 H (i := 3) rfl (q := q0) (hq0) (hd0) ?_
    refine own_dastore K own_d4_37 H (i := 2) rfl (q := 0) (by decide) (own_le rfl) ?_
    intro h1 H2
    replace H2 : own_H Z h1 (own_OP a (.ref ce) (.int x) (.int y) :: os) ((ra, .int, "[I", [(.int r0), (.int r1), (.int r2), (.int r3)]) :: (ca, .int, "[I", [(.int c0), (.int c1), (.int c2), (.int c3)]) :: (ta, .double, "[D", [(.double d0), (.double t1), (.double t2), (.double t3), (.double t4)]) :: (ce, .double, "[D", vs) :: as) := H2
    refine own_iinc K own_d4_38 rfl (y := (1 : Int32)) (by decide) (Ls' := #[.val (.ref a), .val (.ref ra), .val (.ref ca), .val (.int (1 : Int32)), .val (.ref ta), .val (.int (1 : Int32))]) rfl ?_
    refine own_goto K own_d4_41 ?_
    refine own_iload K own_d4_3 rfl ?_
    refine own_iloadN K own_d4_5 rfl ?_
    refine own_icmpge K own_d4_6 (fun _ => ?_) (fun q => absurd (by decide) q)
    exact own_retV K own_d4_44 (by decide) (by decide) (⟨rfl, H2⟩)
  · obtain rfl : n = (2 : Int32) := q
    refine own_iconst K own_d4_0 (v := (0 : Int32)) rfl ?_
    refine own_istore K own_d4_1 (Ls' := #[.val (.ref a), .val (.ref ra), .val (.ref ca), .val (.int (2 : Int32)), .val (.ref ta), .val (.int (0 : Int32))]) rfl ?_
    refine own_iload K own_d4_3 rfl ?_
    refine own_iloadN K own_d4_5 rfl ?_
    refine own_icmpge K own_d4_6 (fun q => absurd q (by decide)) (fun _ => ?_)
    refine own_aload K own_d4_9 rfl rfl ?_
    refine own_iload K own_d4_11 rfl ?_
    refine own_aloadN K own_d4_13 rfl rfl ?_
    refine own_getfield K own_d4_14 (host := "") (Or.inl (own_w25 hw)) Via.refl H (j := 0) rfl (q := 0) rfl ?_
    refine own_aloadN K own_d4_17 rfl rfl ?_
    refine own_iload K own_d4_18 rfl ?_
    refine own_iaload K own_d4_20 H (i := 0) rfl (q := 0) (by decide) (rfl) ?_
    refine own_aloadN K own_d4_21 rfl rfl ?_
    refine own_getfield K own_d4_22 (host := "") (Or.inl (own_w27 hw)) Via.refl H (j := 0) rfl (q := 1) rfl ?_
    refine own_imul K own_d4_25 ?_
    refine own_aloadN K own_d4_26 rfl rfl ?_
    refine own_iload K own_d4_27 rfl ?_
    refine own_iaload K own_d4_29 H (i := 1) rfl (q := 0) (by decide) (rfl) ?_
    refine own_aloadN K own_d4_30 rfl rfl ?_
    refine own_getfield K own_d4_31 (host := "") (Or.inl (own_w29 hw)) Via.refl H (j := 0) rfl (q := 2) rfl ?_
    refine own_imul K own_d4_34 ?_
    refine own_iadd K own_d4_35 ?_
    refine own_daload K own_d4_36 H (i := 3) rfl (q := q0) (hq0) (hd0) ?_
    refine own_dastore K own_d4_37 H (i := 2) rfl (q := 0) (by decide) (own_le rfl) ?_
    intro h1 H2
    replace H2 : own_H Z h1 (own_OP a (.ref ce) (.int x) (.int y) :: os) ((ra, .int, "[I", [(.int r0), (.int r1), (.int r2), (.int r3)]) :: (ca, .int, "[I", [(.int c0), (.int c1), (.int c2), (.int c3)]) :: (ta, .double, "[D", [(.double d0), (.double t1), (.double t2), (.double t3), (.double t4)]) :: (ce, .double, "[D", vs) :: as) := H2
    refine own_iinc K own_d4_38 rfl (y := (1 : Int32)) (by decide) (Ls' := #[.val (.ref a), .val (.ref ra), .val (.ref ca), .val (.int (2 : Int32)), .val (.ref ta), .val (.int (1 : Int32))]) rfl ?_
    refine own_goto K own_d4_41 ?_
    refine own_iload K own_d4_3 rfl ?_
    refine own_iloadN K own_d4_5 rfl ?_
    refine own_icmpge K own_d4_6 (fun q => absurd q (by decide)) (fun _ => ?_)
    refine own_aload K own_d4_9 rfl rfl ?_
    refine own_iload K own_d4_11 rfl ?_
    refine own_aloadN K own_d4_13 rfl rfl ?_
    refine own_getfield K own_d4_14 (host := "") (Or.inl (own_w25 hw)) Via.refl H2 (j := 0) rfl (q := 0) rfl ?_
    refine own_aloadN K own_d4_17 rfl rfl ?_
    refine own_iload K own_d4_18 rfl ?_
    refine own_iaload K own_d4_20 H2 (i := 0) rfl (q := 1) (by decide) (rfl) ?_
    refine own_aloadN K own_d4_21 rfl rfl ?_
    refine own_getfield K own_d4_22 (host := "") (Or.inl (own_w27 hw)) Via.refl H2 (j := 0) rfl (q := 1) rfl ?_
    refine own_imul K own_d4_25 ?_
    refine own_aloadN K own_d4_26 rfl rfl ?_
    refine own_iload K own_d4_27 rfl ?_
    refine own_iaload K own_d4_29 H2 (i := 1) rfl (q := 1) (by decide) (rfl) ?_
    refine own_aloadN K own_d4_30 rfl rfl ?_
    refine own_getfield K own_d4_31 (host := "") (Or.inl (own_w29 hw)) Via.refl H2 (j := 0) rfl (q := 2) rfl ?_
    refine own_imul K own_d4_34 ?_
    refine own_iadd K own_d4_35 ?_
    refine own_daload K own_d4_36 H2 (i := 3) rfl (q := q1) (hq1) (hd1) ?_
    refine own_dastore K own_d4_37 H2 (i := 2) rfl (q := 1) (by decide) (own_le rfl) ?_
    intro h3 H4
    replace H4 : own_H Z h3 (own_OP a (.ref ce) (.int x) (.int y) :: os) ((ra, .int, "[I", [(.int r0), (.int r1), (.int r2), (.int r3)]) :: (ca, .int, "[I", [(.int c0), (.int c1), (.int c2), (.int c3)]) :: (ta, .double, "[D", [(.double d0), (.double d1), (.double t2), (.double t3), (.double t4)]) :: (ce, .double, "[D", vs) :: as) := H4
    refine own_iinc K own_d4_38 rfl (y := (2 : Int32)) (by decide) (Ls' := #[.val (.ref a), .val (.ref ra), .val (.ref ca), .val (.int (2 : Int32)), .val (.ref ta), .val (.int (2 : Int32))]) rfl ?_
    refine own_goto K own_d4_41 ?_
    refine own_iload K own_d4_3 rfl ?_
    refine own_iloadN K own_d4_5 rfl ?_
    refine own_icmpge K own_d4_6 (fun _ => ?_) (fun q => absurd (by decide) q)
    exact own_retV K own_d4_44 (by decide) (by decide) (⟨rfl, H4⟩)
  · obtain rfl : n = (3 : Int32) := q
    refine own_iconst K own_d4_0 (v := (0 : Int32)) rfl ?_
    refine own_istore K own_d4_1 (Ls' := #[.val (.ref a), .val (.ref ra), .val (.ref ca), .val (.int (3 : Int32)), .val (.ref ta), .val (.int (0 : Int32))]) rfl ?_
    refine own_iload K own_d4_3 rfl ?_
    refine own_iloadN K own_d4_5 rfl ?_
    refine own_icmpge K own_d4_6 (fun q => absurd q (by decide)) (fun _ => ?_)
    refine own_aload K own_d4_9 rfl rfl ?_
    refine own_iload K own_d4_11 rfl ?_
    refine own_aloadN K own_d4_13 rfl rfl ?_
    refine own_getfield K own_d4_14 (host := "") (Or.inl (own_w25 hw)) Via.refl H (j := 0) rfl (q := 0) rfl ?_
    refine own_aloadN K own_d4_17 rfl rfl ?_
    refine own_iload K own_d4_18 rfl ?_
    refine own_iaload K own_d4_20 H (i := 0) rfl (q := 0) (by decide) (rfl) ?_
    refine own_aloadN K own_d4_21 rfl rfl ?_
    refine own_getfield K own_d4_22 (host := "") (Or.inl (own_w27 hw)) Via.refl H (j := 0) rfl (q := 1) rfl ?_
    refine own_imul K own_d4_25 ?_
    refine own_aloadN K own_d4_26 rfl rfl ?_
    refine own_iload K own_d4_27 rfl ?_
    refine own_iaload K own_d4_29 H (i := 1) rfl (q := 0) (by decide) (rfl) ?_
    refine own_aloadN K own_d4_30 rfl rfl ?_
    refine own_getfield K own_d4_31 (host := "") (Or.inl (own_w29 hw)) Via.refl H (j := 0) rfl (q := 2) rfl ?_
    refine own_imul K own_d4_34 ?_
    refine own_iadd K own_d4_35 ?_
    refine own_daload K own_d4_36 H (i := 3) rfl (q := q0) (hq0) (hd0) ?_
    refine own_dastore K own_d4_37 H (i := 2) rfl (q := 0) (by decide) (own_le rfl) ?_
    intro h1 H2
    replace H2 : own_H Z h1 (own_OP a (.ref ce) (.int x) (.int y) :: os) ((ra, .int, "[I", [(.int r0), (.int r1), (.int r2), (.int r3)]) :: (ca, .int, "[I", [(.int c0), (.int c1), (.int c2), (.int c3)]) :: (ta, .double, "[D", [(.double d0), (.double t1), (.double t2), (.double t3), (.double t4)]) :: (ce, .double, "[D", vs) :: as) := H2
    refine own_iinc K own_d4_38 rfl (y := (1 : Int32)) (by decide) (Ls' := #[.val (.ref a), .val (.ref ra), .val (.ref ca), .val (.int (3 : Int32)), .val (.ref ta), .val (.int (1 : Int32))]) rfl ?_
    refine own_goto K own_d4_41 ?_
    refine own_iload K own_d4_3 rfl ?_
    refine own_iloadN K own_d4_5 rfl ?_
    refine own_icmpge K own_d4_6 (fun q => absurd q (by decide)) (fun _ => ?_)
    refine own_aload K own_d4_9 rfl rfl ?_
    refine own_iload K own_d4_11 rfl ?_
    refine own_aloadN K own_d4_13 rfl rfl ?_
    refine own_getfield K own_d4_14 (host := "") (Or.inl (own_w25 hw)) Via.refl H2 (j := 0) rfl (q := 0) rfl ?_
    refine own_aloadN K own_d4_17 rfl rfl ?_
    refine own_iload K own_d4_18 rfl ?_
    refine own_iaload K own_d4_20 H2 (i := 0) rfl (q := 1) (by decide) (rfl) ?_
    refine own_aloadN K own_d4_21 rfl rfl ?_
    refine own_getfield K own_d4_22 (host := "") (Or.inl (own_w27 hw)) Via.refl H2 (j := 0) rfl (q := 1) rfl ?_
    refine own_imul K own_d4_25 ?_
    refine own_aloadN K own_d4_26 rfl rfl ?_
    refine own_iload K own_d4_27 rfl ?_
    refine own_iaload K own_d4_29 H2 (i := 1) rfl (q := 1) (by decide) (rfl) ?_
    refine own_aloadN K own_d4_30 rfl rfl ?_
    refine own_getfield K own_d4_31 (host := "") (Or.inl (own_w29 hw)) Via.refl H2 (j := 0) rfl (q := 2) rfl ?_
    refine own_imul K own_d4_34 ?_
    refine own_iadd K own_d4_35 ?_
    refine own_daload K own_d4_36 H2 (i := 3) rfl (q := q1) (hq1) (hd1) ?_
    refine own_dastore K own_d4_37 H2 (i := 2) rfl (q := 1) (by decide) (own_le rfl) ?_
    intro h3 H4
    replace H4 : own_H Z h3 (own_OP a (.ref ce) (.int x) (.int y) :: os) ((ra, .int, "[I", [(.int r0), (.int r1), (.int r2), (.int r3)]) :: (ca, .int, "[I", [(.int c0), (.int c1), (.int c2), (.int c3)]) :: (ta, .double, "[D", [(.double d0), (.double d1), (.double t2), (.double t3), (.double t4)]) :: (ce, .double, "[D", vs) :: as) := H4
    refine own_iinc K own_d4_38 rfl (y := (2 : Int32)) (by decide) (Ls' := #[.val (.ref a), .val (.ref ra), .val (.ref ca), .val (.int (3 : Int32)), .val (.ref ta), .val (.int (2 : Int32))]) rfl ?_
    refine own_goto K own_d4_41 ?_
    refine own_iload K own_d4_3 rfl ?_
    refine own_iloadN K own_d4_5 rfl ?_
    refine own_icmpge K own_d4_6 (fun q => absurd q (by decide)) (fun _ => ?_)
    refine own_aload K own_d4_9 rfl rfl ?_
    refine own_iload K own_d4_11 rfl ?_
    refine own_aloadN K own_d4_13 rfl rfl ?_
    refine own_getfield K own_d4_14 (host := "") (Or.inl (own_w25 hw)) Via.refl H4 (j := 0) rfl (q := 0) rfl ?_
    refine own_aloadN K own_d4_17 rfl rfl ?_
    refine own_iload K own_d4_18 rfl ?_
    refine own_iaload K own_d4_20 H4 (i := 0) rfl (q := 2) (by decide) (rfl) ?_
    refine own_aloadN K own_d4_21 rfl rfl ?_
    refine own_getfield K own_d4_22 (host := "") (Or.inl (own_w27 hw)) Via.refl H4 (j := 0) rfl (q := 1) rfl ?_
    refine own_imul K own_d4_25 ?_
    refine own_aloadN K own_d4_26 rfl rfl ?_
    refine own_iload K own_d4_27 rfl ?_
    refine own_iaload K own_d4_29 H4 (i := 1) rfl (q := 2) (by decide) (rfl) ?_
    refine own_aloadN K own_d4_30 rfl rfl ?_
    refine own_getfield K own_d4_31 (host := "") (Or.inl (own_w29 hw)) Via.refl H4 (j := 0) rfl (q := 2) rfl ?_
    refine own_imul K own_d4_34 ?_
    refine own_iadd K own_d4_35 ?_
    refine own_daload K own_d4_36 H4 (i := 3) rfl (q := q2) (hq2) (hd2) ?_
    refine own_dastore K own_d4_37 H4 (i := 2) rfl (q := 2) (by decide) (own_le rfl) ?_
    intro h5 H6
    replace H6 : own_H Z h5 (own_OP a (.ref ce) (.int x) (.int y) :: os) ((ra, .int, "[I", [(.int r0), (.int r1), (.int r2), (.int r3)]) :: (ca, .int, "[I", [(.int c0), (.int c1), (.int c2), (.int c3)]) :: (ta, .double, "[D", [(.double d0), (.double d1), (.double d2), (.double t3), (.double t4)]) :: (ce, .double, "[D", vs) :: as) := H6
    refine own_iinc K own_d4_38 rfl (y := (3 : Int32)) (by decide) (Ls' := #[.val (.ref a), .val (.ref ra), .val (.ref ca), .val (.int (3 : Int32)), .val (.ref ta), .val (.int (3 : Int32))]) rfl ?_
    refine own_goto K own_d4_41 ?_
    refine own_iload K own_d4_3 rfl ?_
    refine own_iloadN K own_d4_5 rfl ?_
    refine own_icmpge K own_d4_6 (fun _ => ?_) (fun q => absurd (by decide) q)
    exact own_retV K own_d4_44 (by decide) (by decide) (⟨rfl, H6⟩)
  · obtain rfl : n = (4 : Int32) := q
    refine own_iconst K own_d4_0 (v := (0 : Int32)) rfl ?_
    refine own_istore K own_d4_1 (Ls' := #[.val (.ref a), .val (.ref ra), .val (.ref ca), .val (.int (4 : Int32)), .val (.ref ta), .val (.int (0 : Int32))]) rfl ?_
    refine own_iload K own_d4_3 rfl ?_
    refine own_iloadN K own_d4_5 rfl ?_
    refine own_icmpge K own_d4_6 (fun q => absurd q (by decide)) (fun _ => ?_)
    refine own_aload K own_d4_9 rfl rfl ?_
    refine own_iload K own_d4_11 rfl ?_
    refine own_aloadN K own_d4_13 rfl rfl ?_
    refine own_getfield K own_d4_14 (host := "") (Or.inl (own_w25 hw)) Via.refl H (j := 0) rfl (q := 0) rfl ?_
    refine own_aloadN K own_d4_17 rfl rfl ?_
    refine own_iload K own_d4_18 rfl ?_
    refine own_iaload K own_d4_20 H (i := 0) rfl (q := 0) (by decide) (rfl) ?_
    refine own_aloadN K own_d4_21 rfl rfl ?_
    refine own_getfield K own_d4_22 (host := "") (Or.inl (own_w27 hw)) Via.refl H (j := 0) rfl (q := 1) rfl ?_
    refine own_imul K own_d4_25 ?_
    refine own_aloadN K own_d4_26 rfl rfl ?_
    refine own_iload K own_d4_27 rfl ?_
    refine own_iaload K own_d4_29 H (i := 1) rfl (q := 0) (by decide) (rfl) ?_
    refine own_aloadN K own_d4_30 rfl rfl ?_
    refine own_getfield K own_d4_31 (host := "") (Or.inl (own_w29 hw)) Via.refl H (j := 0) rfl (q := 2) rfl ?_
    refine own_imul K own_d4_34 ?_
    refine own_iadd K own_d4_35 ?_
    refine own_daload K own_d4_36 H (i := 3) rfl (q := q0) (hq0) (hd0) ?_
    refine own_dastore K own_d4_37 H (i := 2) rfl (q := 0) (by decide) (own_le rfl) ?_
    intro h1 H2
    replace H2 : own_H Z h1 (own_OP a (.ref ce) (.int x) (.int y) :: os) ((ra, .int, "[I", [(.int r0), (.int r1), (.int r2), (.int r3)]) :: (ca, .int, "[I", [(.int c0), (.int c1), (.int c2), (.int c3)]) :: (ta, .double, "[D", [(.double d0), (.double t1), (.double t2), (.double t3), (.double t4)]) :: (ce, .double, "[D", vs) :: as) := H2
    refine own_iinc K own_d4_38 rfl (y := (1 : Int32)) (by decide) (Ls' := #[.val (.ref a), .val (.ref ra), .val (.ref ca), .val (.int (4 : Int32)), .val (.ref ta), .val (.int (1 : Int32))]) rfl ?_
    refine own_goto K own_d4_41 ?_
    refine own_iload K own_d4_3 rfl ?_
    refine own_iloadN K own_d4_5 rfl ?_
    refine own_icmpge K own_d4_6 (fun q => absurd q (by decide)) (fun _ => ?_)
    refine own_aload K own_d4_9 rfl rfl ?_
    refine own_iload K own_d4_11 rfl ?_
    refine own_aloadN K own_d4_13 rfl rfl ?_
    refine own_getfield K own_d4_14 (host := "") (Or.inl (own_w25 hw)) Via.refl H2 (j := 0) rfl (q := 0) rfl ?_
    refine own_aloadN K own_d4_17 rfl rfl ?_
    refine own_iload K own_d4_18 rfl ?_
    refine own_iaload K own_d4_20 H2 (i := 0) rfl (q := 1) (by decide) (rfl) ?_
    refine own_aloadN K own_d4_21 rfl rfl ?_
    refine own_getfield K own_d4_22 (host := "") (Or.inl (own_w27 hw)) Via.refl H2 (j := 0) rfl (q := 1) rfl ?_
    refine own_imul K own_d4_25 ?_
    refine own_aloadN K own_d4_26 rfl rfl ?_
    refine own_iload K own_d4_27 rfl ?_
    refine own_iaload K own_d4_29 H2 (i := 1) rfl (q := 1) (by decide) (rfl) ?_
    refine own_aloadN K own_d4_30 rfl rfl ?_
    refine own_getfield K own_d4_31 (host := "") (Or.inl (own_w29 hw)) Via.refl H2 (j := 0) rfl (q := 2) rfl ?_
    refine own_imul K own_d4_34 ?_
    refine own_iadd K own_d4_35 ?_
    refine own_daload K own_d4_36 H2 (i := 3) rfl (q := q1) (hq1) (hd1) ?_
    refine own_dastore K own_d4_37 H2 (i := 2) rfl (q := 1) (by decide) (own_le rfl) ?_
    intro h3 H4
    replace H4 : own_H Z h3 (own_OP a (.ref ce) (.int x) (.int y) :: os) ((ra, .int, "[I", [(.int r0), (.int r1), (.int r2), (.int r3)]) :: (ca, .int, "[I", [(.int c0), (.int c1), (.int c2), (.int c3)]) :: (ta, .double, "[D", [(.double d0), (.double d1), (.double t2), (.double t3), (.double t4)]) :: (ce, .double, "[D", vs) :: as) := H4
    refine own_iinc K own_d4_38 rfl (y := (2 : Int32)) (by decide) (Ls' := #[.val (.ref a), .val (.ref ra), .val (.ref ca), .val (.int (4 : Int32)), .val (.ref ta), .val (.int (2 : Int32))]) rfl ?_
    refine own_goto K own_d4_41 ?_
    refine own_iload K own_d4_3 rfl ?_
    refine own_iloadN K own_d4_5 rfl ?_
    refine own_icmpge K own_d4_6 (fun q => absurd q (by decide)) (fun _ => ?_)
    refine own_aload K own_d4_9 rfl rfl ?_
    refine own_iload K own_d4_11 rfl ?_
    refine own_aloadN K own_d4_13 rfl rfl ?_
    refine own_getfield K own_d4_14 (host := "") (Or.inl (own_w25 hw)) Via.refl H4 (j := 0) rfl (q := 0) rfl ?_
    refine own_aloadN K own_d4_17 rfl rfl ?_
    refine own_iload K own_d4_18 rfl ?_
    refine own_iaload K own_d4_20 H4 (i := 0) rfl (q := 2) (by decide) (rfl) ?_
    refine own_aloadN K own_d4_21 rfl rfl ?_
    refine own_getfield K own_d4_22 (host := "") (Or.inl (own_w27 hw)) Via.refl H4 (j := 0) rfl (q := 1) rfl ?_
    refine own_imul K own_d4_25 ?_
    refine own_aloadN K own_d4_26 rfl rfl ?_
    refine own_iload K own_d4_27 rfl ?_
    refine own_iaload K own_d4_29 H4 (i := 1) rfl (q := 2) (by decide) (rfl) ?_
    refine own_aloadN K own_d4_30 rfl rfl ?_
    refine own_getfield K own_d4_31 (host := "") (Or.inl (own_w29 hw)) Via.refl H4 (j := 0) rfl (q := 2) rfl ?_
    refine own_imul K own_d4_34 ?_
    refine own_iadd K own_d4_35 ?_
    refine own_daload K own_d4_36 H4 (i := 3) rfl (q := q2) (hq2) (hd2) ?_
    refine own_dastore K own_d4_37 H4 (i := 2) rfl (q := 2) (by decide) (own_le rfl) ?_
    intro h5 H6
    replace H6 : own_H Z h5 (own_OP a (.ref ce) (.int x) (.int y) :: os) ((ra, .int, "[I", [(.int r0), (.int r1), (.int r2), (.int r3)]) :: (ca, .int, "[I", [(.int c0), (.int c1), (.int c2), (.int c3)]) :: (ta, .double, "[D", [(.double d0), (.double d1), (.double d2), (.double t3), (.double t4)]) :: (ce, .double, "[D", vs) :: as) := H6
    refine own_iinc K own_d4_38 rfl (y := (3 : Int32)) (by decide) (Ls' := #[.val (.ref a), .val (.ref ra), .val (.ref ca), .val (.int (4 : Int32)), .val (.ref ta), .val (.int (3 : Int32))]) rfl ?_
    refine own_goto K own_d4_41 ?_
    refine own_iload K own_d4_3 rfl ?_
    refine own_iloadN K own_d4_5 rfl ?_
    refine own_icmpge K own_d4_6 (fun q => absurd q (by decide)) (fun _ => ?_)
    refine own_aload K own_d4_9 rfl rfl ?_
    refine own_iload K own_d4_11 rfl ?_
    refine own_aloadN K own_d4_13 rfl rfl ?_
    refine own_getfield K own_d4_14 (host := "") (Or.inl (own_w25 hw)) Via.refl H6 (j := 0) rfl (q := 0) rfl ?_
    refine own_aloadN K own_d4_17 rfl rfl ?_
    refine own_iload K own_d4_18 rfl ?_
    refine own_iaload K own_d4_20 H6 (i := 0) rfl (q := 3) (by decide) (rfl) ?_
    refine own_aloadN K own_d4_21 rfl rfl ?_
    refine own_getfield K own_d4_22 (host := "") (Or.inl (own_w27 hw)) Via.refl H6 (j := 0) rfl (q := 1) rfl ?_
    refine own_imul K own_d4_25 ?_
    refine own_aloadN K own_d4_26 rfl rfl ?_
    refine own_iload K own_d4_27 rfl ?_
    refine own_iaload K own_d4_29 H6 (i := 1) rfl (q := 3) (by decide) (rfl) ?_
    refine own_aloadN K own_d4_30 rfl rfl ?_
    refine own_getfield K own_d4_31 (host := "") (Or.inl (own_w29 hw)) Via.refl H6 (j := 0) rfl (q := 2) rfl ?_
    refine own_imul K own_d4_34 ?_
    refine own_iadd K own_d4_35 ?_
    refine own_daload K own_d4_36 H6 (i := 3) rfl (q := q3) (hq3) (hd3) ?_
    refine own_dastore K own_d4_37 H6 (i := 2) rfl (q := 3) (by decide) (own_le rfl) ?_
    intro h7 H8
    replace H8 : own_H Z h7 (own_OP a (.ref ce) (.int x) (.int y) :: os) ((ra, .int, "[I", [(.int r0), (.int r1), (.int r2), (.int r3)]) :: (ca, .int, "[I", [(.int c0), (.int c1), (.int c2), (.int c3)]) :: (ta, .double, "[D", [(.double d0), (.double d1), (.double d2), (.double d3), (.double t4)]) :: (ce, .double, "[D", vs) :: as) := H8
    refine own_iinc K own_d4_38 rfl (y := (4 : Int32)) (by decide) (Ls' := #[.val (.ref a), .val (.ref ra), .val (.ref ca), .val (.int (4 : Int32)), .val (.ref ta), .val (.int (4 : Int32))]) rfl ?_
    refine own_goto K own_d4_41 ?_
    refine own_iload K own_d4_3 rfl ?_
    refine own_iloadN K own_d4_5 rfl ?_
    refine own_icmpge K own_d4_6 (fun _ => ?_) (fun q => absurd (by decide) q)
    exact own_retV K own_d4_44 (by decide) (by decide) (⟨rfl, H8⟩)
set_option maxRecDepth 65536 in
set_option maxHeartbeats 40000000 in
theorem own_want0_ef (m : MethodId) (x0 : Int32) (x1 : Int32) (x2 : Addr) (x3 : Int32) (x4 : Int32) : entryFrame m #[(.int x0), (.int x1), (.ref x2), (.int x3), (.int x4)] 5 = mkF m 0 #[.val (.int x0), .val (.int x1), .val (.ref x2), .val (.int x3), .val (.int x4)] [] := by first | (simp [entryFrame, mkF, argsToLocals, Value.category]; done) | rfl
set_option maxRecDepth 65536 in
set_option maxHeartbeats 40000000 in
theorem own_want0 {l : Launch} {Z : State} {a0 : Array Value} (hw : own_Z Z a0) {h : Heap} {os : List own_O} {as : List own_A} {ce : Addr} {vs : List Value} {n r c : Int32} {q : Nat} {d : UInt64} (H : own_H Z h os ((ce, .double, "[D", vs) :: as)) (hq : (r * n + c).toInt = (q : Int)) (hd : vs[q]? = some (.double d)) : own_Met false l Z (⟨"com/example/fuseplan/fuseplan/runtime/OperandGatherPinLaw", "want", "(II[DII)D"⟩ : MethodName) method_5_code 5 (some .double) [] ({ frames := 0, cells := 0, slots := 0, locals := 0 } : Room) #[(.int (0 : Int32)), (.int n), (.ref ce), (.int r), (.int c)] h (fun v h' => v = some (.double d) ∧ h = h') := by
  refine own_met (by first | exact plainFor_of_name (by decide +kernel) | decide +kernel) ?_
  intro p e s m below meth c K
  refine own_cast (own_want0_ef m _ _ _ _ _) ?_
  refine own_iloadN K own_d5_0 rfl ?_
  refine own_ifne K own_d5_1 (fun q => absurd q (by decide)) (fun _ => ?_)
  refine own_aloadN K own_d5_4 rfl rfl ?_
  refine own_iloadN K own_d5_5 rfl ?_
  refine own_iloadN K own_d5_6 rfl ?_
  refine own_imul K own_d5_7 ?_
  refine own_iload K own_d5_8 rfl ?_
  refine own_iadd K own_d5_10 ?_
  refine own_daload K own_d5_11 H (i := 0) rfl (q := q) (hq) (hd) ?_
  exact own_retD K own_d5_12 (by decide) (by decide) (⟨rfl, rfl⟩)
set_option maxRecDepth 65536 in
set_option maxHeartbeats 40000000 in
theorem own_want1_ef (m : MethodId) (x0 : Int32) (x1 : Int32) (x2 : Addr) (x3 : Int32) (x4 : Int32) : entryFrame m #[(.int x0), (.int x1), (.ref x2), (.int x3), (.int x4)] 5 = mkF m 0 #[.val (.int x0), .val (.int x1), .val (.ref x2), .val (.int x3), .val (.int x4)] [] := by first | (simp [entryFrame, mkF, argsToLocals, Value.category]; done) | rfl
set_option maxRecDepth 65536 in
set_option maxHeartbeats 40000000 in
theorem own_want1 {l : Launch} {Z : State} {a0 : Array Value} (hw : own_Z Z a0) {h : Heap} {os : List own_O} {as : List own_A} {ce : Addr} {vs : List Value} {n r c : Int32} {q : Nat} {d : UInt64} (H : own_H Z h os ((ce, .double, "[D", vs) :: as)) (hq : (c).toInt = (q : Int)) (hd : vs[q]? = some (.double d)) : own_Met false l Z (⟨"com/example/fuseplan/fuseplan/runtime/OperandGatherPinLaw", "want", "(II[DII)D"⟩ : MethodName) method_5_code 5 (some .double) [] ({ frames := 0, cells := 0, slots := 0, locals := 0 } : Room) #[(.int (1 : Int32)), (.int n), (.ref ce), (.int r), (.int c)] h (fun v h' => v = some (.double d) ∧ h = h') := by
  refine own_met (by first | exact plainFor_of_name (by decide +kernel) | decide +kernel) ?_
  intro p e s m below meth c K
  refine own_cast (own_want1_ef m _ _ _ _ _) ?_
  refine own_iloadN K own_d5_0 rfl ?_
  refine own_ifne K own_d5_1 (fun _ => ?_) (fun q => absurd (by decide) q)
  refine own_iloadN K own_d5_13 rfl ?_
  refine own_iconst K own_d5_14 (v := (1 : Int32)) rfl ?_
  refine own_icmpne K own_d5_15 (fun q => absurd q (by decide)) (fun _ => ?_)
  refine own_aloadN K own_d5_18 rfl rfl ?_
  refine own_iload K own_d5_19 rfl ?_
  refine own_daload K own_d5_21 H (i := 0) rfl (q := q) (hq) (hd) ?_
  exact own_retD K own_d5_22 (by decide) (by decide) (⟨rfl, rfl⟩)
set_option maxRecDepth 65536 in
set_option maxHeartbeats 40000000 in
theorem own_want2_ef (m : MethodId) (x0 : Int32) (x1 : Int32) (x2 : Addr) (x3 : Int32) (x4 : Int32) : entryFrame m #[(.int x0), (.int x1), (.ref x2), (.int x3), (.int x4)] 5 = mkF m 0 #[.val (.int x0), .val (.int x1), .val (.ref x2), .val (.int x3), .val (.int x4)] [] := by first | (simp [entryFrame, mkF, argsToLocals, Value.category]; done) | rfl
set_option maxRecDepth 65536 in
set_option maxHeartbeats 40000000 in
theorem own_want2 {l : Launch} {Z : State} {a0 : Array Value} (hw : own_Z Z a0) {h : Heap} {os : List own_O} {as : List own_A} {ce : Addr} {vs : List Value} {n r c : Int32} {q : Nat} {d : UInt64} (H : own_H Z h os ((ce, .double, "[D", vs) :: as)) (hq : (r).toInt = (q : Int)) (hd : vs[q]? = some (.double d)) : own_Met false l Z (⟨"com/example/fuseplan/fuseplan/runtime/OperandGatherPinLaw", "want", "(II[DII)D"⟩ : MethodName) method_5_code 5 (some .double) [] ({ frames := 0, cells := 0, slots := 0, locals := 0 } : Room) #[(.int (2 : Int32)), (.int n), (.ref ce), (.int r), (.int c)] h (fun v h' => v = some (.double d) ∧ h = h') := by
  refine own_met (by first | exact plainFor_of_name (by decide +kernel) | decide +kernel) ?_
  intro p e s m below meth c K
  refine own_cast (own_want2_ef m _ _ _ _ _) ?_
  refine own_iloadN K own_d5_0 rfl ?_
  refine own_ifne K own_d5_1 (fun _ => ?_) (fun q => absurd (by decide) q)
  refine own_iloadN K own_d5_13 rfl ?_
  refine own_iconst K own_d5_14 (v := (1 : Int32)) rfl ?_
  refine own_icmpne K own_d5_15 (fun _ => ?_) (fun q => absurd (by decide) q)
  refine own_iloadN K own_d5_23 rfl ?_
  refine own_iconst K own_d5_24 (v := (2 : Int32)) rfl ?_
  refine own_icmpne K own_d5_25 (fun q => absurd q (by decide)) (fun _ => ?_)
  refine own_aloadN K own_d5_28 rfl rfl ?_
  refine own_iloadN K own_d5_29 rfl ?_
  refine own_daload K own_d5_30 H (i := 0) rfl (q := q) (hq) (hd) ?_
  exact own_retD K own_d5_31 (by decide) (by decide) (⟨rfl, rfl⟩)
set_option maxRecDepth 65536 in
set_option maxHeartbeats 40000000 in
theorem own_want3_ef (m : MethodId) (x0 : Int32) (x1 : Int32) (x2 : Addr) (x3 : Int32) (x4 : Int32) : entryFrame m #[(.int x0), (.int x1), (.ref x2), (.int x3), (.int x4)] 5 = mkF m 0 #[.val (.int x0), .val (.int x1), .val (.ref x2), .val (.int x3), .val (.int x4)] [] := by first | (simp [entryFrame, mkF, argsToLocals, Value.category]; done) | rfl
set_option maxRecDepth 65536 in
set_option maxHeartbeats 40000000 in
theorem own_want3 {l : Launch} {Z : State} {a0 : Array Value} (hw : own_Z Z a0) {h : Heap} {os : List own_O} {as : List own_A} {ce : Addr} {vs : List Value} {n r c : Int32} {q : Nat} {d : UInt64} (H : own_H Z h os ((ce, .double, "[D", vs) :: as)) (hq : ((0 : Int32)).toInt = (q : Int)) (hd : vs[q]? = some (.double d)) : own_Met false l Z (⟨"com/example/fuseplan/fuseplan/runtime/OperandGatherPinLaw", "want", "(II[DII)D"⟩ : MethodName) method_5_code 5 (some .double) [] ({ frames := 0, cells := 0, slots := 0, locals := 0 } : Room) #[(.int (3 : Int32)), (.int n), (.ref ce), (.int r), (.int c)] h (fun v h' => v = some (.double d) ∧ h = h') := by
  refine own_met (by first | exact plainFor_of_name (by decide +kernel) | decide +kernel) ?_
  intro p e s m below meth c K
  refine own_cast (own_want3_ef m _ _ _ _ _) ?_
  refine own_iloadN K own_d5_0 rfl ?_
  refine own_ifne K own_d5_1 (fun _ => ?_) (fun q => absurd (by decide) q)
  refine own_iloadN K own_d5_13 rfl ?_
  refine own_iconst K own_d5_14 (v := (1 : Int32)) rfl ?_
  refine own_icmpne K own_d5_15 (fun _ => ?_) (fun q => absurd (by decide) q)
  refine own_iloadN K own_d5_23 rfl ?_
  refine own_iconst K own_d5_24 (v := (2 : Int32)) rfl ?_
  refine own_icmpne K own_d5_25 (fun _ => ?_) (fun q => absurd (by decide) q)
  refine own_aloadN K own_d5_32 rfl rfl ?_
  refine own_iconst K own_d5_33 (v := (0 : Int32)) rfl ?_
  refine own_daload K own_d5_34 H (i := 0) rfl (q := q) (hq) (hd) ?_
  exact own_retD K own_d5_35 (by decide) (by decide) (⟨rfl, rfl⟩)
set_option maxRecDepth 65536 in
set_option maxHeartbeats 40000000 in
theorem own_ok_ef (m : MethodId) (x0 : Addr) (x1 : Int32) (x2 : Int32) (x3 : UInt64) : entryFrame m #[(.ref x0), (.int x1), (.int x2), (.double x3)] 5 = mkF m 0 #[.val (.ref x0), .val (.int x1), .val (.int x2), .val (.double x3), .second] [] := by first | (simp [entryFrame, mkF, argsToLocals, Value.category]; done) | rfl
set_option maxRecDepth 65536 in
set_option maxHeartbeats 40000000 in
theorem own_ok {l : Launch} {Z : State} {a0 : Array Value} (hw : own_Z Z a0) {h : Heap} {os : List own_O} {as : List own_A} {ta : Addr} {ts : List Value} {k n : Int32} {i : Nat} {d t : UInt64} (H : own_H Z h os ((ta, .double, "[D", ts) :: as)) (hk : k.toInt = (i : Int)) (hv : ts[i]? = some (.double t)) (ht : t = if k.toInt < n.toInt then d else (4696837146684686336 : UInt64)) (hnn : Fl.NoNaN64 t) : own_Met false l Z (⟨"com/example/fuseplan/fuseplan/runtime/OperandGatherPinLaw", "ok", "([DIID)Z"⟩ : MethodName) method_6_code 5 (some .boolean) [] ({ frames := 0, cells := 0, slots := 0, locals := 0 } : Room) #[(.ref ta), (.int k), (.int n), (.double d)] h (fun v h' => v = some (.int 1) ∧ h = h') := by
  refine own_met (by first | exact plainFor_of_name (by decide +kernel) | decide +kernel) ?_
  intro p e s m below meth c K
  refine own_cast (own_ok_ef m _ _ _ _) ?_
  refine own_iloadN K own_d6_0 rfl ?_
  refine own_iloadN K own_d6_1 rfl ?_
  refine own_icmpge K own_d6_2 (fun g => ?_) (fun g => ?_)
  · refine own_aloadN K own_d6_19 rfl rfl ?_
    refine own_iloadN K own_d6_20 rfl ?_
    refine own_daload K own_d6_21 H (i := 0) rfl (q := i) (hk) (hv) ?_
    refine own_ldc2D K own_d6_22 (own_w10 hw) ?_
    refine own_dcmp K own_d6_25 ?_
    refine own_ifne K own_d6_26 (fun q => absurd q (fun z => z (dcmpV_eq (by simp only [ht]; exact if_neg (Int.not_lt.mpr g)) hnn _))) (fun _ => ?_)
    refine own_iconst K own_d6_29 (v := (1 : Int32)) rfl ?_
    refine own_goto K own_d6_30 ?_
    exact own_retZ K (by first | exact Or.inl rfl | exact Or.inr rfl | decide) own_d6_34 (by decide) (by decide) (⟨rfl, rfl⟩)
  · refine own_aloadN K own_d6_5 rfl rfl ?_
    refine own_iloadN K own_d6_6 rfl ?_
    refine own_daload K own_d6_7 H (i := 0) rfl (q := i) (hk) (hv) ?_
    refine own_dloadN K own_d6_8 rfl ?_
    refine own_dcmp K own_d6_9 ?_
    refine own_ifne K own_d6_10 (fun q => absurd q (fun z => z (dcmpV_eq (by simp only [ht]; exact if_pos (Int.lt_of_not_ge g)) hnn _))) (fun _ => ?_)
    refine own_iconst K own_d6_13 (v := (1 : Int32)) rfl ?_
    refine own_goto K own_d6_14 ?_
    exact own_retZ K (by first | exact Or.inl rfl | exact Or.inr rfl | decide) own_d6_18 (by decide) (by decide) (⟨rfl, rfl⟩)
theorem own_dim (a : Int32) : 1 ≤ ((a &&& 3) % 3 + 1).toInt ∧ ((a &&& 3) % 3 + 1).toInt ≤ 3 := by
  have h1 := own_rem32 (a := a &&& 3) (b := 3) (own_and_bound a 3 (by decide)).1 (by decide)
  have e3 : (3 : Int32).toInt = 3 := rfl
  have e1 : (1 : Int32).toInt = 1 := rfl
  rw [own_add32 (by omega) (by omega)]; omega
theorem own_cnt (a : Int32) : 0 ≤ ((a &&& 7) % 5).toInt ∧ ((a &&& 7) % 5).toInt ≤ 4 := by
  have h1 := own_rem32 (a := a &&& 7) (b := 5) (own_and_bound a 7 (by decide)).1 (by decide)
  have e3 : (5 : Int32).toInt = 5 := rfl
  omega
theorem own_k1 (r c : Int32) : r * 0 + c * 1 = c := by simp
theorem own_k2 (r c : Int32) : r * 1 + c * 0 = r := by simp
theorem own_k3 (r c : Int32) : r * 0 + c * 0 = 0 := by simp
theorem own_ex {z : Int32} (h0 : 0 ≤ z.toInt) (h9 : z.toInt < 9) : ∃ q : Nat, z.toInt = (q : Int) ∧ q < 9 := ⟨z.toInt.toNat, by omega, by omega⟩
theorem own_ix0 {nr n r c : Int32} (a1 : 0 ≤ r.toInt) (a2 : r.toInt < nr.toInt) (a3 : 0 ≤ c.toInt) (a4 : c.toInt < n.toInt) (b1 : nr.toInt ≤ 3) (b2 : 1 ≤ n.toInt ∧ n.toInt ≤ 3) : ∃ q : Nat, (r * n + c * 1).toInt = (q : Int) ∧ q < 9 := by
  have c1 : 0 ≤ r.toInt * n.toInt := Int.mul_nonneg a1 (by omega)
  have c2 : r.toInt * n.toInt ≤ 2 * n.toInt := Int.mul_le_mul_of_nonneg_right (by omega) (by omega)
  have c3 : (r * n).toInt = r.toInt * n.toInt := own_mul32 (by omega) (by omega)
  rw [Int32.mul_one]
  refine own_ex ?_ ?_ <;> rw [own_add32 (by omega) (by omega)] <;> omega
theorem own_ix1 {nr n r c : Int32} (a1 : 0 ≤ r.toInt) (a2 : r.toInt < nr.toInt) (a3 : 0 ≤ c.toInt) (a4 : c.toInt < n.toInt) (b1 : nr.toInt ≤ 3) (b2 : 1 ≤ n.toInt ∧ n.toInt ≤ 3) : ∃ q : Nat, (r * 0 + c * 1).toInt = (q : Int) ∧ q < 9 := by rw [own_k1]; exact own_ex a3 (by omega)
theorem own_ix2 {nr n r c : Int32} (a1 : 0 ≤ r.toInt) (a2 : r.toInt < nr.toInt) (a3 : 0 ≤ c.toInt) (a4 : c.toInt < n.toInt) (b1 : nr.toInt ≤ 3) (b2 : 1 ≤ n.toInt ∧ n.toInt ≤ 3) : ∃ q : Nat, (r * 1 + c * 0).toInt = (q : Int) ∧ q < 9 := by rw [own_k2]; exact own_ex a1 (by omega)
theorem own_ix3 {nr n r c : Int32} (a1 : 0 ≤ r.toInt) (a2 : r.toInt < nr.toInt) (a3 : 0 ≤ c.toInt) (a4 : c.toInt < n.toInt) (b1 : nr.toInt ≤ 3) (b2 : 1 ≤ n.toInt ∧ n.toInt ≤ 3) : ∃ q : Nat, (r * 0 + c * 0).toInt = (q : Int) ∧ q < 9 := by rw [own_k3]; exact ⟨0, rfl, by decide⟩
theorem own_nine {z0 z1 z2 z3 z4 z5 z6 z7 z8 : Int32} : ∀ q : Nat, q < 9 → ∃ d : UInt64, ([.double (FP.i2d z0), .double (FP.i2d z1), .double (FP.i2d z2), .double (FP.i2d z3), .double (FP.i2d z4), .double (FP.i2d z5), .double (FP.i2d z6), .double (FP.i2d z7), .double (FP.i2d z8)] : List Value)[q]? = some (.double d) ∧ Fl.NoNaN64 d := by
  intro q hq
  match q, hq with
  | 0, _ => exact ⟨_, rfl, (Fl.i2d_fin _).noNaN⟩
  | 1, _ => exact ⟨_, rfl, (Fl.i2d_fin _).noNaN⟩
  | 2, _ => exact ⟨_, rfl, (Fl.i2d_fin _).noNaN⟩
  | 3, _ => exact ⟨_, rfl, (Fl.i2d_fin _).noNaN⟩
  | 4, _ => exact ⟨_, rfl, (Fl.i2d_fin _).noNaN⟩
  | 5, _ => exact ⟨_, rfl, (Fl.i2d_fin _).noNaN⟩
  | 6, _ => exact ⟨_, rfl, (Fl.i2d_fin _).noNaN⟩
  | 7, _ => exact ⟨_, rfl, (Fl.i2d_fin _).noNaN⟩
  | 8, _ => exact ⟨_, rfl, (Fl.i2d_fin _).noNaN⟩

set_option maxRecDepth 65536 in
set_option maxHeartbeats 40000000 in
theorem own_law_ef (m : MethodId) (x0 : Int32) (x1 : Int32) (x2 : Int32) (x3 : Int32) (x4 : Int32) (x5 : Int64) : entryFrame m #[(.int x0), (.int x1), (.int x2), (.int x3), (.int x4), (.long x5)] 17 = mkF m 0 #[.val (.int x0), .val (.int x1), .val (.int x2), .val (.int x3), .val (.int x4), .val (.long x5), .second, .unset, .unset, .unset, .unset, .unset, .unset, .unset, .unset, .unset, .unset] [] := by first | (simp [entryFrame, mkF, argsToLocals, Value.category]; done) | rfl
set_option maxRecDepth 65536 in
set_option maxHeartbeats 40000000 in
theorem own_law {l : Launch} {Z : State} {a0 : Array Value} (hw : own_Z Z a0) {sh ki rp cp cp2 : Int32} {sd : Int64} : own_Met false l Z (⟨"com/example/fuseplan/fuseplan/runtime/OperandGatherPinLaw", "law", "(IIIIIJ)Z"⟩ : MethodName) code 17 (some .boolean) tables_1 room_1 #[(.int sh), (.int ki), (.int rp), (.int cp), (.int cp2), (.long sd)] Z.heap (fun v h' => v = some (.int 1)) := by
  refine own_met (by first | exact plainFor_of_name (by decide +kernel) | decide +kernel) ?_
  intro p e s m below meth c K
  refine own_cast (own_law_ef m _ _ _ _ _ _) ?_
  have H := own_H.start Z
  rcases own_and3 ki with q | q | q | q
  · refine own_iloadN K own_d7_0 rfl ?_
    refine own_iconst K own_d7_1 (v := (3 : Int32)) rfl ?_
    refine own_iand K own_d7_2 ?_
    refine own_iconst K own_d7_3 (v := (3 : Int32)) rfl ?_
    refine own_irem K own_d7_4 (by decide) ?_
    refine own_iconst K own_d7_5 (v := (1 : Int32)) rfl ?_
    refine own_iadd K own_d7_6 ?_
    obtain ⟨nr, e_nr⟩ : ∃ z, z = (((sh &&& (3 : Int32)) % (3 : Int32)) + (1 : Int32)) := ⟨_, rfl⟩
    have nr_0 : 1 ≤ nr.toInt ∧ nr.toInt ≤ 3 := by rw [e_nr]; exact own_dim _
    refine own_topI (x' := nr) (e_nr.symm) ?_
    refine own_istore K own_d7_7 (Ls' := #[.val (.int sh), .val (.int ki), .val (.int rp), .val (.int cp), .val (.int cp2), .val (.long sd), .second, .val (.int nr), .unset, .unset, .unset, .unset, .unset, .unset, .unset, .unset, .unset]) rfl ?_
    refine own_iloadN K own_d7_9 rfl ?_
    refine own_iconst K own_d7_10 (v := (2 : Int32)) rfl ?_
    refine own_iushr K own_d7_11 ?_
    refine own_iconst K own_d7_12 (v := (3 : Int32)) rfl ?_
    refine own_iand K own_d7_13 ?_
    refine own_iconst K own_d7_14 (v := (3 : Int32)) rfl ?_
    refine own_irem K own_d7_15 (by decide) ?_
    refine own_iconst K own_d7_16 (v := (1 : Int32)) rfl ?_
    refine own_iadd K own_d7_17 ?_
    obtain ⟨nc, e_nc⟩ : ∃ z, z = ((((XT.ushr sh (2 : Int32)) &&& (3 : Int32)) % (3 : Int32)) + (1 : Int32)) := ⟨_, rfl⟩
    have nc_0 : 1 ≤ nc.toInt ∧ nc.toInt ≤ 3 := by rw [e_nc]; exact own_dim _
    refine own_topI (x' := nc) (e_nc.symm) ?_
    refine own_istore K own_d7_18 (Ls' := #[.val (.int sh), .val (.int ki), .val (.int rp), .val (.int cp), .val (.int cp2), .val (.long sd), .second, .val (.int nr), .val (.int nc), .unset, .unset, .unset, .unset, .unset, .unset, .unset, .unset]) rfl ?_
    refine own_iloadN K own_d7_20 rfl ?_
    refine own_iconst K own_d7_21 (v := (3 : Int32)) rfl ?_
    refine own_iand K own_d7_22 ?_
    refine own_topI (x' := (0 : Int32)) (q) ?_
    refine own_istore K own_d7_23 (Ls' := #[.val (.int sh), .val (.int ki), .val (.int rp), .val (.int cp), .val (.int cp2), .val (.long sd), .second, .val (.int nr), .val (.int nc), .val (.int (0 : Int32)), .unset, .unset, .unset, .unset, .unset, .unset, .unset]) rfl ?_
    refine own_iload K own_d7_25 rfl ?_
    refine own_bipush K own_d7_27 (v := (7 : Int32)) rfl ?_
    refine own_iand K own_d7_29 ?_
    refine own_iconst K own_d7_30 (v := (5 : Int32)) rfl ?_
    refine own_irem K own_d7_31 (by decide) ?_
    obtain ⟨cn, e_cn⟩ : ∃ z, z = ((cp2 &&& (7 : Int32)) % (5 : Int32)) := ⟨_, rfl⟩
    have cn_0 : 0 ≤ cn.toInt ∧ cn.toInt ≤ 4 := by rw [e_cn]; exact own_cnt _
    refine own_topI (x' := cn) (e_cn.symm) ?_
    refine own_istore K own_d7_32 (Ls' := #[.val (.int sh), .val (.int ki), .val (.int rp), .val (.int cp), .val (.int cp2), .val (.long sd), .second, .val (.int nr), .val (.int nc), .val (.int (0 : Int32)), .val (.int cn), .unset, .unset, .unset, .unset, .unset, .unset]) rfl ?_
    refine own_iload K own_d7_34 rfl ?_
    refine own_ifne K own_d7_36 (fun q => absurd q (by decide)) (fun _ => ?_)
    refine own_iload K own_d7_39 rfl ?_
    refine own_goto K own_d7_41 ?_
    refine own_istore K own_d7_55 (Ls' := #[.val (.int sh), .val (.int ki), .val (.int rp), .val (.int cp), .val (.int cp2), .val (.long sd), .second, .val (.int nr), .val (.int nc), .val (.int (0 : Int32)), .val (.int cn), .val (.int nc), .unset, .unset, .unset, .unset, .unset]) rfl ?_
    refine own_iload K own_d7_57 rfl ?_
    refine own_ifeq K own_d7_59 (fun _ => ?_) (fun q => absurd (by decide) q)
    refine own_iconst K own_d7_68 (v := (1 : Int32)) rfl ?_
    refine own_goto K own_d7_69 ?_
    refine own_istore K own_d7_73 (Ls' := #[.val (.int sh), .val (.int ki), .val (.int rp), .val (.int cp), .val (.int cp2), .val (.long sd), .second, .val (.int nr), .val (.int nc), .val (.int (0 : Int32)), .val (.int cn), .val (.int nc), .val (.int (1 : Int32)), .unset, .unset, .unset, .unset]) rfl ?_
    refine own_bipush K own_d7_75 (v := (9 : Int32)) rfl ?_
    refine own_newarray K own_d7_77 (ty := .double) rfl (own_w0 hw) H (q := 9) (by decide) (ad := "[D") (by decide +kernel) (vs := [(.double (0 : UInt64)), (.double (0 : UInt64)), (.double (0 : UInt64)), (.double (0 : UInt64)), (.double (0 : UInt64)), (.double (0 : UInt64)), (.double (0 : UInt64)), (.double (0 : UInt64)), (.double (0 : UInt64))]) rfl (by decide) (by decide) (by decide) ?_
    intro h1 a3 H2
    replace H2 : own_H Z h1 ([]) ((a3, .double, "[D", [(.double (0 : UInt64)), (.double (0 : UInt64)), (.double (0 : UInt64)), (.double (0 : UInt64)), (.double (0 : UInt64)), (.double (0 : UInt64)), (.double (0 : UInt64)), (.double (0 : UInt64)), (.double (0 : UInt64))]) :: []) := H2
    refine own_dup K own_d7_79 rfl ?_
    refine own_iconst K own_d7_80 (v := (0 : Int32)) rfl ?_
    refine own_lload K own_d7_81 rfl ?_
    refine own_iconst K own_d7_83 (v := (0 : Int32)) rfl ?_
    refine own_static K own_d7_84 (own_w1 hw) (own_w2 hw) (own_w3 hw) (own_w4 hw) (argsL := [(.long sd), (.int (0 : Int32))]) (rest := [(.int (0 : Int32)), (.ref a3), (.ref a3)]) (own_v hw) own_pd1 rfl rfl rfl (by decide) (W := 3) (Nat.le_of_eq rfl) (by decide) (by decide) (by decide) (by decide) ?_
    intro v6 h4 q5
    obtain ⟨⟨z0, rfl⟩, rfl⟩ := q5
    refine own_dastore K own_d7_87 H2 (i := 0) rfl (q := 0) (by decide) (own_le rfl) ?_
    intro h7 H8
    replace H8 : own_H Z h7 ([]) ((a3, .double, "[D", [(.double (FP.i2d z0)), (.double (0 : UInt64)), (.double (0 : UInt64)), (.double (0 : UInt64)), (.double (0 : UInt64)), (.double (0 : UInt64)), (.double (0 : UInt64)), (.double (0 : UInt64)), (.double (0 : UInt64))]) :: []) := H8
    refine own_dup K own_d7_88 rfl ?_
    refine own_iconst K own_d7_89 (v := (1 : Int32)) rfl ?_
    refine own_lload K own_d7_90 rfl ?_
    refine own_iconst K own_d7_92 (v := (1 : Int32)) rfl ?_
    refine own_static K own_d7_93 (own_w1 hw) (own_w2 hw) (own_w3 hw) (own_w4 hw) (argsL := [(.long sd), (.int (1 : Int32))]) (rest := [(.int (1 : Int32)), (.ref a3), (.ref a3)]) (own_v hw) own_pd1 rfl rfl rfl (by decide) (W := 3) (Nat.le_of_eq rfl) (by decide) (by decide) (by decide) (by decide) ?_
    intro v11 h9 q10
    obtain ⟨⟨z1, rfl⟩, rfl⟩ := q10
    refine own_dastore K own_d7_96 H8 (i := 0) rfl (q := 1) (by decide) (own_le rfl) ?_
    intro h12 H13
    replace H13 : own_H Z h12 ([]) ((a3, .double, "[D", [(.double (FP.i2d z0)), (.double (FP.i2d z1)), (.double (0 : UInt64)), (.double (0 : UInt64)), (.double (0 : UInt64)), (.double (0 : UInt64)), (.double (0 : UInt64)), (.double (0 : UInt64)), (.double (0 : UInt64))]) :: []) := H13
    refine own_dup K own_d7_97 rfl ?_
    refine own_iconst K own_d7_98 (v := (2 : Int32)) rfl ?_
    refine own_lload K own_d7_99 rfl ?_
    refine own_iconst K own_d7_101 (v := (2 : Int32)) rfl ?_
    refine own_static K own_d7_102 (own_w1 hw) (own_w2 hw) (own_w3 hw) (own_w4 hw) (argsL := [(.long sd), (.int (2 : Int32))]) (rest := [(.int (2 : Int32)), (.ref a3), (.ref a3)]) (own_v hw) own_pd1 rfl rfl rfl (by decide) (W := 3) (Nat.le_of_eq rfl) (by decide) (by decide) (by decide) (by decide) ?_
    intro v16 h14 q15
    obtain ⟨⟨z2, rfl⟩, rfl⟩ := q15
    refine own_dastore K own_d7_105 H13 (i := 0) rfl (q := 2) (by decide) (own_le rfl) ?_
    intro h17 H18
    replace H18 : own_H Z h17 ([]) ((a3, .double, "[D", [(.double (FP.i2d z0)), (.double (FP.i2d z1)), (.double (FP.i2d z2)), (.double (0 : UInt64)), (.double (0 : UInt64)), (.double (0 : UInt64)), (.double (0 : UInt64)), (.double (0 : UInt64)), (.double (0 : UInt64))]) :: []) := H18
    refine own_dup K own_d7_106 rfl ?_
    refine own_iconst K own_d7_107 (v := (3 : Int32)) rfl ?_
    refine own_lload K own_d7_108 rfl ?_
    refine own_iconst K own_d7_110 (v := (3 : Int32)) rfl ?_
    refine own_static K own_d7_111 (own_w1 hw) (own_w2 hw) (own_w3 hw) (own_w4 hw) (argsL := [(.long sd), (.int (3 : Int32))]) (rest := [(.int (3 : Int32)), (.ref a3), (.ref a3)]) (own_v hw) own_pd1 rfl rfl rfl (by decide) (W := 3) (Nat.le_of_eq rfl) (by decide) (by decide) (by decide) (by decide) ?_
    intro v21 h19 q20
    obtain ⟨⟨z3, rfl⟩, rfl⟩ := q20
    refine own_dastore K own_d7_114 H18 (i := 0) rfl (q := 3) (by decide) (own_le rfl) ?_
    intro h22 H23
    replace H23 : own_H Z h22 ([]) ((a3, .double, "[D", [(.double (FP.i2d z0)), (.double (FP.i2d z1)), (.double (FP.i2d z2)), (.double (FP.i2d z3)), (.double (0 : UInt64)), (.double (0 : UInt64)), (.double (0 : UInt64)), (.double (0 : UInt64)), (.double (0 : UInt64))]) :: []) := H23
    refine own_dup K own_d7_115 rfl ?_
    refine own_iconst K own_d7_116 (v := (4 : Int32)) rfl ?_
    refine own_lload K own_d7_117 rfl ?_
    refine own_iconst K own_d7_119 (v := (4 : Int32)) rfl ?_
    refine own_static K own_d7_120 (own_w1 hw) (own_w2 hw) (own_w3 hw) (own_w4 hw) (argsL := [(.long sd), (.int (4 : Int32))]) (rest := [(.int (4 : Int32)), (.ref a3), (.ref a3)]) (own_v hw) own_pd1 rfl rfl rfl (by decide) (W := 3) (Nat.le_of_eq rfl) (by decide) (by decide) (by decide) (by decide) ?_
    intro v26 h24 q25
    obtain ⟨⟨z4, rfl⟩, rfl⟩ := q25
    refine own_dastore K own_d7_123 H23 (i := 0) rfl (q := 4) (by decide) (own_le rfl) ?_
    intro h27 H28
    replace H28 : own_H Z h27 ([]) ((a3, .double, "[D", [(.double (FP.i2d z0)), (.double (FP.i2d z1)), (.double (FP.i2d z2)), (.double (FP.i2d z3)), (.double (FP.i2d z4)), (.double (0 : UInt64)), (.double (0 : UInt64)), (.double (0 : UInt64)), (.double (0 : UInt64))]) :: []) := H28
    refine own_dup K own_d7_124 rfl ?_
    refine own_iconst K own_d7_125 (v := (5 : Int32)) rfl ?_
    refine own_lload K own_d7_126 rfl ?_
    refine own_iconst K own_d7_128 (v := (5 : Int32)) rfl ?_
    refine own_static K own_d7_129 (own_w1 hw) (own_w2 hw) (own_w3 hw) (own_w4 hw) (argsL := [(.long sd), (.int (5 : Int32))]) (rest := [(.int (5 : Int32)), (.ref a3), (.ref a3)]) (own_v hw) own_pd1 rfl rfl rfl (by decide) (W := 3) (Nat.le_of_eq rfl) (by decide) (by decide) (by decide) (by decide) ?_
    intro v31 h29 q30
    obtain ⟨⟨z5, rfl⟩, rfl⟩ := q30
    refine own_dastore K own_d7_132 H28 (i := 0) rfl (q := 5) (by decide) (own_le rfl) ?_
    intro h32 H33
    replace H33 : own_H Z h32 ([]) ((a3, .double, "[D", [(.double (FP.i2d z0)), (.double (FP.i2d z1)), (.double (FP.i2d z2)), (.double (FP.i2d z3)), (.double (FP.i2d z4)), (.double (FP.i2d z5)), (.double (0 : UInt64)), (.double (0 : UInt64)), (.double (0 : UInt64))]) :: []) := H33
    refine own_dup K own_d7_133 rfl ?_
    refine own_bipush K own_d7_134 (v := (6 : Int32)) rfl ?_
    refine own_lload K own_d7_136 rfl ?_
    refine own_bipush K own_d7_138 (v := (6 : Int32)) rfl ?_
    refine own_static K own_d7_140 (own_w1 hw) (own_w2 hw) (own_w3 hw) (own_w4 hw) (argsL := [(.long sd), (.int (6 : Int32))]) (rest := [(.int (6 : Int32)), (.ref a3), (.ref a3)]) (own_v hw) own_pd1 rfl rfl rfl (by decide) (W := 3) (Nat.le_of_eq rfl) (by decide) (by decide) (by decide) (by decide) ?_
    intro v36 h34 q35
    obtain ⟨⟨z6, rfl⟩, rfl⟩ := q35
    refine own_dastore K own_d7_143 H33 (i := 0) rfl (q := 6) (by decide) (own_le rfl) ?_
    intro h37 H38
    replace H38 : own_H Z h37 ([]) ((a3, .double, "[D", [(.double (FP.i2d z0)), (.double (FP.i2d z1)), (.double (FP.i2d z2)), (.double (FP.i2d z3)), (.double (FP.i2d z4)), (.double (FP.i2d z5)), (.double (FP.i2d z6)), (.double (0 : UInt64)), (.double (0 : UInt64))]) :: []) := H38
    refine own_dup K own_d7_144 rfl ?_
    refine own_bipush K own_d7_145 (v := (7 : Int32)) rfl ?_
    refine own_lload K own_d7_147 rfl ?_
    refine own_bipush K own_d7_149 (v := (7 : Int32)) rfl ?_
    refine own_static K own_d7_151 (own_w1 hw) (own_w2 hw) (own_w3 hw) (own_w4 hw) (argsL := [(.long sd), (.int (7 : Int32))]) (rest := [(.int (7 : Int32)), (.ref a3), (.ref a3)]) (own_v hw) own_pd1 rfl rfl rfl (by decide) (W := 3) (Nat.le_of_eq rfl) (by decide) (by decide) (by decide) (by decide) ?_
    intro v41 h39 q40
    obtain ⟨⟨z7, rfl⟩, rfl⟩ := q40
    refine own_dastore K own_d7_154 H38 (i := 0) rfl (q := 7) (by decide) (own_le rfl) ?_
    intro h42 H43
    replace H43 : own_H Z h42 ([]) ((a3, .double, "[D", [(.double (FP.i2d z0)), (.double (FP.i2d z1)), (.double (FP.i2d z2)), (.double (FP.i2d z3)), (.double (FP.i2d z4)), (.double (FP.i2d z5)), (.double (FP.i2d z6)), (.double (FP.i2d z7)), (.double (0 : UInt64))]) :: []) := H43
    refine own_dup K own_d7_155 rfl ?_
    refine own_bipush K own_d7_156 (v := (8 : Int32)) rfl ?_
    refine own_lload K own_d7_158 rfl ?_
    refine own_bipush K own_d7_160 (v := (8 : Int32)) rfl ?_
    refine own_static K own_d7_162 (own_w1 hw) (own_w2 hw) (own_w3 hw) (own_w4 hw) (argsL := [(.long sd), (.int (8 : Int32))]) (rest := [(.int (8 : Int32)), (.ref a3), (.ref a3)]) (own_v hw) own_pd1 rfl rfl rfl (by decide) (W := 3) (Nat.le_of_eq rfl) (by decide) (by decide) (by decide) (by decide) ?_
    intro v46 h44 q45
    obtain ⟨⟨z8, rfl⟩, rfl⟩ := q45
    refine own_dastore K own_d7_165 H43 (i := 0) rfl (q := 8) (by decide) (own_le rfl) ?_
    intro h47 H48
    replace H48 : own_H Z h47 ([]) ((a3, .double, "[D", [(.double (FP.i2d z0)), (.double (FP.i2d z1)), (.double (FP.i2d z2)), (.double (FP.i2d z3)), (.double (FP.i2d z4)), (.double (FP.i2d z5)), (.double (FP.i2d z6)), (.double (FP.i2d z7)), (.double (FP.i2d z8))]) :: []) := H48
    refine own_astore K own_d7_166 rfl (Ls' := #[.val (.int sh), .val (.int ki), .val (.int rp), .val (.int cp), .val (.int cp2), .val (.long sd), .second, .val (.int nr), .val (.int nc), .val (.int (0 : Int32)), .val (.int cn), .val (.int nc), .val (.int (1 : Int32)), .val (.ref a3), .unset, .unset, .unset]) rfl ?_
    refine own_iconst K own_d7_168 (v := (4 : Int32)) rfl ?_
    refine own_newarray K own_d7_169 (ty := .int) rfl (own_w6 hw) H48 (q := 4) (by decide) (ad := "[I") (by decide +kernel) (vs := [(.int (0 : Int32)), (.int (0 : Int32)), (.int (0 : Int32)), (.int (0 : Int32))]) rfl (by decide) (by decide) (by decide) ?_
    intro h49 a51 H50
    replace H50 : own_H Z h49 ([]) ((a51, .int, "[I", [(.int (0 : Int32)), (.int (0 : Int32)), (.int (0 : Int32)), (.int (0 : Int32))]) :: (a3, .double, "[D", [(.double (FP.i2d z0)), (.double (FP.i2d z1)), (.double (FP.i2d z2)), (.double (FP.i2d z3)), (.double (FP.i2d z4)), (.double (FP.i2d z5)), (.double (FP.i2d z6)), (.double (FP.i2d z7)), (.double (FP.i2d z8))]) :: []) := H50
    refine own_dup K own_d7_171 rfl ?_
    refine own_iconst K own_d7_172 (v := (0 : Int32)) rfl ?_
    refine own_iloadN K own_d7_173 rfl ?_
    refine own_iconst K own_d7_174 (v := (0 : Int32)) rfl ?_
    refine own_iload K own_d7_175 rfl ?_
    refine own_static K own_d7_177 (own_w7 hw) (own_w8 hw) (own_w3 hw) (own_w9 hw) (argsL := [(.int rp), (.int (0 : Int32)), (.int nr)]) (rest := [(.int (0 : Int32)), (.ref a51), (.ref a51)]) (own_pick hw (by omega)) own_pd2 rfl rfl rfl (by decide) (W := 3) (Nat.le_of_eq rfl) (by decide) (by decide) (by decide) (by decide) ?_
    intro v54 h52 q53
    obtain ⟨⟨r0, rfl, r0_0, r0_1⟩, rfl⟩ := q53
    refine own_iastore K own_d7_180 H50 (i := 0) rfl (q := 0) (by decide) (own_le rfl) ?_
    intro h55 H56
    replace H56 : own_H Z h55 ([]) ((a51, .int, "[I", [(.int r0), (.int (0 : Int32)), (.int (0 : Int32)), (.int (0 : Int32))]) :: (a3, .double, "[D", [(.double (FP.i2d z0)), (.double (FP.i2d z1)), (.double (FP.i2d z2)), (.double (FP.i2d z3)), (.double (FP.i2d z4)), (.double (FP.i2d z5)), (.double (FP.i2d z6)), (.double (FP.i2d z7)), (.double (FP.i2d z8))]) :: []) := H56
    refine own_dup K own_d7_181 rfl ?_
    refine own_iconst K own_d7_182 (v := (1 : Int32)) rfl ?_
    refine own_iloadN K own_d7_183 rfl ?_
    refine own_iconst K own_d7_184 (v := (1 : Int32)) rfl ?_
    refine own_iload K own_d7_185 rfl ?_
    refine own_static K own_d7_187 (own_w7 hw) (own_w8 hw) (own_w3 hw) (own_w9 hw) (argsL := [(.int rp), (.int (1 : Int32)), (.int nr)]) (rest := [(.int (1 : Int32)), (.ref a51), (.ref a51)]) (own_pick hw (by omega)) own_pd2 rfl rfl rfl (by decide) (W := 3) (Nat.le_of_eq rfl) (by decide) (by decide) (by decide) (by decide) ?_
    intro v59 h57 q58
    obtain ⟨⟨r1, rfl, r1_0, r1_1⟩, rfl⟩ := q58
    refine own_iastore K own_d7_190 H56 (i := 0) rfl (q := 1) (by decide) (own_le rfl) ?_
    intro h60 H61
    replace H61 : own_H Z h60 ([]) ((a51, .int, "[I", [(.int r0), (.int r1), (.int (0 : Int32)), (.int (0 : Int32))]) :: (a3, .double, "[D", [(.double (FP.i2d z0)), (.double (FP.i2d z1)), (.double (FP.i2d z2)), (.double (FP.i2d z3)), (.double (FP.i2d z4)), (.double (FP.i2d z5)), (.double (FP.i2d z6)), (.double (FP.i2d z7)), (.double (FP.i2d z8))]) :: []) := H61
    refine own_dup K own_d7_191 rfl ?_
    refine own_iconst K own_d7_192 (v := (2 : Int32)) rfl ?_
    refine own_iloadN K own_d7_193 rfl ?_
    refine own_iconst K own_d7_194 (v := (2 : Int32)) rfl ?_
    refine own_iload K own_d7_195 rfl ?_
    refine own_static K own_d7_197 (own_w7 hw) (own_w8 hw) (own_w3 hw) (own_w9 hw) (argsL := [(.int rp), (.int (2 : Int32)), (.int nr)]) (rest := [(.int (2 : Int32)), (.ref a51), (.ref a51)]) (own_pick hw (by omega)) own_pd2 rfl rfl rfl (by decide) (W := 3) (Nat.le_of_eq rfl) (by decide) (by decide) (by decide) (by decide) ?_
    intro v64 h62 q63
    obtain ⟨⟨r2, rfl, r2_0, r2_1⟩, rfl⟩ := q63
    refine own_iastore K own_d7_200 H61 (i := 0) rfl (q := 2) (by decide) (own_le rfl) ?_
    intro h65 H66
    replace H66 : own_H Z h65 ([]) ((a51, .int, "[I", [(.int r0), (.int r1), (.int r2), (.int (0 : Int32))]) :: (a3, .double, "[D", [(.double (FP.i2d z0)), (.double (FP.i2d z1)), (.double (FP.i2d z2)), (.double (FP.i2d z3)), (.double (FP.i2d z4)), (.double (FP.i2d z5)), (.double (FP.i2d z6)), (.double (FP.i2d z7)), (.double (FP.i2d z8))]) :: []) := H66
    refine own_dup K own_d7_201 rfl ?_
    refine own_iconst K own_d7_202 (v := (3 : Int32)) rfl ?_
    refine own_iloadN K own_d7_203 rfl ?_
    refine own_iconst K own_d7_204 (v := (3 : Int32)) rfl ?_
    refine own_iload K own_d7_205 rfl ?_
    refine own_static K own_d7_207 (own_w7 hw) (own_w8 hw) (own_w3 hw) (own_w9 hw) (argsL := [(.int rp), (.int (3 : Int32)), (.int nr)]) (rest := [(.int (3 : Int32)), (.ref a51), (.ref a51)]) (own_pick hw (by omega)) own_pd2 rfl rfl rfl (by decide) (W := 3) (Nat.le_of_eq rfl) (by decide) (by decide) (by decide) (by decide) ?_
    intro v69 h67 q68
    obtain ⟨⟨r3, rfl, r3_0, r3_1⟩, rfl⟩ := q68
    refine own_iastore K own_d7_210 H66 (i := 0) rfl (q := 3) (by decide) (own_le rfl) ?_
    intro h70 H71
    replace H71 : own_H Z h70 ([]) ((a51, .int, "[I", [(.int r0), (.int r1), (.int r2), (.int r3)]) :: (a3, .double, "[D", [(.double (FP.i2d z0)), (.double (FP.i2d z1)), (.double (FP.i2d z2)), (.double (FP.i2d z3)), (.double (FP.i2d z4)), (.double (FP.i2d z5)), (.double (FP.i2d z6)), (.double (FP.i2d z7)), (.double (FP.i2d z8))]) :: []) := H71
    refine own_astore K own_d7_211 rfl (Ls' := #[.val (.int sh), .val (.int ki), .val (.int rp), .val (.int cp), .val (.int cp2), .val (.long sd), .second, .val (.int nr), .val (.int nc), .val (.int (0 : Int32)), .val (.int cn), .val (.int nc), .val (.int (1 : Int32)), .val (.ref a3), .val (.ref a51), .unset, .unset]) rfl ?_
    refine own_iconst K own_d7_213 (v := (4 : Int32)) rfl ?_
    refine own_newarray K own_d7_214 (ty := .int) rfl (own_w6 hw) H71 (q := 4) (by decide) (ad := "[I") (by decide +kernel) (vs := [(.int (0 : Int32)), (.int (0 : Int32)), (.int (0 : Int32)), (.int (0 : Int32))]) rfl (by decide) (by decide) (by decide) ?_
    intro h72 a74 H73
    replace H73 : own_H Z h72 ([]) ((a74, .int, "[I", [(.int (0 : Int32)), (.int (0 : Int32)), (.int (0 : Int32)), (.int (0 : Int32))]) :: (a51, .int, "[I", [(.int r0), (.int r1), (.int r2), (.int r3)]) :: (a3, .double, "[D", [(.double (FP.i2d z0)), (.double (FP.i2d z1)), (.double (FP.i2d z2)), (.double (FP.i2d z3)), (.double (FP.i2d z4)), (.double (FP.i2d z5)), (.double (FP.i2d z6)), (.double (FP.i2d z7)), (.double (FP.i2d z8))]) :: []) := H73
    refine own_dup K own_d7_216 rfl ?_
    refine own_iconst K own_d7_217 (v := (0 : Int32)) rfl ?_
    refine own_iloadN K own_d7_218 rfl ?_
    refine own_iconst K own_d7_219 (v := (0 : Int32)) rfl ?_
    refine own_iload K own_d7_220 rfl ?_
    refine own_static K own_d7_222 (own_w7 hw) (own_w8 hw) (own_w3 hw) (own_w9 hw) (argsL := [(.int cp), (.int (0 : Int32)), (.int nc)]) (rest := [(.int (0 : Int32)), (.ref a74), (.ref a74)]) (own_pick hw (by omega)) own_pd2 rfl rfl rfl (by decide) (W := 3) (Nat.le_of_eq rfl) (by decide) (by decide) (by decide) (by decide) ?_
    intro v77 h75 q76
    obtain ⟨⟨c0, rfl, c0_0, c0_1⟩, rfl⟩ := q76
    refine own_iastore K own_d7_225 H73 (i := 0) rfl (q := 0) (by decide) (own_le rfl) ?_
    intro h78 H79
    replace H79 : own_H Z h78 ([]) ((a74, .int, "[I", [(.int c0), (.int (0 : Int32)), (.int (0 : Int32)), (.int (0 : Int32))]) :: (a51, .int, "[I", [(.int r0), (.int r1), (.int r2), (.int r3)]) :: (a3, .double, "[D", [(.double (FP.i2d z0)), (.double (FP.i2d z1)), (.double (FP.i2d z2)), (.double (FP.i2d z3)), (.double (FP.i2d z4)), (.double (FP.i2d z5)), (.double (FP.i2d z6)), (.double (FP.i2d z7)), (.double (FP.i2d z8))]) :: []) := H79
    refine own_dup K own_d7_226 rfl ?_
    refine own_iconst K own_d7_227 (v := (1 : Int32)) rfl ?_
    refine own_iloadN K own_d7_228 rfl ?_
    refine own_iconst K own_d7_229 (v := (1 : Int32)) rfl ?_
    refine own_iload K own_d7_230 rfl ?_
    refine own_static K own_d7_232 (own_w7 hw) (own_w8 hw) (own_w3 hw) (own_w9 hw) (argsL := [(.int cp), (.int (1 : Int32)), (.int nc)]) (rest := [(.int (1 : Int32)), (.ref a74), (.ref a74)]) (own_pick hw (by omega)) own_pd2 rfl rfl rfl (by decide) (W := 3) (Nat.le_of_eq rfl) (by decide) (by decide) (by decide) (by decide) ?_
    intro v82 h80 q81
    obtain ⟨⟨c1, rfl, c1_0, c1_1⟩, rfl⟩ := q81
    refine own_iastore K own_d7_235 H79 (i := 0) rfl (q := 1) (by decide) (own_le rfl) ?_
    intro h83 H84
    replace H84 : own_H Z h83 ([]) ((a74, .int, "[I", [(.int c0), (.int c1), (.int (0 : Int32)), (.int (0 : Int32))]) :: (a51, .int, "[I", [(.int r0), (.int r1), (.int r2), (.int r3)]) :: (a3, .double, "[D", [(.double (FP.i2d z0)), (.double (FP.i2d z1)), (.double (FP.i2d z2)), (.double (FP.i2d z3)), (.double (FP.i2d z4)), (.double (FP.i2d z5)), (.double (FP.i2d z6)), (.double (FP.i2d z7)), (.double (FP.i2d z8))]) :: []) := H84
    refine own_dup K own_d7_236 rfl ?_
    refine own_iconst K own_d7_237 (v := (2 : Int32)) rfl ?_
    refine own_iloadN K own_d7_238 rfl ?_
    refine own_iconst K own_d7_239 (v := (2 : Int32)) rfl ?_
    refine own_iload K own_d7_240 rfl ?_
    refine own_static K own_d7_242 (own_w7 hw) (own_w8 hw) (own_w3 hw) (own_w9 hw) (argsL := [(.int cp), (.int (2 : Int32)), (.int nc)]) (rest := [(.int (2 : Int32)), (.ref a74), (.ref a74)]) (own_pick hw (by omega)) own_pd2 rfl rfl rfl (by decide) (W := 3) (Nat.le_of_eq rfl) (by decide) (by decide) (by decide) (by decide) ?_
    intro v87 h85 q86
    obtain ⟨⟨c2, rfl, c2_0, c2_1⟩, rfl⟩ := q86
    refine own_iastore K own_d7_245 H84 (i := 0) rfl (q := 2) (by decide) (own_le rfl) ?_
    intro h88 H89
    replace H89 : own_H Z h88 ([]) ((a74, .int, "[I", [(.int c0), (.int c1), (.int c2), (.int (0 : Int32))]) :: (a51, .int, "[I", [(.int r0), (.int r1), (.int r2), (.int r3)]) :: (a3, .double, "[D", [(.double (FP.i2d z0)), (.double (FP.i2d z1)), (.double (FP.i2d z2)), (.double (FP.i2d z3)), (.double (FP.i2d z4)), (.double (FP.i2d z5)), (.double (FP.i2d z6)), (.double (FP.i2d z7)), (.double (FP.i2d z8))]) :: []) := H89
    refine own_dup K own_d7_246 rfl ?_
    refine own_iconst K own_d7_247 (v := (3 : Int32)) rfl ?_
    refine own_iloadN K own_d7_248 rfl ?_
    refine own_iconst K own_d7_249 (v := (3 : Int32)) rfl ?_
    refine own_iload K own_d7_250 rfl ?_
    refine own_static K own_d7_252 (own_w7 hw) (own_w8 hw) (own_w3 hw) (own_w9 hw) (argsL := [(.int cp), (.int (3 : Int32)), (.int nc)]) (rest := [(.int (3 : Int32)), (.ref a74), (.ref a74)]) (own_pick hw (by omega)) own_pd2 rfl rfl rfl (by decide) (W := 3) (Nat.le_of_eq rfl) (by decide) (by decide) (by decide) (by decide) ?_
    intro v92 h90 q91
    obtain ⟨⟨c3, rfl, c3_0, c3_1⟩, rfl⟩ := q91
    refine own_iastore K own_d7_255 H89 (i := 0) rfl (q := 3) (by decide) (own_le rfl) ?_
    intro h93 H94
    replace H94 : own_H Z h93 ([]) ((a74, .int, "[I", [(.int c0), (.int c1), (.int c2), (.int c3)]) :: (a51, .int, "[I", [(.int r0), (.int r1), (.int r2), (.int r3)]) :: (a3, .double, "[D", [(.double (FP.i2d z0)), (.double (FP.i2d z1)), (.double (FP.i2d z2)), (.double (FP.i2d z3)), (.double (FP.i2d z4)), (.double (FP.i2d z5)), (.double (FP.i2d z6)), (.double (FP.i2d z7)), (.double (FP.i2d z8))]) :: []) := H94
    refine own_astore K own_d7_256 rfl (Ls' := #[.val (.int sh), .val (.int ki), .val (.int rp), .val (.int cp), .val (.int cp2), .val (.long sd), .second, .val (.int nr), .val (.int nc), .val (.int (0 : Int32)), .val (.int cn), .val (.int nc), .val (.int (1 : Int32)), .val (.ref a3), .val (.ref a51), .val (.ref a74), .unset]) rfl ?_
    refine own_iconst K own_d7_258 (v := (5 : Int32)) rfl ?_
    refine own_newarray K own_d7_259 (ty := .double) rfl (own_w0 hw) H94 (q := 5) (by decide) (ad := "[D") (by decide +kernel) (vs := [(.double (0 : UInt64)), (.double (0 : UInt64)), (.double (0 : UInt64)), (.double (0 : UInt64)), (.double (0 : UInt64))]) rfl (by decide) (by decide) (by decide) ?_
    intro h95 a97 H96
    replace H96 : own_H Z h95 ([]) ((a97, .double, "[D", [(.double (0 : UInt64)), (.double (0 : UInt64)), (.double (0 : UInt64)), (.double (0 : UInt64)), (.double (0 : UInt64))]) :: (a74, .int, "[I", [(.int c0), (.int c1), (.int c2), (.int c3)]) :: (a51, .int, "[I", [(.int r0), (.int r1), (.int r2), (.int r3)]) :: (a3, .double, "[D", [(.double (FP.i2d z0)), (.double (FP.i2d z1)), (.double (FP.i2d z2)), (.double (FP.i2d z3)), (.double (FP.i2d z4)), (.double (FP.i2d z5)), (.double (FP.i2d z6)), (.double (FP.i2d z7)), (.double (FP.i2d z8))]) :: []) := H96
    refine own_dup K own_d7_261 rfl ?_
    refine own_iconst K own_d7_262 (v := (0 : Int32)) rfl ?_
    refine own_ldc2D K own_d7_263 (own_w10 hw) ?_
    refine own_dastore K own_d7_266 H96 (i := 0) rfl (q := 0) (by decide) (own_le rfl) ?_
    intro h98 H99
    replace H99 : own_H Z h98 ([]) ((a97, .double, "[D", [(.double (4696837146684686336 : UInt64)), (.double (0 : UInt64)), (.double (0 : UInt64)), (.double (0 : UInt64)), (.double (0 : UInt64))]) :: (a74, .int, "[I", [(.int c0), (.int c1), (.int c2), (.int c3)]) :: (a51, .int, "[I", [(.int r0), (.int r1), (.int r2), (.int r3)]) :: (a3, .double, "[D", [(.double (FP.i2d z0)), (.double (FP.i2d z1)), (.double (FP.i2d z2)), (.double (FP.i2d z3)), (.double (FP.i2d z4)), (.double (FP.i2d z5)), (.double (FP.i2d z6)), (.double (FP.i2d z7)), (.double (FP.i2d z8))]) :: []) := H99
    refine own_dup K own_d7_267 rfl ?_
    refine own_iconst K own_d7_268 (v := (1 : Int32)) rfl ?_
    refine own_ldc2D K own_d7_269 (own_w10 hw) ?_
    refine own_dastore K own_d7_272 H99 (i := 0) rfl (q := 1) (by decide) (own_le rfl) ?_
    intro h100 H101
    replace H101 : own_H Z h100 ([]) ((a97, .double, "[D", [(.double (4696837146684686336 : UInt64)), (.double (4696837146684686336 : UInt64)), (.double (0 : UInt64)), (.double (0 : UInt64)), (.double (0 : UInt64))]) :: (a74, .int, "[I", [(.int c0), (.int c1), (.int c2), (.int c3)]) :: (a51, .int, "[I", [(.int r0), (.int r1), (.int r2), (.int r3)]) :: (a3, .double, "[D", [(.double (FP.i2d z0)), (.double (FP.i2d z1)), (.double (FP.i2d z2)), (.double (FP.i2d z3)), (.double (FP.i2d z4)), (.double (FP.i2d z5)), (.double (FP.i2d z6)), (.double (FP.i2d z7)), (.double (FP.i2d z8))]) :: []) := H101
    refine own_dup K own_d7_273 rfl ?_
    refine own_iconst K own_d7_274 (v := (2 : Int32)) rfl ?_
    refine own_ldc2D K own_d7_275 (own_w10 hw) ?_
    refine own_dastore K own_d7_278 H101 (i := 0) rfl (q := 2) (by decide) (own_le rfl) ?_
    intro h102 H103
    replace H103 : own_H Z h102 ([]) ((a97, .double, "[D", [(.double (4696837146684686336 : UInt64)), (.double (4696837146684686336 : UInt64)), (.double (4696837146684686336 : UInt64)), (.double (0 : UInt64)), (.double (0 : UInt64))]) :: (a74, .int, "[I", [(.int c0), (.int c1), (.int c2), (.int c3)]) :: (a51, .int, "[I", [(.int r0), (.int r1), (.int r2), (.int r3)]) :: (a3, .double, "[D", [(.double (FP.i2d z0)), (.double (FP.i2d z1)), (.double (FP.i2d z2)), (.double (FP.i2d z3)), (.double (FP.i2d z4)), (.double (FP.i2d z5)), (.double (FP.i2d z6)), (.double (FP.i2d z7)), (.double (FP.i2d z8))]) :: []) := H103
    refine own_dup K own_d7_279 rfl ?_
    refine own_iconst K own_d7_280 (v := (3 : Int32)) rfl ?_
    refine own_ldc2D K own_d7_281 (own_w10 hw) ?_
    refine own_dastore K own_d7_284 H103 (i := 0) rfl (q := 3) (by decide) (own_le rfl) ?_
    intro h104 H105
    replace H105 : own_H Z h104 ([]) ((a97, .double, "[D", [(.double (4696837146684686336 : UInt64)), (.double (4696837146684686336 : UInt64)), (.double (4696837146684686336 : UInt64)), (.double (4696837146684686336 : UInt64)), (.double (0 : UInt64))]) :: (a74, .int, "[I", [(.int c0), (.int c1), (.int c2), (.int c3)]) :: (a51, .int, "[I", [(.int r0), (.int r1), (.int r2), (.int r3)]) :: (a3, .double, "[D", [(.double (FP.i2d z0)), (.double (FP.i2d z1)), (.double (FP.i2d z2)), (.double (FP.i2d z3)), (.double (FP.i2d z4)), (.double (FP.i2d z5)), (.double (FP.i2d z6)), (.double (FP.i2d z7)), (.double (FP.i2d z8))]) :: []) := H105
    refine own_dup K own_d7_285 rfl ?_
    refine own_iconst K own_d7_286 (v := (4 : Int32)) rfl ?_
    refine own_ldc2D K own_d7_287 (own_w10 hw) ?_
    refine own_dastore K own_d7_290 H105 (i := 0) rfl (q := 4) (by decide) (own_le rfl) ?_
    intro h106 H107
    replace H107 : own_H Z h106 ([]) ((a97, .double, "[D", [(.double (4696837146684686336 : UInt64)), (.double (4696837146684686336 : UInt64)), (.double (4696837146684686336 : UInt64)), (.double (4696837146684686336 : UInt64)), (.double (4696837146684686336 : UInt64))]) :: (a74, .int, "[I", [(.int c0), (.int c1), (.int c2), (.int c3)]) :: (a51, .int, "[I", [(.int r0), (.int r1), (.int r2), (.int r3)]) :: (a3, .double, "[D", [(.double (FP.i2d z0)), (.double (FP.i2d z1)), (.double (FP.i2d z2)), (.double (FP.i2d z3)), (.double (FP.i2d z4)), (.double (FP.i2d z5)), (.double (FP.i2d z6)), (.double (FP.i2d z7)), (.double (FP.i2d z8))]) :: []) := H107
    refine own_astore K own_d7_291 rfl (Ls' := #[.val (.int sh), .val (.int ki), .val (.int rp), .val (.int cp), .val (.int cp2), .val (.long sd), .second, .val (.int nr), .val (.int nc), .val (.int (0 : Int32)), .val (.int cn), .val (.int nc), .val (.int (1 : Int32)), .val (.ref a3), .val (.ref a51), .val (.ref a74), .val (.ref a97)]) rfl ?_
    refine own_new K own_d7_293 (own_w11 hw) (own_w12 hw) (own_w13 hw) H107 (own_OP_F hw) (own_OP_P hw) (by decide) (by decide) ?_
    intro h108 a110 H109
    replace H109 : own_H Z h108 (own_OP a110 .null (.int (0 : Int32)) (.int (0 : Int32)) :: []) ((a97, .double, "[D", [(.double (4696837146684686336 : UInt64)), (.double (4696837146684686336 : UInt64)), (.double (4696837146684686336 : UInt64)), (.double (4696837146684686336 : UInt64)), (.double (4696837146684686336 : UInt64))]) :: (a74, .int, "[I", [(.int c0), (.int c1), (.int c2), (.int c3)]) :: (a51, .int, "[I", [(.int r0), (.int r1), (.int r2), (.int r3)]) :: (a3, .double, "[D", [(.double (FP.i2d z0)), (.double (FP.i2d z1)), (.double (FP.i2d z2)), (.double (FP.i2d z3)), (.double (FP.i2d z4)), (.double (FP.i2d z5)), (.double (FP.i2d z6)), (.double (FP.i2d z7)), (.double (FP.i2d z8))]) :: []) := H109
    refine own_dup K own_d7_296 rfl ?_
    refine own_aload K own_d7_297 rfl rfl ?_
    refine own_iload K own_d7_299 rfl ?_
    refine own_iload K own_d7_301 rfl ?_
    refine own_special K own_d7_303 rfl (own_w14 hw) (own_w15 hw) (own_w13 hw) (own_w16 hw) (a := a110) (argsL := [(.ref a3), (.int nc), (.int (1 : Int32))]) (rest := [(.ref a110)]) (own_init hw H109) own_pd3 rfl rfl rfl (by decide) (W := 1) (Nat.le_of_eq rfl) (by decide) (by decide) (by decide) (by decide) ?_
    intro v113 h111 q112
    obtain ⟨rfl, H114⟩ := q112
    replace H114 : own_H Z h111 (own_OP a110 (.ref a3) (.int nc) (.int (1 : Int32)) :: []) ((a97, .double, "[D", [(.double (4696837146684686336 : UInt64)), (.double (4696837146684686336 : UInt64)), (.double (4696837146684686336 : UInt64)), (.double (4696837146684686336 : UInt64)), (.double (4696837146684686336 : UInt64))]) :: (a74, .int, "[I", [(.int c0), (.int c1), (.int c2), (.int c3)]) :: (a51, .int, "[I", [(.int r0), (.int r1), (.int r2), (.int r3)]) :: (a3, .double, "[D", [(.double (FP.i2d z0)), (.double (FP.i2d z1)), (.double (FP.i2d z2)), (.double (FP.i2d z3)), (.double (FP.i2d z4)), (.double (FP.i2d z5)), (.double (FP.i2d z6)), (.double (FP.i2d z7)), (.double (FP.i2d z8))]) :: []) := H114
    refine own_aload K own_d7_306 rfl rfl ?_
    refine own_aload K own_d7_308 rfl rfl ?_
    refine own_iload K own_d7_310 rfl ?_
    refine own_aload K own_d7_312 rfl rfl ?_
    obtain ⟨vs, evs⟩ : ∃ z : List Value, z = [(.double (FP.i2d z0)), (.double (FP.i2d z1)), (.double (FP.i2d z2)), (.double (FP.i2d z3)), (.double (FP.i2d z4)), (.double (FP.i2d z5)), (.double (FP.i2d z6)), (.double (FP.i2d z7)), (.double (FP.i2d z8))] := ⟨_, rfl⟩
    have hvl : vs.length = 9 := by rw [evs]; rfl
    have hall : ∀ q : Nat, q < 9 → ∃ d : UInt64, vs[q]? = some (.double d) ∧ Fl.NoNaN64 d := by rw [evs]; exact own_nine
    obtain ⟨q0, hq0, hl0⟩ : ∃ q : Nat, (r0 * nc + c0 * (1 : Int32)).toInt = (q : Int) ∧ q < 9 := own_ix0 r0_0 r0_1 c0_0 c0_1 nr_0.2 nc_0
    obtain ⟨d0, hd0, hn0⟩ := hall q0 hl0
    obtain ⟨q1, hq1, hl1⟩ : ∃ q : Nat, (r1 * nc + c1 * (1 : Int32)).toInt = (q : Int) ∧ q < 9 := own_ix0 r1_0 r1_1 c1_0 c1_1 nr_0.2 nc_0
    obtain ⟨d1, hd1, hn1⟩ := hall q1 hl1
    obtain ⟨q2, hq2, hl2⟩ : ∃ q : Nat, (r2 * nc + c2 * (1 : Int32)).toInt = (q : Int) ∧ q < 9 := own_ix0 r2_0 r2_1 c2_0 c2_1 nr_0.2 nc_0
    obtain ⟨d2, hd2, hn2⟩ := hall q2 hl2
    obtain ⟨q3, hq3, hl3⟩ : ∃ q : Nat, (r3 * nc + c3 * (1 : Int32)).toInt = (q : Int) ∧ q < 9 := own_ix0 r3_0 r3_1 c3_0 c3_1 nr_0.2 nc_0
    obtain ⟨d3, hd3, hn3⟩ := hall q3 hl3
    have H115 := H114
    rw [← evs] at H115
    replace H115 : own_H Z h111 (own_OP a110 (.ref a3) (.int nc) (.int (1 : Int32)) :: []) ((a97, .double, "[D", [(.double (4696837146684686336 : UInt64)), (.double (4696837146684686336 : UInt64)), (.double (4696837146684686336 : UInt64)), (.double (4696837146684686336 : UInt64)), (.double (4696837146684686336 : UInt64))]) :: (a74, .int, "[I", [(.int c0), (.int c1), (.int c2), (.int c3)]) :: (a51, .int, "[I", [(.int r0), (.int r1), (.int r2), (.int r3)]) :: (a3, .double, "[D", vs) :: []) := H115
    have H116 := H115.frontA 3 rfl
    replace H116 : own_H Z h111 (own_OP a110 (.ref a3) (.int nc) (.int (1 : Int32)) :: []) ((a3, .double, "[D", vs) :: (a97, .double, "[D", [(.double (4696837146684686336 : UInt64)), (.double (4696837146684686336 : UInt64)), (.double (4696837146684686336 : UInt64)), (.double (4696837146684686336 : UInt64)), (.double (4696837146684686336 : UInt64))]) :: (a74, .int, "[I", [(.int c0), (.int c1), (.int c2), (.int c3)]) :: (a51, .int, "[I", [(.int r0), (.int r1), (.int r2), (.int r3)]) :: []) := H116
    have H117 := H116.frontA 1 rfl
    replace H117 : own_H Z h111 (own_OP a110 (.ref a3) (.int nc) (.int (1 : Int32)) :: []) ((a97, .double, "[D", [(.double (4696837146684686336 : UInt64)), (.double (4696837146684686336 : UInt64)), (.double (4696837146684686336 : UInt64)), (.double (4696837146684686336 : UInt64)), (.double (4696837146684686336 : UInt64))]) :: (a3, .double, "[D", vs) :: (a74, .int, "[I", [(.int c0), (.int c1), (.int c2), (.int c3)]) :: (a51, .int, "[I", [(.int r0), (.int r1), (.int r2), (.int r3)]) :: []) := H117
    have H118 := H117.frontA 2 rfl
    replace H118 : own_H Z h111 (own_OP a110 (.ref a3) (.int nc) (.int (1 : Int32)) :: []) ((a74, .int, "[I", [(.int c0), (.int c1), (.int c2), (.int c3)]) :: (a97, .double, "[D", [(.double (4696837146684686336 : UInt64)), (.double (4696837146684686336 : UInt64)), (.double (4696837146684686336 : UInt64)), (.double (4696837146684686336 : UInt64)), (.double (4696837146684686336 : UInt64))]) :: (a3, .double, "[D", vs) :: (a51, .int, "[I", [(.int r0), (.int r1), (.int r2), (.int r3)]) :: []) := H118
    have H119 := H118.frontA 3 rfl
    replace H119 : own_H Z h111 (own_OP a110 (.ref a3) (.int nc) (.int (1 : Int32)) :: []) ((a51, .int, "[I", [(.int r0), (.int r1), (.int r2), (.int r3)]) :: (a74, .int, "[I", [(.int c0), (.int c1), (.int c2), (.int c3)]) :: (a97, .double, "[D", [(.double (4696837146684686336 : UInt64)), (.double (4696837146684686336 : UInt64)), (.double (4696837146684686336 : UInt64)), (.double (4696837146684686336 : UInt64)), (.double (4696837146684686336 : UInt64))]) :: (a3, .double, "[D", vs) :: []) := H119
    refine own_virtual K own_d7_314 (own_w31 hw) (own_w32 hw) (own_w34 hw) (own_w33 hw) (own_w13 hw) (own_w35 hw) (H119.atO (i := 0) rfl) (a := a110) (argsL := [(.ref a51), (.ref a74), (.int cn), (.ref a97)]) (rest := []) (own_gather hw cn_0.1 cn_0.2 H119 hq0 hd0 hq1 hd1 hq2 hd2 hq3 hd3) own_pd4 rfl rfl rfl (by decide) (W := 0) (Nat.le_of_eq rfl) (by decide) (by decide) (by decide) (by decide) ?_
    intro v122 h120 q121
    obtain ⟨rfl, H123⟩ := q121
    replace H123 : own_H Z h120 (own_OP a110 (.ref a3) (.int nc) (.int (1 : Int32)) :: []) ((a51, .int, "[I", [(.int r0), (.int r1), (.int r2), (.int r3)]) :: (a74, .int, "[I", [(.int c0), (.int c1), (.int c2), (.int c3)]) :: (a97, .double, "[D", [(.double (if 0 < cn.toInt then d0 else (4696837146684686336 : UInt64))), (.double (if 1 < cn.toInt then d1 else (4696837146684686336 : UInt64))), (.double (if 2 < cn.toInt then d2 else (4696837146684686336 : UInt64))), (.double (if 3 < cn.toInt then d3 else (4696837146684686336 : UInt64))), (.double (4696837146684686336 : UInt64))]) :: (a3, .double, "[D", vs) :: []) := H123
    refine own_aload K own_d7_317 rfl rfl ?_
    refine own_iconst K own_d7_319 (v := (0 : Int32)) rfl ?_
    refine own_iload K own_d7_320 rfl ?_
    refine own_iload K own_d7_322 rfl ?_
    refine own_iload K own_d7_324 rfl ?_
    refine own_aload K own_d7_326 rfl rfl ?_
    refine own_aload K own_d7_328 rfl rfl ?_
    refine own_iconst K own_d7_330 (v := (0 : Int32)) rfl ?_
    refine own_iaload K own_d7_331 H123 (i := 0) rfl (q := 0) (by decide) (rfl) ?_
    refine own_aload K own_d7_332 rfl rfl ?_
    refine own_iconst K own_d7_334 (v := (0 : Int32)) rfl ?_
    refine own_iaload K own_d7_335 H123 (i := 1) rfl (q := 0) (by decide) (rfl) ?_
    have H124 := H123.frontA 3 rfl
    replace H124 : own_H Z h120 (own_OP a110 (.ref a3) (.int nc) (.int (1 : Int32)) :: []) ((a3, .double, "[D", vs) :: (a51, .int, "[I", [(.int r0), (.int r1), (.int r2), (.int r3)]) :: (a74, .int, "[I", [(.int c0), (.int c1), (.int c2), (.int c3)]) :: (a97, .double, "[D", [(.double (if 0 < cn.toInt then d0 else (4696837146684686336 : UInt64))), (.double (if 1 < cn.toInt then d1 else (4696837146684686336 : UInt64))), (.double (if 2 < cn.toInt then d2 else (4696837146684686336 : UInt64))), (.double (if 3 < cn.toInt then d3 else (4696837146684686336 : UInt64))), (.double (4696837146684686336 : UInt64))]) :: []) := H124
    refine own_static K own_d7_336 (own_w36 hw) (own_w37 hw) (own_w3 hw) (own_w38 hw) (argsL := [(.int (0 : Int32)), (.int nc), (.ref a3), (.int r0), (.int c0)]) (rest := [(.int cn), (.int (0 : Int32)), (.ref a97)]) (own_want0 hw H124 (q := q0) (by rw [← Int32.mul_one c0]; exact hq0) hd0) own_pd5 rfl rfl rfl (by decide) (W := 3) (Nat.le_of_eq rfl) (by decide) (by decide) (by decide) (by decide) ?_
    intro v127 h125 q126
    obtain ⟨rfl, rfl⟩ := q126
    have H128 := H124.frontA 3 rfl
    replace H128 : own_H Z h120 (own_OP a110 (.ref a3) (.int nc) (.int (1 : Int32)) :: []) ((a97, .double, "[D", [(.double (if 0 < cn.toInt then d0 else (4696837146684686336 : UInt64))), (.double (if 1 < cn.toInt then d1 else (4696837146684686336 : UInt64))), (.double (if 2 < cn.toInt then d2 else (4696837146684686336 : UInt64))), (.double (if 3 < cn.toInt then d3 else (4696837146684686336 : UInt64))), (.double (4696837146684686336 : UInt64))]) :: (a3, .double, "[D", vs) :: (a51, .int, "[I", [(.int r0), (.int r1), (.int r2), (.int r3)]) :: (a74, .int, "[I", [(.int c0), (.int c1), (.int c2), (.int c3)]) :: []) := H128
    refine own_static K own_d7_339 (own_w39 hw) (own_w40 hw) (own_w3 hw) (own_w41 hw) (argsL := [(.ref a97), (.int (0 : Int32)), (.int cn), (.double d0)]) (rest := []) (own_ok hw H128 (i := 0) rfl rfl (by rw [show (0 : Int32).toInt = 0 from rfl]) (by split <;> first | exact hn0 | decide)) own_pd6 rfl rfl rfl (by decide) (W := 0) (Nat.le_of_eq rfl) (by decide) (by decide) (by decide) (by decide) ?_
    intro v131 h129 q130
    obtain ⟨rfl, rfl⟩ := q130
    refine own_ifeq K own_d7_342 (fun q => absurd q (by decide)) (fun _ => ?_)
    refine own_aload K own_d7_345 rfl rfl ?_
    refine own_iconst K own_d7_347 (v := (1 : Int32)) rfl ?_
    refine own_iload K own_d7_348 rfl ?_
    refine own_iload K own_d7_350 rfl ?_
    refine own_iload K own_d7_352 rfl ?_
    refine own_aload K own_d7_354 rfl rfl ?_
    refine own_aload K own_d7_356 rfl rfl ?_
    refine own_iconst K own_d7_358 (v := (1 : Int32)) rfl ?_
    refine own_iaload K own_d7_359 H128 (i := 2) rfl (q := 1) (by decide) (rfl) ?_
    refine own_aload K own_d7_360 rfl rfl ?_
    refine own_iconst K own_d7_362 (v := (1 : Int32)) rfl ?_
    refine own_iaload K own_d7_363 H128 (i := 3) rfl (q := 1) (by decide) (rfl) ?_
    have H132 := H128.frontA 1 rfl
    replace H132 : own_H Z h120 (own_OP a110 (.ref a3) (.int nc) (.int (1 : Int32)) :: []) ((a3, .double, "[D", vs) :: (a97, .double, "[D", [(.double (if 0 < cn.toInt then d0 else (4696837146684686336 : UInt64))), (.double (if 1 < cn.toInt then d1 else (4696837146684686336 : UInt64))), (.double (if 2 < cn.toInt then d2 else (4696837146684686336 : UInt64))), (.double (if 3 < cn.toInt then d3 else (4696837146684686336 : UInt64))), (.double (4696837146684686336 : UInt64))]) :: (a51, .int, "[I", [(.int r0), (.int r1), (.int r2), (.int r3)]) :: (a74, .int, "[I", [(.int c0), (.int c1), (.int c2), (.int c3)]) :: []) := H132
    refine own_static K own_d7_364 (own_w36 hw) (own_w37 hw) (own_w3 hw) (own_w38 hw) (argsL := [(.int (0 : Int32)), (.int nc), (.ref a3), (.int r1), (.int c1)]) (rest := [(.int cn), (.int (1 : Int32)), (.ref a97)]) (own_want0 hw H132 (q := q1) (by rw [← Int32.mul_one c1]; exact hq1) hd1) own_pd5 rfl rfl rfl (by decide) (W := 3) (Nat.le_of_eq rfl) (by decide) (by decide) (by decide) (by decide) ?_
    intro v135 h133 q134
    obtain ⟨rfl, rfl⟩ := q134
    have H136 := H132.frontA 1 rfl
    replace H136 : own_H Z h120 (own_OP a110 (.ref a3) (.int nc) (.int (1 : Int32)) :: []) ((a97, .double, "[D", [(.double (if 0 < cn.toInt then d0 else (4696837146684686336 : UInt64))), (.double (if 1 < cn.toInt then d1 else (4696837146684686336 : UInt64))), (.double (if 2 < cn.toInt then d2 else (4696837146684686336 : UInt64))), (.double (if 3 < cn.toInt then d3 else (4696837146684686336 : UInt64))), (.double (4696837146684686336 : UInt64))]) :: (a3, .double, "[D", vs) :: (a51, .int, "[I", [(.int r0), (.int r1), (.int r2), (.int r3)]) :: (a74, .int, "[I", [(.int c0), (.int c1), (.int c2), (.int c3)]) :: []) := H136
    refine own_static K own_d7_367 (own_w39 hw) (own_w40 hw) (own_w3 hw) (own_w41 hw) (argsL := [(.ref a97), (.int (1 : Int32)), (.int cn), (.double d1)]) (rest := []) (own_ok hw H136 (i := 1) rfl rfl (by rw [show (1 : Int32).toInt = 1 from rfl]) (by split <;> first | exact hn1 | decide)) own_pd6 rfl rfl rfl (by decide) (W := 0) (Nat.le_of_eq rfl) (by decide) (by decide) (by decide) (by decide) ?_
    intro v139 h137 q138
    obtain ⟨rfl, rfl⟩ := q138
    refine own_ifeq K own_d7_370 (fun q => absurd q (by decide)) (fun _ => ?_)
    refine own_aload K own_d7_373 rfl rfl ?_
    refine own_iconst K own_d7_375 (v := (2 : Int32)) rfl ?_
    refine own_iload K own_d7_376 rfl ?_
    refine own_iload K own_d7_378 rfl ?_
    refine own_iload K own_d7_380 rfl ?_
    refine own_aload K own_d7_382 rfl rfl ?_
    refine own_aload K own_d7_384 rfl rfl ?_
    refine own_iconst K own_d7_386 (v := (2 : Int32)) rfl ?_
    refine own_iaload K own_d7_387 H136 (i := 2) rfl (q := 2) (by decide) (rfl) ?_
    refine own_aload K own_d7_388 rfl rfl ?_
    refine own_iconst K own_d7_390 (v := (2 : Int32)) rfl ?_
    refine own_iaload K own_d7_391 H136 (i := 3) rfl (q := 2) (by decide) (rfl) ?_
    have H140 := H136.frontA 1 rfl
    replace H140 : own_H Z h120 (own_OP a110 (.ref a3) (.int nc) (.int (1 : Int32)) :: []) ((a3, .double, "[D", vs) :: (a97, .double, "[D", [(.double (if 0 < cn.toInt then d0 else (4696837146684686336 : UInt64))), (.double (if 1 < cn.toInt then d1 else (4696837146684686336 : UInt64))), (.double (if 2 < cn.toInt then d2 else (4696837146684686336 : UInt64))), (.double (if 3 < cn.toInt then d3 else (4696837146684686336 : UInt64))), (.double (4696837146684686336 : UInt64))]) :: (a51, .int, "[I", [(.int r0), (.int r1), (.int r2), (.int r3)]) :: (a74, .int, "[I", [(.int c0), (.int c1), (.int c2), (.int c3)]) :: []) := H140
    refine own_static K own_d7_392 (own_w36 hw) (own_w37 hw) (own_w3 hw) (own_w38 hw) (argsL := [(.int (0 : Int32)), (.int nc), (.ref a3), (.int r2), (.int c2)]) (rest := [(.int cn), (.int (2 : Int32)), (.ref a97)]) (own_want0 hw H140 (q := q2) (by rw [← Int32.mul_one c2]; exact hq2) hd2) own_pd5 rfl rfl rfl (by decide) (W := 3) (Nat.le_of_eq rfl) (by decide) (by decide) (by decide) (by decide) ?_
    intro v143 h141 q142
    obtain ⟨rfl, rfl⟩ := q142
    have H144 := H140.frontA 1 rfl
    replace H144 : own_H Z h120 (own_OP a110 (.ref a3) (.int nc) (.int (1 : Int32)) :: []) ((a97, .double, "[D", [(.double (if 0 < cn.toInt then d0 else (4696837146684686336 : UInt64))), (.double (if 1 < cn.toInt then d1 else (4696837146684686336 : UInt64))), (.double (if 2 < cn.toInt then d2 else (4696837146684686336 : UInt64))), (.double (if 3 < cn.toInt then d3 else (4696837146684686336 : UInt64))), (.double (4696837146684686336 : UInt64))]) :: (a3, .double, "[D", vs) :: (a51, .int, "[I", [(.int r0), (.int r1), (.int r2), (.int r3)]) :: (a74, .int, "[I", [(.int c0), (.int c1), (.int c2), (.int c3)]) :: []) := H144
    refine own_static K own_d7_395 (own_w39 hw) (own_w40 hw) (own_w3 hw) (own_w41 hw) (argsL := [(.ref a97), (.int (2 : Int32)), (.int cn), (.double d2)]) (rest := []) (own_ok hw H144 (i := 2) rfl rfl (by rw [show (2 : Int32).toInt = 2 from rfl]) (by split <;> first | exact hn2 | decide)) own_pd6 rfl rfl rfl (by decide) (W := 0) (Nat.le_of_eq rfl) (by decide) (by decide) (by decide) (by decide) ?_
    intro v147 h145 q146
    obtain ⟨rfl, rfl⟩ := q146
    refine own_ifeq K own_d7_398 (fun q => absurd q (by decide)) (fun _ => ?_)
    refine own_aload K own_d7_401 rfl rfl ?_
    refine own_iconst K own_d7_403 (v := (3 : Int32)) rfl ?_
    refine own_iload K own_d7_404 rfl ?_
    refine own_iload K own_d7_406 rfl ?_
    refine own_iload K own_d7_408 rfl ?_
    refine own_aload K own_d7_410 rfl rfl ?_
    refine own_aload K own_d7_412 rfl rfl ?_
    refine own_iconst K own_d7_414 (v := (3 : Int32)) rfl ?_
    refine own_iaload K own_d7_415 H144 (i := 2) rfl (q := 3) (by decide) (rfl) ?_
    refine own_aload K own_d7_416 rfl rfl ?_
    refine own_iconst K own_d7_418 (v := (3 : Int32)) rfl ?_
    refine own_iaload K own_d7_419 H144 (i := 3) rfl (q := 3) (by decide) (rfl) ?_
    have H148 := H144.frontA 1 rfl
    replace H148 : own_H Z h120 (own_OP a110 (.ref a3) (.int nc) (.int (1 : Int32)) :: []) ((a3, .double, "[D", vs) :: (a97, .double, "[D", [(.double (if 0 < cn.toInt then d0 else (4696837146684686336 : UInt64))), (.double (if 1 < cn.toInt then d1 else (4696837146684686336 : UInt64))), (.double (if 2 < cn.toInt then d2 else (4696837146684686336 : UInt64))), (.double (if 3 < cn.toInt then d3 else (4696837146684686336 : UInt64))), (.double (4696837146684686336 : UInt64))]) :: (a51, .int, "[I", [(.int r0), (.int r1), (.int r2), (.int r3)]) :: (a74, .int, "[I", [(.int c0), (.int c1), (.int c2), (.int c3)]) :: []) := H148
    refine own_static K own_d7_420 (own_w36 hw) (own_w37 hw) (own_w3 hw) (own_w38 hw) (argsL := [(.int (0 : Int32)), (.int nc), (.ref a3), (.int r3), (.int c3)]) (rest := [(.int cn), (.int (3 : Int32)), (.ref a97)]) (own_want0 hw H148 (q := q3) (by rw [← Int32.mul_one c3]; exact hq3) hd3) own_pd5 rfl rfl rfl (by decide) (W := 3) (Nat.le_of_eq rfl) (by decide) (by decide) (by decide) (by decide) ?_
    intro v151 h149 q150
    obtain ⟨rfl, rfl⟩ := q150
    have H152 := H148.frontA 1 rfl
    replace H152 : own_H Z h120 (own_OP a110 (.ref a3) (.int nc) (.int (1 : Int32)) :: []) ((a97, .double, "[D", [(.double (if 0 < cn.toInt then d0 else (4696837146684686336 : UInt64))), (.double (if 1 < cn.toInt then d1 else (4696837146684686336 : UInt64))), (.double (if 2 < cn.toInt then d2 else (4696837146684686336 : UInt64))), (.double (if 3 < cn.toInt then d3 else (4696837146684686336 : UInt64))), (.double (4696837146684686336 : UInt64))]) :: (a3, .double, "[D", vs) :: (a51, .int, "[I", [(.int r0), (.int r1), (.int r2), (.int r3)]) :: (a74, .int, "[I", [(.int c0), (.int c1), (.int c2), (.int c3)]) :: []) := H152
    refine own_static K own_d7_423 (own_w39 hw) (own_w40 hw) (own_w3 hw) (own_w41 hw) (argsL := [(.ref a97), (.int (3 : Int32)), (.int cn), (.double d3)]) (rest := []) (own_ok hw H152 (i := 3) rfl rfl (by rw [show (3 : Int32).toInt = 3 from rfl]) (by split <;> first | exact hn3 | decide)) own_pd6 rfl rfl rfl (by decide) (W := 0) (Nat.le_of_eq rfl) (by decide) (by decide) (by decide) (by decide) ?_
    intro v155 h153 q154
    obtain ⟨rfl, rfl⟩ := q154
    refine own_ifeq K own_d7_426 (fun q => absurd q (by decide)) (fun _ => ?_)
    refine own_aload K own_d7_429 rfl rfl ?_
    refine own_iconst K own_d7_431 (v := (4 : Int32)) rfl ?_
    refine own_daload K own_d7_432 H152 (i := 0) rfl (q := 4) (by decide) (rfl) ?_
    refine own_ldc2D K own_d7_433 (own_w10 hw) ?_
    refine own_dcmp K own_d7_436 ?_
    refine own_topI (x' := (0 : Int32)) (by decide +kernel) ?_
    refine own_ifne K own_d7_437 (fun q => absurd q (by decide)) (fun _ => ?_)
    refine own_iconst K own_d7_440 (v := (1 : Int32)) rfl ?_
    refine own_goto K own_d7_441 ?_
    exact own_retZ K (by first | exact Or.inl rfl | exact Or.inr rfl | decide) own_d7_445 (by decide) (by decide) (rfl)
  · refine own_iloadN K own_d7_0 rfl ?_
    refine own_iconst K own_d7_1 (v := (3 : Int32)) rfl ?_
    refine own_iand K own_d7_2 ?_
    refine own_iconst K own_d7_3 (v := (3 : Int32)) rfl ?_
    refine own_irem K own_d7_4 (by decide) ?_
    refine own_iconst K own_d7_5 (v := (1 : Int32)) rfl ?_
    refine own_iadd K own_d7_6 ?_
    obtain ⟨nr, e_nr⟩ : ∃ z, z = (((sh &&& (3 : Int32)) % (3 : Int32)) + (1 : Int32)) := ⟨_, rfl⟩
    have nr_0 : 1 ≤ nr.toInt ∧ nr.toInt ≤ 3 := by rw [e_nr]; exact own_dim _
    refine own_topI (x' := nr) (e_nr.symm) ?_
    refine own_istore K own_d7_7 (Ls' := #[.val (.int sh), .val (.int ki), .val (.int rp), .val (.int cp), .val (.int cp2), .val (.long sd), .second, .val (.int nr), .unset, .unset, .unset, .unset, .unset, .unset, .unset, .unset, .unset]) rfl ?_
    refine own_iloadN K own_d7_9 rfl ?_
    refine own_iconst K own_d7_10 (v := (2 : Int32)) rfl ?_
    refine own_iushr K own_d7_11 ?_
    refine own_iconst K own_d7_12 (v := (3 : Int32)) rfl ?_
    refine own_iand K own_d7_13 ?_
    refine own_iconst K own_d7_14 (v := (3 : Int32)) rfl ?_
    refine own_irem K own_d7_15 (by decide) ?_
    refine own_iconst K own_d7_16 (v := (1 : Int32)) rfl ?_
    refine own_iadd K own_d7_17 ?_
    obtain ⟨nc, e_nc⟩ : ∃ z, z = ((((XT.ushr sh (2 : Int32)) &&& (3 : Int32)) % (3 : Int32)) + (1 : Int32)) := ⟨_, rfl⟩
    have nc_0 : 1 ≤ nc.toInt ∧ nc.toInt ≤ 3 := by rw [e_nc]; exact own_dim _
    refine own_topI (x' := nc) (e_nc.symm) ?_
    refine own_istore K own_d7_18 (Ls' := #[.val (.int sh), .val (.int ki), .val (.int rp), .val (.int cp), .val (.int cp2), .val (.long sd), .second, .val (.int nr), .val (.int nc), .unset, .unset, .unset, .unset, .unset, .unset, .unset, .unset]) rfl ?_
    refine own_iloadN K own_d7_20 rfl ?_
    refine own_iconst K own_d7_21 (v := (3 : Int32)) rfl ?_
    refine own_iand K own_d7_22 ?_
    refine own_topI (x' := (1 : Int32)) (q) ?_
    refine own_istore K own_d7_23 (Ls' := #[.val (.int sh), .val (.int ki), .val (.int rp), .val (.int cp), .val (.int cp2), .val (.long sd), .second, .val (.int nr), .val (.int nc), .val (.int (1 : Int32)), .unset, .unset, .unset, .unset, .unset, .unset, .unset]) rfl ?_
    refine own_iload K own_d7_25 rfl ?_
    refine own_bipush K own_d7_27 (v := (7 : Int32)) rfl ?_
    refine own_iand K own_d7_29 ?_
    refine own_iconst K own_d7_30 (v := (5 : Int32)) rfl ?_
    refine own_irem K own_d7_31 (by decide) ?_
    obtain ⟨cn, e_cn⟩ : ∃ z, z = ((cp2 &&& (7 : Int32)) % (5 : Int32)) := ⟨_, rfl⟩
    have cn_0 : 0 ≤ cn.toInt ∧ cn.toInt ≤ 4 := by rw [e_cn]; exact own_cnt _
    refine own_topI (x' := cn) (e_cn.symm) ?_
    refine own_istore K own_d7_32 (Ls' := #[.val (.int sh), .val (.int ki), .val (.int rp), .val (.int cp), .val (.int cp2), .val (.long sd), .second, .val (.int nr), .val (.int nc), .val (.int (1 : Int32)), .val (.int cn), .unset, .unset, .unset, .unset, .unset, .unset]) rfl ?_
    refine own_iload K own_d7_34 rfl ?_
    refine own_ifne K own_d7_36 (fun _ => ?_) (fun q => absurd (by decide) q)
    refine own_iload K own_d7_44 rfl ?_
    refine own_iconst K own_d7_46 (v := (2 : Int32)) rfl ?_
    refine own_icmpne K own_d7_47 (fun _ => ?_) (fun q => absurd (by decide) q)
    refine own_iconst K own_d7_54 (v := (0 : Int32)) rfl ?_
    refine own_istore K own_d7_55 (Ls' := #[.val (.int sh), .val (.int ki), .val (.int rp), .val (.int cp), .val (.int cp2), .val (.long sd), .second, .val (.int nr), .val (.int nc), .val (.int (1 : Int32)), .val (.int cn), .val (.int (0 : Int32)), .unset, .unset, .unset, .unset, .unset]) rfl ?_
    refine own_iload K own_d7_57 rfl ?_
    refine own_ifeq K own_d7_59 (fun q => absurd q (by decide)) (fun _ => ?_)
    refine own_iload K own_d7_62 rfl ?_
    refine own_iconst K own_d7_64 (v := (1 : Int32)) rfl ?_
    refine own_icmpne K own_d7_65 (fun q => absurd q (by decide)) (fun _ => ?_)
    refine own_iconst K own_d7_68 (v := (1 : Int32)) rfl ?_
    refine own_goto K own_d7_69 ?_
    refine own_istore K own_d7_73 (Ls' := #[.val (.int sh), .val (.int ki), .val (.int rp), .val (.int cp), .val (.int cp2), .val (.long sd), .second, .val (.int nr), .val (.int nc), .val (.int (1 : Int32)), .val (.int cn), .val (.int (0 : Int32)), .val (.int (1 : Int32)), .unset, .unset, .unset, .unset]) rfl ?_
    refine own_bipush K own_d7_75 (v := (9 : Int32)) rfl ?_
    refine own_newarray K own_d7_77 (ty := .double) rfl (own_w0 hw) H (q := 9) (by decide) (ad := "[D") (by decide +kernel) (vs := [(.double (0 : UInt64)), (.double (0 : UInt64)), (.double (0 : UInt64)), (.double (0 : UInt64)), (.double (0 : UInt64)), (.double (0 : UInt64)), (.double (0 : UInt64)), (.double (0 : UInt64)), (.double (0 : UInt64))]) rfl (by decide) (by decide) (by decide) ?_
    intro h1 a3 H2
    replace H2 : own_H Z h1 ([]) ((a3, .double, "[D", [(.double (0 : UInt64)), (.double (0 : UInt64)), (.double (0 : UInt64)), (.double (0 : UInt64)), (.double (0 : UInt64)), (.double (0 : UInt64)), (.double (0 : UInt64)), (.double (0 : UInt64)), (.double (0 : UInt64))]) :: []) := H2
    refine own_dup K own_d7_79 rfl ?_
    refine own_iconst K own_d7_80 (v := (0 : Int32)) rfl ?_
    refine own_lload K own_d7_81 rfl ?_
    refine own_iconst K own_d7_83 (v := (0 : Int32)) rfl ?_
    refine own_static K own_d7_84 (own_w1 hw) (own_w2 hw) (own_w3 hw) (own_w4 hw) (argsL := [(.long sd), (.int (0 : Int32))]) (rest := [(.int (0 : Int32)), (.ref a3), (.ref a3)]) (own_v hw) own_pd1 rfl rfl rfl (by decide) (W := 3) (Nat.le_of_eq rfl) (by decide) (by decide) (by decide) (by decide) ?_
    intro v6 h4 q5
    obtain ⟨⟨z0, rfl⟩, rfl⟩ := q5
    refine own_dastore K own_d7_87 H2 (i := 0) rfl (q := 0) (by decide) (own_le rfl) ?_
    intro h7 H8
    replace H8 : own_H Z h7 ([]) ((a3, .double, "[D", [(.double (FP.i2d z0)), (.double (0 : UInt64)), (.double (0 : UInt64)), (.double (0 : UInt64)), (.double (0 : UInt64)), (.double (0 : UInt64)), (.double (0 : UInt64)), (.double (0 : UInt64)), (.double (0 : UInt64))]) :: []) := H8
    refine own_dup K own_d7_88 rfl ?_
    refine own_iconst K own_d7_89 (v := (1 : Int32)) rfl ?_
    refine own_lload K own_d7_90 rfl ?_
    refine own_iconst K own_d7_92 (v := (1 : Int32)) rfl ?_
    refine own_static K own_d7_93 (own_w1 hw) (own_w2 hw) (own_w3 hw) (own_w4 hw) (argsL := [(.long sd), (.int (1 : Int32))]) (rest := [(.int (1 : Int32)), (.ref a3), (.ref a3)]) (own_v hw) own_pd1 rfl rfl rfl (by decide) (W := 3) (Nat.le_of_eq rfl) (by decide) (by decide) (by decide) (by decide) ?_
    intro v11 h9 q10
    obtain ⟨⟨z1, rfl⟩, rfl⟩ := q10
    refine own_dastore K own_d7_96 H8 (i := 0) rfl (q := 1) (by decide) (own_le rfl) ?_
    intro h12 H13
    replace H13 : own_H Z h12 ([]) ((a3, .double, "[D", [(.double (FP.i2d z0)), (.double (FP.i2d z1)), (.double (0 : UInt64)), (.double (0 : UInt64)), (.double (0 : UInt64)), (.double (0 : UInt64)), (.double (0 : UInt64)), (.double (0 : UInt64)), (.double (0 : UInt64))]) :: []) := H13
    refine own_dup K own_d7_97 rfl ?_
    refine own_iconst K own_d7_98 (v := (2 : Int32)) rfl ?_
    refine own_lload K own_d7_99 rfl ?_
    refine own_iconst K own_d7_101 (v := (2 : Int32)) rfl ?_
    refine own_static K own_d7_102 (own_w1 hw) (own_w2 hw) (own_w3 hw) (own_w4 hw) (argsL := [(.long sd), (.int (2 : Int32))]) (rest := [(.int (2 : Int32)), (.ref a3), (.ref a3)]) (own_v hw) own_pd1 rfl rfl rfl (by decide) (W := 3) (Nat.le_of_eq rfl) (by decide) (by decide) (by decide) (by decide) ?_
    intro v16 h14 q15
    obtain ⟨⟨z2, rfl⟩, rfl⟩ := q15
    refine own_dastore K own_d7_105 H13 (i := 0) rfl (q := 2) (by decide) (own_le rfl) ?_
    intro h17 H18
    replace H18 : own_H Z h17 ([]) ((a3, .double, "[D", [(.double (FP.i2d z0)), (.double (FP.i2d z1)), (.double (FP.i2d z2)), (.double (0 : UInt64)), (.double (0 : UInt64)), (.double (0 : UInt64)), (.double (0 : UInt64)), (.double (0 : UInt64)), (.double (0 : UInt64))]) :: []) := H18
    refine own_dup K own_d7_106 rfl ?_
    refine own_iconst K own_d7_107 (v := (3 : Int32)) rfl ?_
    refine own_lload K own_d7_108 rfl ?_
    refine own_iconst K own_d7_110 (v := (3 : Int32)) rfl ?_
    refine own_static K own_d7_111 (own_w1 hw) (own_w2 hw) (own_w3 hw) (own_w4 hw) (argsL := [(.long sd), (.int (3 : Int32))]) (rest := [(.int (3 : Int32)), (.ref a3), (.ref a3)]) (own_v hw) own_pd1 rfl rfl rfl (by decide) (W := 3) (Nat.le_of_eq rfl) (by decide) (by decide) (by decide) (by decide) ?_
    intro v21 h19 q20
    obtain ⟨⟨z3, rfl⟩, rfl⟩ := q20
    refine own_dastore K own_d7_114 H18 (i := 0) rfl (q := 3) (by decide) (own_le rfl) ?_
    intro h22 H23
    replace H23 : own_H Z h22 ([]) ((a3, .double, "[D", [(.double (FP.i2d z0)), (.double (FP.i2d z1)), (.double (FP.i2d z2)), (.double (FP.i2d z3)), (.double (0 : UInt64)), (.double (0 : UInt64)), (.double (0 : UInt64)), (.double (0 : UInt64)), (.double (0 : UInt64))]) :: []) := H23
    refine own_dup K own_d7_115 rfl ?_
    refine own_iconst K own_d7_116 (v := (4 : Int32)) rfl ?_
    refine own_lload K own_d7_117 rfl ?_
    refine own_iconst K own_d7_119 (v := (4 : Int32)) rfl ?_
    refine own_static K own_d7_120 (own_w1 hw) (own_w2 hw) (own_w3 hw) (own_w4 hw) (argsL := [(.long sd), (.int (4 : Int32))]) (rest := [(.int (4 : Int32)), (.ref a3), (.ref a3)]) (own_v hw) own_pd1 rfl rfl rfl (by decide) (W := 3) (Nat.le_of_eq rfl) (by decide) (by decide) (by decide) (by decide) ?_
    intro v26 h24 q25
    obtain ⟨⟨z4, rfl⟩, rfl⟩ := q25
    refine own_dastore K own_d7_123 H23 (i := 0) rfl (q := 4) (by decide) (own_le rfl) ?_
    intro h27 H28
    replace H28 : own_H Z h27 ([]) ((a3, .double, "[D", [(.double (FP.i2d z0)), (.double (FP.i2d z1)), (.double (FP.i2d z2)), (.double (FP.i2d z3)), (.double (FP.i2d z4)), (.double (0 : UInt64)), (.double (0 : UInt64)), (.double (0 : UInt64)), (.double (0 : UInt64))]) :: []) := H28
    refine own_dup K own_d7_124 rfl ?_
    refine own_iconst K own_d7_125 (v := (5 : Int32)) rfl ?_
    refine own_lload K own_d7_126 rfl ?_
    refine own_iconst K own_d7_128 (v := (5 : Int32)) rfl ?_
    refine own_static K own_d7_129 (own_w1 hw) (own_w2 hw) (own_w3 hw) (own_w4 hw) (argsL := [(.long sd), (.int (5 : Int32))]) (rest := [(.int (5 : Int32)), (.ref a3), (.ref a3)]) (own_v hw) own_pd1 rfl rfl rfl (by decide) (W := 3) (Nat.le_of_eq rfl) (by decide) (by decide) (by decide) (by decide) ?_
    intro v31 h29 q30
    obtain ⟨⟨z5, rfl⟩, rfl⟩ := q30
    refine own_dastore K own_d7_132 H28 (i := 0) rfl (q := 5) (by decide) (own_le rfl) ?_
    intro h32 H33
    replace H33 : own_H Z h32 ([]) ((a3, .double, "[D", [(.double (FP.i2d z0)), (.double (FP.i2d z1)), (.double (FP.i2d z2)), (.double (FP.i2d z3)), (.double (FP.i2d z4)), (.double (FP.i2d z5)), (.double (0 : UInt64)), (.double (0 : UInt64)), (.double (0 : UInt64))]) :: []) := H33
    refine own_dup K own_d7_133 rfl ?_
    refine own_bipush K own_d7_134 (v := (6 : Int32)) rfl ?_
    refine own_lload K own_d7_136 rfl ?_
    refine own_bipush K own_d7_138 (v := (6 : Int32)) rfl ?_
    refine own_static K own_d7_140 (own_w1 hw) (own_w2 hw) (own_w3 hw) (own_w4 hw) (argsL := [(.long sd), (.int (6 : Int32))]) (rest := [(.int (6 : Int32)), (.ref a3), (.ref a3)]) (own_v hw) own_pd1 rfl rfl rfl (by decide) (W := 3) (Nat.le_of_eq rfl) (by decide) (by decide) (by decide) (by decide) ?_
    intro v36 h34 q35
    obtain ⟨⟨z6, rfl⟩, rfl⟩ := q35
    refine own_dastore K own_d7_143 H33 (i := 0) rfl (q := 6) (by decide) (own_le rfl) ?_
    intro h37 H38
    replace H38 : own_H Z h37 ([]) ((a3, .double, "[D", [(.double (FP.i2d z0)), (.double (FP.i2d z1)), (.double (FP.i2d z2)), (.double (FP.i2d z3)), (.double (FP.i2d z4)), (.double (FP.i2d z5)), (.double (FP.i2d z6)), (.double (0 : UInt64)), (.double (0 : UInt64))]) :: []) := H38
    refine own_dup K own_d7_144 rfl ?_
    refine own_bipush K own_d7_145 (v := (7 : Int32)) rfl ?_
    refine own_lload K own_d7_147 rfl ?_
    refine own_bipush K own_d7_149 (v := (7 : Int32)) rfl ?_
    refine own_static K own_d7_151 (own_w1 hw) (own_w2 hw) (own_w3 hw) (own_w4 hw) (argsL := [(.long sd), (.int (7 : Int32))]) (rest := [(.int (7 : Int32)), (.ref a3), (.ref a3)]) (own_v hw) own_pd1 rfl rfl rfl (by decide) (W := 3) (Nat.le_of_eq rfl) (by decide) (by decide) (by decide) (by decide) ?_
    intro v41 h39 q40
    obtain ⟨⟨z7, rfl⟩, rfl⟩ := q40
    refine own_dastore K own_d7_154 H38 (i := 0) rfl (q := 7) (by decide) (own_le rfl) ?_
    intro h42 H43
    replace H43 : own_H Z h42 ([]) ((a3, .double, "[D", [(.double (FP.i2d z0)), (.double (FP.i2d z1)), (.double (FP.i2d z2)), (.double (FP.i2d z3)), (.double (FP.i2d z4)), (.double (FP.i2d z5)), (.double (FP.i2d z6)), (.double (FP.i2d z7)), (.double (0 : UInt64))]) :: []) := H43
    refine own_dup K own_d7_155 rfl ?_
    refine own_bipush K own_d7_156 (v := (8 : Int32)) rfl ?_
    refine own_lload K own_d7_158 rfl ?_
    refine own_bipush K own_d7_160 (v := (8 : Int32)) rfl ?_
    refine own_static K own_d7_162 (own_w1 hw) (own_w2 hw) (own_w3 hw) (own_w4 hw) (argsL := [(.long sd), (.int (8 : Int32))]) (rest := [(.int (8 : Int32)), (.ref a3), (.ref a3)]) (own_v hw) own_pd1 rfl rfl rfl (by decide) (W := 3) (Nat.le_of_eq rfl) (by decide) (by decide) (by decide) (by decide) ?_
    intro v46 h44 q45
    obtain ⟨⟨z8, rfl⟩, rfl⟩ := q45
    refine own_dastore K own_d7_165 H43 (i := 0) rfl (q := 8) (by decide) (own_le rfl) ?_
    intro h47 H48
    replace H48 : own_H Z h47 ([]) ((a3, .double, "[D", [(.double (FP.i2d z0)), (.double (FP.i2d z1)), (.double (FP.i2d z2)), (.double (FP.i2d z3)), (.double (FP.i2d z4)), (.double (FP.i2d z5)), (.double (FP.i2d z6)), (.double (FP.i2d z7)), (.double (FP.i2d z8))]) :: []) := H48
    refine own_astore K own_d7_166 rfl (Ls' := #[.val (.int sh), .val (.int ki), .val (.int rp), .val (.int cp), .val (.int cp2), .val (.long sd), .second, .val (.int nr), .val (.int nc), .val (.int (1 : Int32)), .val (.int cn), .val (.int (0 : Int32)), .val (.int (1 : Int32)), .val (.ref a3), .unset, .unset, .unset]) rfl ?_
    refine own_iconst K own_d7_168 (v := (4 : Int32)) rfl ?_
    refine own_newarray K own_d7_169 (ty := .int) rfl (own_w6 hw) H48 (q := 4) (by decide) (ad := "[I") (by decide +kernel) (vs := [(.int (0 : Int32)), (.int (0 : Int32)), (.int (0 : Int32)), (.int (0 : Int32))]) rfl (by decide) (by decide) (by decide) ?_
    intro h49 a51 H50
    replace H50 : own_H Z h49 ([]) ((a51, .int, "[I", [(.int (0 : Int32)), (.int (0 : Int32)), (.int (0 : Int32)), (.int (0 : Int32))]) :: (a3, .double, "[D", [(.double (FP.i2d z0)), (.double (FP.i2d z1)), (.double (FP.i2d z2)), (.double (FP.i2d z3)), (.double (FP.i2d z4)), (.double (FP.i2d z5)), (.double (FP.i2d z6)), (.double (FP.i2d z7)), (.double (FP.i2d z8))]) :: []) := H50
    refine own_dup K own_d7_171 rfl ?_
    refine own_iconst K own_d7_172 (v := (0 : Int32)) rfl ?_
    refine own_iloadN K own_d7_173 rfl ?_
    refine own_iconst K own_d7_174 (v := (0 : Int32)) rfl ?_
    refine own_iload K own_d7_175 rfl ?_
    refine own_static K own_d7_177 (own_w7 hw) (own_w8 hw) (own_w3 hw) (own_w9 hw) (argsL := [(.int rp), (.int (0 : Int32)), (.int nr)]) (rest := [(.int (0 : Int32)), (.ref a51), (.ref a51)]) (own_pick hw (by omega)) own_pd2 rfl rfl rfl (by decide) (W := 3) (Nat.le_of_eq rfl) (by decide) (by decide) (by decide) (by decide) ?_
    intro v54 h52 q53
    obtain ⟨⟨r0, rfl, r0_0, r0_1⟩, rfl⟩ := q53
    refine own_iastore K own_d7_180 H50 (i := 0) rfl (q := 0) (by decide) (own_le rfl) ?_
    intro h55 H56
    replace H56 : own_H Z h55 ([]) ((a51, .int, "[I", [(.int r0), (.int (0 : Int32)), (.int (0 : Int32)), (.int (0 : Int32))]) :: (a3, .double, "[D", [(.double (FP.i2d z0)), (.double (FP.i2d z1)), (.double (FP.i2d z2)), (.double (FP.i2d z3)), (.double (FP.i2d z4)), (.double (FP.i2d z5)), (.double (FP.i2d z6)), (.double (FP.i2d z7)), (.double (FP.i2d z8))]) :: []) := H56
    refine own_dup K own_d7_181 rfl ?_
    refine own_iconst K own_d7_182 (v := (1 : Int32)) rfl ?_
    refine own_iloadN K own_d7_183 rfl ?_
    refine own_iconst K own_d7_184 (v := (1 : Int32)) rfl ?_
    refine own_iload K own_d7_185 rfl ?_
    refine own_static K own_d7_187 (own_w7 hw) (own_w8 hw) (own_w3 hw) (own_w9 hw) (argsL := [(.int rp), (.int (1 : Int32)), (.int nr)]) (rest := [(.int (1 : Int32)), (.ref a51), (.ref a51)]) (own_pick hw (by omega)) own_pd2 rfl rfl rfl (by decide) (W := 3) (Nat.le_of_eq rfl) (by decide) (by decide) (by decide) (by decide) ?_
    intro v59 h57 q58
    obtain ⟨⟨r1, rfl, r1_0, r1_1⟩, rfl⟩ := q58
    refine own_iastore K own_d7_190 H56 (i := 0) rfl (q := 1) (by decide) (own_le rfl) ?_
    intro h60 H61
    replace H61 : own_H Z h60 ([]) ((a51, .int, "[I", [(.int r0), (.int r1), (.int (0 : Int32)), (.int (0 : Int32))]) :: (a3, .double, "[D", [(.double (FP.i2d z0)), (.double (FP.i2d z1)), (.double (FP.i2d z2)), (.double (FP.i2d z3)), (.double (FP.i2d z4)), (.double (FP.i2d z5)), (.double (FP.i2d z6)), (.double (FP.i2d z7)), (.double (FP.i2d z8))]) :: []) := H61
    refine own_dup K own_d7_191 rfl ?_
    refine own_iconst K own_d7_192 (v := (2 : Int32)) rfl ?_
    refine own_iloadN K own_d7_193 rfl ?_
    refine own_iconst K own_d7_194 (v := (2 : Int32)) rfl ?_
    refine own_iload K own_d7_195 rfl ?_
    refine own_static K own_d7_197 (own_w7 hw) (own_w8 hw) (own_w3 hw) (own_w9 hw) (argsL := [(.int rp), (.int (2 : Int32)), (.int nr)]) (rest := [(.int (2 : Int32)), (.ref a51), (.ref a51)]) (own_pick hw (by omega)) own_pd2 rfl rfl rfl (by decide) (W := 3) (Nat.le_of_eq rfl) (by decide) (by decide) (by decide) (by decide) ?_
    intro v64 h62 q63
    obtain ⟨⟨r2, rfl, r2_0, r2_1⟩, rfl⟩ := q63
    refine own_iastore K own_d7_200 H61 (i := 0) rfl (q := 2) (by decide) (own_le rfl) ?_
    intro h65 H66
    replace H66 : own_H Z h65 ([]) ((a51, .int, "[I", [(.int r0), (.int r1), (.int r2), (.int (0 : Int32))]) :: (a3, .double, "[D", [(.double (FP.i2d z0)), (.double (FP.i2d z1)), (.double (FP.i2d z2)), (.double (FP.i2d z3)), (.double (FP.i2d z4)), (.double (FP.i2d z5)), (.double (FP.i2d z6)), (.double (FP.i2d z7)), (.double (FP.i2d z8))]) :: []) := H66
    refine own_dup K own_d7_201 rfl ?_
    refine own_iconst K own_d7_202 (v := (3 : Int32)) rfl ?_
    refine own_iloadN K own_d7_203 rfl ?_
    refine own_iconst K own_d7_204 (v := (3 : Int32)) rfl ?_
    refine own_iload K own_d7_205 rfl ?_
    refine own_static K own_d7_207 (own_w7 hw) (own_w8 hw) (own_w3 hw) (own_w9 hw) (argsL := [(.int rp), (.int (3 : Int32)), (.int nr)]) (rest := [(.int (3 : Int32)), (.ref a51), (.ref a51)]) (own_pick hw (by omega)) own_pd2 rfl rfl rfl (by decide) (W := 3) (Nat.le_of_eq rfl) (by decide) (by decide) (by decide) (by decide) ?_
    intro v69 h67 q68
    obtain ⟨⟨r3, rfl, r3_0, r3_1⟩, rfl⟩ := q68
    refine own_iastore K own_d7_210 H66 (i := 0) rfl (q := 3) (by decide) (own_le rfl) ?_
    intro h70 H71
    replace H71 : own_H Z h70 ([]) ((a51, .int, "[I", [(.int r0), (.int r1), (.int r2), (.int r3)]) :: (a3, .double, "[D", [(.double (FP.i2d z0)), (.double (FP.i2d z1)), (.double (FP.i2d z2)), (.double (FP.i2d z3)), (.double (FP.i2d z4)), (.double (FP.i2d z5)), (.double (FP.i2d z6)), (.double (FP.i2d z7)), (.double (FP.i2d z8))]) :: []) := H71
    refine own_astore K own_d7_211 rfl (Ls' := #[.val (.int sh), .val (.int ki), .val (.int rp), .val (.int cp), .val (.int cp2), .val (.long sd), .second, .val (.int nr), .val (.int nc), .val (.int (1 : Int32)), .val (.int cn), .val (.int (0 : Int32)), .val (.int (1 : Int32)), .val (.ref a3), .val (.ref a51), .unset, .unset]) rfl ?_
    refine own_iconst K own_d7_213 (v := (4 : Int32)) rfl ?_
    refine own_newarray K own_d7_214 (ty := .int) rfl (own_w6 hw) H71 (q := 4) (by decide) (ad := "[I") (by decide +kernel) (vs := [(.int (0 : Int32)), (.int (0 : Int32)), (.int (0 : Int32)), (.int (0 : Int32))]) rfl (by decide) (by decide) (by decide) ?_
    intro h72 a74 H73
    replace H73 : own_H Z h72 ([]) ((a74, .int, "[I", [(.int (0 : Int32)), (.int (0 : Int32)), (.int (0 : Int32)), (.int (0 : Int32))]) :: (a51, .int, "[I", [(.int r0), (.int r1), (.int r2), (.int r3)]) :: (a3, .double, "[D", [(.double (FP.i2d z0)), (.double (FP.i2d z1)), (.double (FP.i2d z2)), (.double (FP.i2d z3)), (.double (FP.i2d z4)), (.double (FP.i2d z5)), (.double (FP.i2d z6)), (.double (FP.i2d z7)), (.double (FP.i2d z8))]) :: []) := H73
    refine own_dup K own_d7_216 rfl ?_
    refine own_iconst K own_d7_217 (v := (0 : Int32)) rfl ?_
    refine own_iloadN K own_d7_218 rfl ?_
    refine own_iconst K own_d7_219 (v := (0 : Int32)) rfl ?_
    refine own_iload K own_d7_220 rfl ?_
    refine own_static K own_d7_222 (own_w7 hw) (own_w8 hw) (own_w3 hw) (own_w9 hw) (argsL := [(.int cp), (.int (0 : Int32)), (.int nc)]) (rest := [(.int (0 : Int32)), (.ref a74), (.ref a74)]) (own_pick hw (by omega)) own_pd2 rfl rfl rfl (by decide) (W := 3) (Nat.le_of_eq rfl) (by decide) (by decide) (by decide) (by decide) ?_
    intro v77 h75 q76
    obtain ⟨⟨c0, rfl, c0_0, c0_1⟩, rfl⟩ := q76
    refine own_iastore K own_d7_225 H73 (i := 0) rfl (q := 0) (by decide) (own_le rfl) ?_
    intro h78 H79
    replace H79 : own_H Z h78 ([]) ((a74, .int, "[I", [(.int c0), (.int (0 : Int32)), (.int (0 : Int32)), (.int (0 : Int32))]) :: (a51, .int, "[I", [(.int r0), (.int r1), (.int r2), (.int r3)]) :: (a3, .double, "[D", [(.double (FP.i2d z0)), (.double (FP.i2d z1)), (.double (FP.i2d z2)), (.double (FP.i2d z3)), (.double (FP.i2d z4)), (.double (FP.i2d z5)), (.double (FP.i2d z6)), (.double (FP.i2d z7)), (.double (FP.i2d z8))]) :: []) := H79
    refine own_dup K own_d7_226 rfl ?_
    refine own_iconst K own_d7_227 (v := (1 : Int32)) rfl ?_
    refine own_iloadN K own_d7_228 rfl ?_
    refine own_iconst K own_d7_229 (v := (1 : Int32)) rfl ?_
    refine own_iload K own_d7_230 rfl ?_
    refine own_static K own_d7_232 (own_w7 hw) (own_w8 hw) (own_w3 hw) (own_w9 hw) (argsL := [(.int cp), (.int (1 : Int32)), (.int nc)]) (rest := [(.int (1 : Int32)), (.ref a74), (.ref a74)]) (own_pick hw (by omega)) own_pd2 rfl rfl rfl (by decide) (W := 3) (Nat.le_of_eq rfl) (by decide) (by decide) (by decide) (by decide) ?_
    intro v82 h80 q81
    obtain ⟨⟨c1, rfl, c1_0, c1_1⟩, rfl⟩ := q81
    refine own_iastore K own_d7_235 H79 (i := 0) rfl (q := 1) (by decide) (own_le rfl) ?_
    intro h83 H84
    replace H84 : own_H Z h83 ([]) ((a74, .int, "[I", [(.int c0), (.int c1), (.int (0 : Int32)), (.int (0 : Int32))]) :: (a51, .int, "[I", [(.int r0), (.int r1), (.int r2), (.int r3)]) :: (a3, .double, "[D", [(.double (FP.i2d z0)), (.double (FP.i2d z1)), (.double (FP.i2d z2)), (.double (FP.i2d z3)), (.double (FP.i2d z4)), (.double (FP.i2d z5)), (.double (FP.i2d z6)), (.double (FP.i2d z7)), (.double (FP.i2d z8))]) :: []) := H84
    refine own_dup K own_d7_236 rfl ?_
    refine own_iconst K own_d7_237 (v := (2 : Int32)) rfl ?_
    refine own_iloadN K own_d7_238 rfl ?_
    refine own_iconst K own_d7_239 (v := (2 : Int32)) rfl ?_
    refine own_iload K own_d7_240 rfl ?_
    refine own_static K own_d7_242 (own_w7 hw) (own_w8 hw) (own_w3 hw) (own_w9 hw) (argsL := [(.int cp), (.int (2 : Int32)), (.int nc)]) (rest := [(.int (2 : Int32)), (.ref a74), (.ref a74)]) (own_pick hw (by omega)) own_pd2 rfl rfl rfl (by decide) (W := 3) (Nat.le_of_eq rfl) (by decide) (by decide) (by decide) (by decide) ?_
    intro v87 h85 q86
    obtain ⟨⟨c2, rfl, c2_0, c2_1⟩, rfl⟩ := q86
    refine own_iastore K own_d7_245 H84 (i := 0) rfl (q := 2) (by decide) (own_le rfl) ?_
    intro h88 H89
    replace H89 : own_H Z h88 ([]) ((a74, .int, "[I", [(.int c0), (.int c1), (.int c2), (.int (0 : Int32))]) :: (a51, .int, "[I", [(.int r0), (.int r1), (.int r2), (.int r3)]) :: (a3, .double, "[D", [(.double (FP.i2d z0)), (.double (FP.i2d z1)), (.double (FP.i2d z2)), (.double (FP.i2d z3)), (.double (FP.i2d z4)), (.double (FP.i2d z5)), (.double (FP.i2d z6)), (.double (FP.i2d z7)), (.double (FP.i2d z8))]) :: []) := H89
    refine own_dup K own_d7_246 rfl ?_
    refine own_iconst K own_d7_247 (v := (3 : Int32)) rfl ?_
    refine own_iloadN K own_d7_248 rfl ?_
    refine own_iconst K own_d7_249 (v := (3 : Int32)) rfl ?_
    refine own_iload K own_d7_250 rfl ?_
    refine own_static K own_d7_252 (own_w7 hw) (own_w8 hw) (own_w3 hw) (own_w9 hw) (argsL := [(.int cp), (.int (3 : Int32)), (.int nc)]) (rest := [(.int (3 : Int32)), (.ref a74), (.ref a74)]) (own_pick hw (by omega)) own_pd2 rfl rfl rfl (by decide) (W := 3) (Nat.le_of_eq rfl) (by decide) (by decide) (by decide) (by decide) ?_
    intro v92 h90 q91
    obtain ⟨⟨c3, rfl, c3_0, c3_1⟩, rfl⟩ := q91
    refine own_iastore K own_d7_255 H89 (i := 0) rfl (q := 3) (by decide) (own_le rfl) ?_
    intro h93 H94
    replace H94 : own_H Z h93 ([]) ((a74, .int, "[I", [(.int c0), (.int c1), (.int c2), (.int c3)]) :: (a51, .int, "[I", [(.int r0), (.int r1), (.int r2), (.int r3)]) :: (a3, .double, "[D", [(.double (FP.i2d z0)), (.double (FP.i2d z1)), (.double (FP.i2d z2)), (.double (FP.i2d z3)), (.double (FP.i2d z4)), (.double (FP.i2d z5)), (.double (FP.i2d z6)), (.double (FP.i2d z7)), (.double (FP.i2d z8))]) :: []) := H94
    refine own_astore K own_d7_256 rfl (Ls' := #[.val (.int sh), .val (.int ki), .val (.int rp), .val (.int cp), .val (.int cp2), .val (.long sd), .second, .val (.int nr), .val (.int nc), .val (.int (1 : Int32)), .val (.int cn), .val (.int (0 : Int32)), .val (.int (1 : Int32)), .val (.ref a3), .val (.ref a51), .val (.ref a74), .unset]) rfl ?_
    refine own_iconst K own_d7_258 (v := (5 : Int32)) rfl ?_
    refine own_newarray K own_d7_259 (ty := .double) rfl (own_w0 hw) H94 (q := 5) (by decide) (ad := "[D") (by decide +kernel) (vs := [(.double (0 : UInt64)), (.double (0 : UInt64)), (.double (0 : UInt64)), (.double (0 : UInt64)), (.double (0 : UInt64))]) rfl (by decide) (by decide) (by decide) ?_
    intro h95 a97 H96
    replace H96 : own_H Z h95 ([]) ((a97, .double, "[D", [(.double (0 : UInt64)), (.double (0 : UInt64)), (.double (0 : UInt64)), (.double (0 : UInt64)), (.double (0 : UInt64))]) :: (a74, .int, "[I", [(.int c0), (.int c1), (.int c2), (.int c3)]) :: (a51, .int, "[I", [(.int r0), (.int r1), (.int r2), (.int r3)]) :: (a3, .double, "[D", [(.double (FP.i2d z0)), (.double (FP.i2d z1)), (.double (FP.i2d z2)), (.double (FP.i2d z3)), (.double (FP.i2d z4)), (.double (FP.i2d z5)), (.double (FP.i2d z6)), (.double (FP.i2d z7)), (.double (FP.i2d z8))]) :: []) := H96
    refine own_dup K own_d7_261 rfl ?_
    refine own_iconst K own_d7_262 (v := (0 : Int32)) rfl ?_
    refine own_ldc2D K own_d7_263 (own_w10 hw) ?_
    refine own_dastore K own_d7_266 H96 (i := 0) rfl (q := 0) (by decide) (own_le rfl) ?_
    intro h98 H99
    replace H99 : own_H Z h98 ([]) ((a97, .double, "[D", [(.double (4696837146684686336 : UInt64)), (.double (0 : UInt64)), (.double (0 : UInt64)), (.double (0 : UInt64)), (.double (0 : UInt64))]) :: (a74, .int, "[I", [(.int c0), (.int c1), (.int c2), (.int c3)]) :: (a51, .int, "[I", [(.int r0), (.int r1), (.int r2), (.int r3)]) :: (a3, .double, "[D", [(.double (FP.i2d z0)), (.double (FP.i2d z1)), (.double (FP.i2d z2)), (.double (FP.i2d z3)), (.double (FP.i2d z4)), (.double (FP.i2d z5)), (.double (FP.i2d z6)), (.double (FP.i2d z7)), (.double (FP.i2d z8))]) :: []) := H99
    refine own_dup K own_d7_267 rfl ?_
    refine own_iconst K own_d7_268 (v := (1 : Int32)) rfl ?_
    refine own_ldc2D K own_d7_269 (own_w10 hw) ?_
    refine own_dastore K own_d7_272 H99 (i := 0) rfl (q := 1) (by decide) (own_le rfl) ?_
    intro h100 H101
    replace H101 : own_H Z h100 ([]) ((a97, .double, "[D", [(.double (4696837146684686336 : UInt64)), (.double (4696837146684686336 : UInt64)), (.double (0 : UInt64)), (.double (0 : UInt64)), (.double (0 : UInt64))]) :: (a74, .int, "[I", [(.int c0), (.int c1), (.int c2), (.int c3)]) :: (a51, .int, "[I", [(.int r0), (.int r1), (.int r2), (.int r3)]) :: (a3, .double, "[D", [(.double (FP.i2d z0)), (.double (FP.i2d z1)), (.double (FP.i2d z2)), (.double (FP.i2d z3)), (.double (FP.i2d z4)), (.double (FP.i2d z5)), (.double (FP.i2d z6)), (.double (FP.i2d z7)), (.double (FP.i2d z8))]) :: []) := H101
    refine own_dup K own_d7_273 rfl ?_
    refine own_iconst K own_d7_274 (v := (2 : Int32)) rfl ?_
    refine own_ldc2D K own_d7_275 (own_w10 hw) ?_
    refine own_dastore K own_d7_278 H101 (i := 0) rfl (q := 2) (by decide) (own_le rfl) ?_
    intro h102 H103
    replace H103 : own_H Z h102 ([]) ((a97, .double, "[D", [(.double (4696837146684686336 : UInt64)), (.double (4696837146684686336 : UInt64)), (.double (4696837146684686336 : UInt64)), (.double (0 : UInt64)), (.double (0 : UInt64))]) :: (a74, .int, "[I", [(.int c0), (.int c1), (.int c2), (.int c3)]) :: (a51, .int, "[I", [(.int r0), (.int r1), (.int r2), (.int r3)]) :: (a3, .double, "[D", [(.double (FP.i2d z0)), (.double (FP.i2d z1)), (.double (FP.i2d z2)), (.double (FP.i2d z3)), (.double (FP.i2d z4)), (.double (FP.i2d z5)), (.double (FP.i2d z6)), (.double (FP.i2d z7)), (.double (FP.i2d z8))]) :: []) := H103
    refine own_dup K own_d7_279 rfl ?_
    refine own_iconst K own_d7_280 (v := (3 : Int32)) rfl ?_
    refine own_ldc2D K own_d7_281 (own_w10 hw) ?_
    refine own_dastore K own_d7_284 H103 (i := 0) rfl (q := 3) (by decide) (own_le rfl) ?_
    intro h104 H105
    replace H105 : own_H Z h104 ([]) ((a97, .double, "[D", [(.double (4696837146684686336 : UInt64)), (.double (4696837146684686336 : UInt64)), (.double (4696837146684686336 : UInt64)), (.double (4696837146684686336 : UInt64)), (.double (0 : UInt64))]) :: (a74, .int, "[I", [(.int c0), (.int c1), (.int c2), (.int c3)]) :: (a51, .int, "[I", [(.int r0), (.int r1), (.int r2), (.int r3)]) :: (a3, .double, "[D", [(.double (FP.i2d z0)), (.double (FP.i2d z1)), (.double (FP.i2d z2)), (.double (FP.i2d z3)), (.double (FP.i2d z4)), (.double (FP.i2d z5)), (.double (FP.i2d z6)), (.double (FP.i2d z7)), (.double (FP.i2d z8))]) :: []) := H105
    refine own_dup K own_d7_285 rfl ?_
    refine own_iconst K own_d7_286 (v := (4 : Int32)) rfl ?_
    refine own_ldc2D K own_d7_287 (own_w10 hw) ?_
    refine own_dastore K own_d7_290 H105 (i := 0) rfl (q := 4) (by decide) (own_le rfl) ?_
    intro h106 H107
    replace H107 : own_H Z h106 ([]) ((a97, .double, "[D", [(.double (4696837146684686336 : UInt64)), (.double (4696837146684686336 : UInt64)), (.double (4696837146684686336 : UInt64)), (.double (4696837146684686336 : UInt64)), (.double (4696837146684686336 : UInt64))]) :: (a74, .int, "[I", [(.int c0), (.int c1), (.int c2), (.int c3)]) :: (a51, .int, "[I", [(.int r0), (.int r1), (.int r2), (.int r3)]) :: (a3, .double, "[D", [(.double (FP.i2d z0)), (.double (FP.i2d z1)), (.double (FP.i2d z2)), (.double (FP.i2d z3)), (.double (FP.i2d z4)), (.double (FP.i2d z5)), (.double (FP.i2d z6)), (.double (FP.i2d z7)), (.double (FP.i2d z8))]) :: []) := H107
    refine own_astore K own_d7_291 rfl (Ls' := #[.val (.int sh), .val (.int ki), .val (.int rp), .val (.int cp), .val (.int cp2), .val (.long sd), .second, .val (.int nr), .val (.int nc), .val (.int (1 : Int32)), .val (.int cn), .val (.int (0 : Int32)), .val (.int (1 : Int32)), .val (.ref a3), .val (.ref a51), .val (.ref a74), .val (.ref a97)]) rfl ?_
    refine own_new K own_d7_293 (own_w11 hw) (own_w12 hw) (own_w13 hw) H107 (own_OP_F hw) (own_OP_P hw) (by decide) (by decide) ?_
    intro h108 a110 H109
    replace H109 : own_H Z h108 (own_OP a110 .null (.int (0 : Int32)) (.int (0 : Int32)) :: []) ((a97, .double, "[D", [(.double (4696837146684686336 : UInt64)), (.double (4696837146684686336 : UInt64)), (.double (4696837146684686336 : UInt64)), (.double (4696837146684686336 : UInt64)), (.double (4696837146684686336 : UInt64))]) :: (a74, .int, "[I", [(.int c0), (.int c1), (.int c2), (.int c3)]) :: (a51, .int, "[I", [(.int r0), (.int r1), (.int r2), (.int r3)]) :: (a3, .double, "[D", [(.double (FP.i2d z0)), (.double (FP.i2d z1)), (.double (FP.i2d z2)), (.double (FP.i2d z3)), (.double (FP.i2d z4)), (.double (FP.i2d z5)), (.double (FP.i2d z6)), (.double (FP.i2d z7)), (.double (FP.i2d z8))]) :: []) := H109
    refine own_dup K own_d7_296 rfl ?_
    refine own_aload K own_d7_297 rfl rfl ?_
    refine own_iload K own_d7_299 rfl ?_
    refine own_iload K own_d7_301 rfl ?_
    refine own_special K own_d7_303 rfl (own_w14 hw) (own_w15 hw) (own_w13 hw) (own_w16 hw) (a := a110) (argsL := [(.ref a3), (.int (0 : Int32)), (.int (1 : Int32))]) (rest := [(.ref a110)]) (own_init hw H109) own_pd3 rfl rfl rfl (by decide) (W := 1) (Nat.le_of_eq rfl) (by decide) (by decide) (by decide) (by decide) ?_
    intro v113 h111 q112
    obtain ⟨rfl, H114⟩ := q112
    replace H114 : own_H Z h111 (own_OP a110 (.ref a3) (.int (0 : Int32)) (.int (1 : Int32)) :: []) ((a97, .double, "[D", [(.double (4696837146684686336 : UInt64)), (.double (4696837146684686336 : UInt64)), (.double (4696837146684686336 : UInt64)), (.double (4696837146684686336 : UInt64)), (.double (4696837146684686336 : UInt64))]) :: (a74, .int, "[I", [(.int c0), (.int c1), (.int c2), (.int c3)]) :: (a51, .int, "[I", [(.int r0), (.int r1), (.int r2), (.int r3)]) :: (a3, .double, "[D", [(.double (FP.i2d z0)), (.double (FP.i2d z1)), (.double (FP.i2d z2)), (.double (FP.i2d z3)), (.double (FP.i2d z4)), (.double (FP.i2d z5)), (.double (FP.i2d z6)), (.double (FP.i2d z7)), (.double (FP.i2d z8))]) :: []) := H114
    refine own_aload K own_d7_306 rfl rfl ?_
    refine own_aload K own_d7_308 rfl rfl ?_
    refine own_iload K own_d7_310 rfl ?_
    refine own_aload K own_d7_312 rfl rfl ?_
    obtain ⟨vs, evs⟩ : ∃ z : List Value, z = [(.double (FP.i2d z0)), (.double (FP.i2d z1)), (.double (FP.i2d z2)), (.double (FP.i2d z3)), (.double (FP.i2d z4)), (.double (FP.i2d z5)), (.double (FP.i2d z6)), (.double (FP.i2d z7)), (.double (FP.i2d z8))] := ⟨_, rfl⟩
    have hvl : vs.length = 9 := by rw [evs]; rfl
    have hall : ∀ q : Nat, q < 9 → ∃ d : UInt64, vs[q]? = some (.double d) ∧ Fl.NoNaN64 d := by rw [evs]; exact own_nine
    obtain ⟨q0, hq0, hl0⟩ : ∃ q : Nat, (r0 * (0 : Int32) + c0 * (1 : Int32)).toInt = (q : Int) ∧ q < 9 := own_ix1 r0_0 r0_1 c0_0 c0_1 nr_0.2 nc_0
    obtain ⟨d0, hd0, hn0⟩ := hall q0 hl0
    obtain ⟨q1, hq1, hl1⟩ : ∃ q : Nat, (r1 * (0 : Int32) + c1 * (1 : Int32)).toInt = (q : Int) ∧ q < 9 := own_ix1 r1_0 r1_1 c1_0 c1_1 nr_0.2 nc_0
    obtain ⟨d1, hd1, hn1⟩ := hall q1 hl1
    obtain ⟨q2, hq2, hl2⟩ : ∃ q : Nat, (r2 * (0 : Int32) + c2 * (1 : Int32)).toInt = (q : Int) ∧ q < 9 := own_ix1 r2_0 r2_1 c2_0 c2_1 nr_0.2 nc_0
    obtain ⟨d2, hd2, hn2⟩ := hall q2 hl2
    obtain ⟨q3, hq3, hl3⟩ : ∃ q : Nat, (r3 * (0 : Int32) + c3 * (1 : Int32)).toInt = (q : Int) ∧ q < 9 := own_ix1 r3_0 r3_1 c3_0 c3_1 nr_0.2 nc_0
    obtain ⟨d3, hd3, hn3⟩ := hall q3 hl3
    have H115 := H114
    rw [← evs] at H115
    replace H115 : own_H Z h111 (own_OP a110 (.ref a3) (.int (0 : Int32)) (.int (1 : Int32)) :: []) ((a97, .double, "[D", [(.double (4696837146684686336 : UInt64)), (.double (4696837146684686336 : UInt64)), (.double (4696837146684686336 : UInt64)), (.double (4696837146684686336 : UInt64)), (.double (4696837146684686336 : UInt64))]) :: (a74, .int, "[I", [(.int c0), (.int c1), (.int c2), (.int c3)]) :: (a51, .int, "[I", [(.int r0), (.int r1), (.int r2), (.int r3)]) :: (a3, .double, "[D", vs) :: []) := H115
    have H116 := H115.frontA 3 rfl
    replace H116 : own_H Z h111 (own_OP a110 (.ref a3) (.int (0 : Int32)) (.int (1 : Int32)) :: []) ((a3, .double, "[D", vs) :: (a97, .double, "[D", [(.double (4696837146684686336 : UInt64)), (.double (4696837146684686336 : UInt64)), (.double (4696837146684686336 : UInt64)), (.double (4696837146684686336 : UInt64)), (.double (4696837146684686336 : UInt64))]) :: (a74, .int, "[I", [(.int c0), (.int c1), (.int c2), (.int c3)]) :: (a51, .int, "[I", [(.int r0), (.int r1), (.int r2), (.int r3)]) :: []) := H116
    have H117 := H116.frontA 1 rfl
    replace H117 : own_H Z h111 (own_OP a110 (.ref a3) (.int (0 : Int32)) (.int (1 : Int32)) :: []) ((a97, .double, "[D", [(.double (4696837146684686336 : UInt64)), (.double (4696837146684686336 : UInt64)), (.double (4696837146684686336 : UInt64)), (.double (4696837146684686336 : UInt64)), (.double (4696837146684686336 : UInt64))]) :: (a3, .double, "[D", vs) :: (a74, .int, "[I", [(.int c0), (.int c1), (.int c2), (.int c3)]) :: (a51, .int, "[I", [(.int r0), (.int r1), (.int r2), (.int r3)]) :: []) := H117
    have H118 := H117.frontA 2 rfl
    replace H118 : own_H Z h111 (own_OP a110 (.ref a3) (.int (0 : Int32)) (.int (1 : Int32)) :: []) ((a74, .int, "[I", [(.int c0), (.int c1), (.int c2), (.int c3)]) :: (a97, .double, "[D", [(.double (4696837146684686336 : UInt64)), (.double (4696837146684686336 : UInt64)), (.double (4696837146684686336 : UInt64)), (.double (4696837146684686336 : UInt64)), (.double (4696837146684686336 : UInt64))]) :: (a3, .double, "[D", vs) :: (a51, .int, "[I", [(.int r0), (.int r1), (.int r2), (.int r3)]) :: []) := H118
    have H119 := H118.frontA 3 rfl
    replace H119 : own_H Z h111 (own_OP a110 (.ref a3) (.int (0 : Int32)) (.int (1 : Int32)) :: []) ((a51, .int, "[I", [(.int r0), (.int r1), (.int r2), (.int r3)]) :: (a74, .int, "[I", [(.int c0), (.int c1), (.int c2), (.int c3)]) :: (a97, .double, "[D", [(.double (4696837146684686336 : UInt64)), (.double (4696837146684686336 : UInt64)), (.double (4696837146684686336 : UInt64)), (.double (4696837146684686336 : UInt64)), (.double (4696837146684686336 : UInt64))]) :: (a3, .double, "[D", vs) :: []) := H119
    refine own_virtual K own_d7_314 (own_w31 hw) (own_w32 hw) (own_w34 hw) (own_w33 hw) (own_w13 hw) (own_w35 hw) (H119.atO (i := 0) rfl) (a := a110) (argsL := [(.ref a51), (.ref a74), (.int cn), (.ref a97)]) (rest := []) (own_gather hw cn_0.1 cn_0.2 H119 hq0 hd0 hq1 hd1 hq2 hd2 hq3 hd3) own_pd4 rfl rfl rfl (by decide) (W := 0) (Nat.le_of_eq rfl) (by decide) (by decide) (by decide) (by decide) ?_
    intro v122 h120 q121
    obtain ⟨rfl, H123⟩ := q121
    replace H123 : own_H Z h120 (own_OP a110 (.ref a3) (.int (0 : Int32)) (.int (1 : Int32)) :: []) ((a51, .int, "[I", [(.int r0), (.int r1), (.int r2), (.int r3)]) :: (a74, .int, "[I", [(.int c0), (.int c1), (.int c2), (.int c3)]) :: (a97, .double, "[D", [(.double (if 0 < cn.toInt then d0 else (4696837146684686336 : UInt64))), (.double (if 1 < cn.toInt then d1 else (4696837146684686336 : UInt64))), (.double (if 2 < cn.toInt then d2 else (4696837146684686336 : UInt64))), (.double (if 3 < cn.toInt then d3 else (4696837146684686336 : UInt64))), (.double (4696837146684686336 : UInt64))]) :: (a3, .double, "[D", vs) :: []) := H123
    refine own_aload K own_d7_317 rfl rfl ?_
    refine own_iconst K own_d7_319 (v := (0 : Int32)) rfl ?_
    refine own_iload K own_d7_320 rfl ?_
    refine own_iload K own_d7_322 rfl ?_
    refine own_iload K own_d7_324 rfl ?_
    refine own_aload K own_d7_326 rfl rfl ?_
    refine own_aload K own_d7_328 rfl rfl ?_
    refine own_iconst K own_d7_330 (v := (0 : Int32)) rfl ?_
    refine own_iaload K own_d7_331 H123 (i := 0) rfl (q := 0) (by decide) (rfl) ?_
    refine own_aload K own_d7_332 rfl rfl ?_
    refine own_iconst K own_d7_334 (v := (0 : Int32)) rfl ?_
    refine own_iaload K own_d7_335 H123 (i := 1) rfl (q := 0) (by decide) (rfl) ?_
    have H124 := H123.frontA 3 rfl
    replace H124 : own_H Z h120 (own_OP a110 (.ref a3) (.int (0 : Int32)) (.int (1 : Int32)) :: []) ((a3, .double, "[D", vs) :: (a51, .int, "[I", [(.int r0), (.int r1), (.int r2), (.int r3)]) :: (a74, .int, "[I", [(.int c0), (.int c1), (.int c2), (.int c3)]) :: (a97, .double, "[D", [(.double (if 0 < cn.toInt then d0 else (4696837146684686336 : UInt64))), (.double (if 1 < cn.toInt then d1 else (4696837146684686336 : UInt64))), (.double (if 2 < cn.toInt then d2 else (4696837146684686336 : UInt64))), (.double (if 3 < cn.toInt then d3 else (4696837146684686336 : UInt64))), (.double (4696837146684686336 : UInt64))]) :: []) := H124
    refine own_static K own_d7_336 (own_w36 hw) (own_w37 hw) (own_w3 hw) (own_w38 hw) (argsL := [(.int (1 : Int32)), (.int nc), (.ref a3), (.int r0), (.int c0)]) (rest := [(.int cn), (.int (0 : Int32)), (.ref a97)]) (own_want1 hw H124 (q := q0) (by rw [← hq0, own_k1]) hd0) own_pd5 rfl rfl rfl (by decide) (W := 3) (Nat.le_of_eq rfl) (by decide) (by decide) (by decide) (by decide) ?_
    intro v127 h125 q126
    obtain ⟨rfl, rfl⟩ := q126
    have H128 := H124.frontA 3 rfl
    replace H128 : own_H Z h120 (own_OP a110 (.ref a3) (.int (0 : Int32)) (.int (1 : Int32)) :: []) ((a97, .double, "[D", [(.double (if 0 < cn.toInt then d0 else (4696837146684686336 : UInt64))), (.double (if 1 < cn.toInt then d1 else (4696837146684686336 : UInt64))), (.double (if 2 < cn.toInt then d2 else (4696837146684686336 : UInt64))), (.double (if 3 < cn.toInt then d3 else (4696837146684686336 : UInt64))), (.double (4696837146684686336 : UInt64))]) :: (a3, .double, "[D", vs) :: (a51, .int, "[I", [(.int r0), (.int r1), (.int r2), (.int r3)]) :: (a74, .int, "[I", [(.int c0), (.int c1), (.int c2), (.int c3)]) :: []) := H128
    refine own_static K own_d7_339 (own_w39 hw) (own_w40 hw) (own_w3 hw) (own_w41 hw) (argsL := [(.ref a97), (.int (0 : Int32)), (.int cn), (.double d0)]) (rest := []) (own_ok hw H128 (i := 0) rfl rfl (by rw [show (0 : Int32).toInt = 0 from rfl]) (by split <;> first | exact hn0 | decide)) own_pd6 rfl rfl rfl (by decide) (W := 0) (Nat.le_of_eq rfl) (by decide) (by decide) (by decide) (by decide) ?_
    intro v131 h129 q130
    obtain ⟨rfl, rfl⟩ := q130
    refine own_ifeq K own_d7_342 (fun q => absurd q (by decide)) (fun _ => ?_)
    refine own_aload K own_d7_345 rfl rfl ?_
    refine own_iconst K own_d7_347 (v := (1 : Int32)) rfl ?_
    refine own_iload K own_d7_348 rfl ?_
    refine own_iload K own_d7_350 rfl ?_
    refine own_iload K own_d7_352 rfl ?_
    refine own_aload K own_d7_354 rfl rfl ?_
    refine own_aload K own_d7_356 rfl rfl ?_
    refine own_iconst K own_d7_358 (v := (1 : Int32)) rfl ?_
    refine own_iaload K own_d7_359 H128 (i := 2) rfl (q := 1) (by decide) (rfl) ?_
    refine own_aload K own_d7_360 rfl rfl ?_
    refine own_iconst K own_d7_362 (v := (1 : Int32)) rfl ?_
    refine own_iaload K own_d7_363 H128 (i := 3) rfl (q := 1) (by decide) (rfl) ?_
    have H132 := H128.frontA 1 rfl
    replace H132 : own_H Z h120 (own_OP a110 (.ref a3) (.int (0 : Int32)) (.int (1 : Int32)) :: []) ((a3, .double, "[D", vs) :: (a97, .double, "[D", [(.double (if 0 < cn.toInt then d0 else (4696837146684686336 : UInt64))), (.double (if 1 < cn.toInt then d1 else (4696837146684686336 : UInt64))), (.double (if 2 < cn.toInt then d2 else (4696837146684686336 : UInt64))), (.double (if 3 < cn.toInt then d3 else (4696837146684686336 : UInt64))), (.double (4696837146684686336 : UInt64))]) :: (a51, .int, "[I", [(.int r0), (.int r1), (.int r2), (.int r3)]) :: (a74, .int, "[I", [(.int c0), (.int c1), (.int c2), (.int c3)]) :: []) := H132
    refine own_static K own_d7_364 (own_w36 hw) (own_w37 hw) (own_w3 hw) (own_w38 hw) (argsL := [(.int (1 : Int32)), (.int nc), (.ref a3), (.int r1), (.int c1)]) (rest := [(.int cn), (.int (1 : Int32)), (.ref a97)]) (own_want1 hw H132 (q := q1) (by rw [← hq1, own_k1]) hd1) own_pd5 rfl rfl rfl (by decide) (W := 3) (Nat.le_of_eq rfl) (by decide) (by decide) (by decide) (by decide) ?_
    intro v135 h133 q134
    obtain ⟨rfl, rfl⟩ := q134
    have H136 := H132.frontA 1 rfl
    replace H136 : own_H Z h120 (own_OP a110 (.ref a3) (.int (0 : Int32)) (.int (1 : Int32)) :: []) ((a97, .double, "[D", [(.double (if 0 < cn.toInt then d0 else (4696837146684686336 : UInt64))), (.double (if 1 < cn.toInt then d1 else (4696837146684686336 : UInt64))), (.double (if 2 < cn.toInt then d2 else (4696837146684686336 : UInt64))), (.double (if 3 < cn.toInt then d3 else (4696837146684686336 : UInt64))), (.double (4696837146684686336 : UInt64))]) :: (a3, .double, "[D", vs) :: (a51, .int, "[I", [(.int r0), (.int r1), (.int r2), (.int r3)]) :: (a74, .int, "[I", [(.int c0), (.int c1), (.int c2), (.int c3)]) :: []) := H136
    refine own_static K own_d7_367 (own_w39 hw) (own_w40 hw) (own_w3 hw) (own_w41 hw) (argsL := [(.ref a97), (.int (1 : Int32)), (.int cn), (.double d1)]) (rest := []) (own_ok hw H136 (i := 1) rfl rfl (by rw [show (1 : Int32).toInt = 1 from rfl]) (by split <;> first | exact hn1 | decide)) own_pd6 rfl rfl rfl (by decide) (W := 0) (Nat.le_of_eq rfl) (by decide) (by decide) (by decide) (by decide) ?_
    intro v139 h137 q138
    obtain ⟨rfl, rfl⟩ := q138
    refine own_ifeq K own_d7_370 (fun q => absurd q (by decide)) (fun _ => ?_)
    refine own_aload K own_d7_373 rfl rfl ?_
    refine own_iconst K own_d7_375 (v := (2 : Int32)) rfl ?_
    refine own_iload K own_d7_376 rfl ?_
    refine own_iload K own_d7_378 rfl ?_
    refine own_iload K own_d7_380 rfl ?_
    refine own_aload K own_d7_382 rfl rfl ?_
    refine own_aload K own_d7_384 rfl rfl ?_
    refine own_iconst K own_d7_386 (v := (2 : Int32)) rfl ?_
    refine own_iaload K own_d7_387 H136 (i := 2) rfl (q := 2) (by decide) (rfl) ?_
    refine own_aload K own_d7_388 rfl rfl ?_
    refine own_iconst K own_d7_390 (v := (2 : Int32)) rfl ?_
    refine own_iaload K own_d7_391 H136 (i := 3) rfl (q := 2) (by decide) (rfl) ?_
    have H140 := H136.frontA 1 rfl
    replace H140 : own_H Z h120 (own_OP a110 (.ref a3) (.int (0 : Int32)) (.int (1 : Int32)) :: []) ((a3, .double, "[D", vs) :: (a97, .double, "[D", [(.double (if 0 < cn.toInt then d0 else (4696837146684686336 : UInt64))), (.double (if 1 < cn.toInt then d1 else (4696837146684686336 : UInt64))), (.double (if 2 < cn.toInt then d2 else (4696837146684686336 : UInt64))), (.double (if 3 < cn.toInt then d3 else (4696837146684686336 : UInt64))), (.double (4696837146684686336 : UInt64))]) :: (a51, .int, "[I", [(.int r0), (.int r1), (.int r2), (.int r3)]) :: (a74, .int, "[I", [(.int c0), (.int c1), (.int c2), (.int c3)]) :: []) := H140
    refine own_static K own_d7_392 (own_w36 hw) (own_w37 hw) (own_w3 hw) (own_w38 hw) (argsL := [(.int (1 : Int32)), (.int nc), (.ref a3), (.int r2), (.int c2)]) (rest := [(.int cn), (.int (2 : Int32)), (.ref a97)]) (own_want1 hw H140 (q := q2) (by rw [← hq2, own_k1]) hd2) own_pd5 rfl rfl rfl (by decide) (W := 3) (Nat.le_of_eq rfl) (by decide) (by decide) (by decide) (by decide) ?_
    intro v143 h141 q142
    obtain ⟨rfl, rfl⟩ := q142
    have H144 := H140.frontA 1 rfl
    replace H144 : own_H Z h120 (own_OP a110 (.ref a3) (.int (0 : Int32)) (.int (1 : Int32)) :: []) ((a97, .double, "[D", [(.double (if 0 < cn.toInt then d0 else (4696837146684686336 : UInt64))), (.double (if 1 < cn.toInt then d1 else (4696837146684686336 : UInt64))), (.double (if 2 < cn.toInt then d2 else (4696837146684686336 : UInt64))), (.double (if 3 < cn.toInt then d3 else (4696837146684686336 : UInt64))), (.double (4696837146684686336 : UInt64))]) :: (a3, .double, "[D", vs) :: (a51, .int, "[I", [(.int r0), (.int r1), (.int r2), (.int r3)]) :: (a74, .int, "[I", [(.int c0), (.int c1), (.int c2), (.int c3)]) :: []) := H144
    refine own_static K own_d7_395 (own_w39 hw) (own_w40 hw) (own_w3 hw) (own_w41 hw) (argsL := [(.ref a97), (.int (2 : Int32)), (.int cn), (.double d2)]) (rest := []) (own_ok hw H144 (i := 2) rfl rfl (by rw [show (2 : Int32).toInt = 2 from rfl]) (by split <;> first | exact hn2 | decide)) own_pd6 rfl rfl rfl (by decide) (W := 0) (Nat.le_of_eq rfl) (by decide) (by decide) (by decide) (by decide) ?_
    intro v147 h145 q146
    obtain ⟨rfl, rfl⟩ := q146
    refine own_ifeq K own_d7_398 (fun q => absurd q (by decide)) (fun _ => ?_)
    refine own_aload K own_d7_401 rfl rfl ?_
    refine own_iconst K own_d7_403 (v := (3 : Int32)) rfl ?_
    refine own_iload K own_d7_404 rfl ?_
    refine own_iload K own_d7_406 rfl ?_
    refine own_iload K own_d7_408 rfl ?_
    refine own_aload K own_d7_410 rfl rfl ?_
    refine own_aload K own_d7_412 rfl rfl ?_
    refine own_iconst K own_d7_414 (v := (3 : Int32)) rfl ?_
    refine own_iaload K own_d7_415 H144 (i := 2) rfl (q := 3) (by decide) (rfl) ?_
    refine own_aload K own_d7_416 rfl rfl ?_
    refine own_iconst K own_d7_418 (v := (3 : Int32)) rfl ?_
    refine own_iaload K own_d7_419 H144 (i := 3) rfl (q := 3) (by decide) (rfl) ?_
    have H148 := H144.frontA 1 rfl
    replace H148 : own_H Z h120 (own_OP a110 (.ref a3) (.int (0 : Int32)) (.int (1 : Int32)) :: []) ((a3, .double, "[D", vs) :: (a97, .double, "[D", [(.double (if 0 < cn.toInt then d0 else (4696837146684686336 : UInt64))), (.double (if 1 < cn.toInt then d1 else (4696837146684686336 : UInt64))), (.double (if 2 < cn.toInt then d2 else (4696837146684686336 : UInt64))), (.double (if 3 < cn.toInt then d3 else (4696837146684686336 : UInt64))), (.double (4696837146684686336 : UInt64))]) :: (a51, .int, "[I", [(.int r0), (.int r1), (.int r2), (.int r3)]) :: (a74, .int, "[I", [(.int c0), (.int c1), (.int c2), (.int c3)]) :: []) := H148
    refine own_static K own_d7_420 (own_w36 hw) (own_w37 hw) (own_w3 hw) (own_w38 hw) (argsL := [(.int (1 : Int32)), (.int nc), (.ref a3), (.int r3), (.int c3)]) (rest := [(.int cn), (.int (3 : Int32)), (.ref a97)]) (own_want1 hw H148 (q := q3) (by rw [← hq3, own_k1]) hd3) own_pd5 rfl rfl rfl (by decide) (W := 3) (Nat.le_of_eq rfl) (by decide) (by decide) (by decide) (by decide) ?_
    intro v151 h149 q150
    obtain ⟨rfl, rfl⟩ := q150
    have H152 := H148.frontA 1 rfl
    replace H152 : own_H Z h120 (own_OP a110 (.ref a3) (.int (0 : Int32)) (.int (1 : Int32)) :: []) ((a97, .double, "[D", [(.double (if 0 < cn.toInt then d0 else (4696837146684686336 : UInt64))), (.double (if 1 < cn.toInt then d1 else (4696837146684686336 : UInt64))), (.double (if 2 < cn.toInt then d2 else (4696837146684686336 : UInt64))), (.double (if 3 < cn.toInt then d3 else (4696837146684686336 : UInt64))), (.double (4696837146684686336 : UInt64))]) :: (a3, .double, "[D", vs) :: (a51, .int, "[I", [(.int r0), (.int r1), (.int r2), (.int r3)]) :: (a74, .int, "[I", [(.int c0), (.int c1), (.int c2), (.int c3)]) :: []) := H152
    refine own_static K own_d7_423 (own_w39 hw) (own_w40 hw) (own_w3 hw) (own_w41 hw) (argsL := [(.ref a97), (.int (3 : Int32)), (.int cn), (.double d3)]) (rest := []) (own_ok hw H152 (i := 3) rfl rfl (by rw [show (3 : Int32).toInt = 3 from rfl]) (by split <;> first | exact hn3 | decide)) own_pd6 rfl rfl rfl (by decide) (W := 0) (Nat.le_of_eq rfl) (by decide) (by decide) (by decide) (by decide) ?_
    intro v155 h153 q154
    obtain ⟨rfl, rfl⟩ := q154
    refine own_ifeq K own_d7_426 (fun q => absurd q (by decide)) (fun _ => ?_)
    refine own_aload K own_d7_429 rfl rfl ?_
    refine own_iconst K own_d7_431 (v := (4 : Int32)) rfl ?_
    refine own_daload K own_d7_432 H152 (i := 0) rfl (q := 4) (by decide) (rfl) ?_
    refine own_ldc2D K own_d7_433 (own_w10 hw) ?_
    refine own_dcmp K own_d7_436 ?_
    refine own_topI (x' := (0 : Int32)) (by decide +kernel) ?_
    refine own_ifne K own_d7_437 (fun q => absurd q (by decide)) (fun _ => ?_)
    refine own_iconst K own_d7_440 (v := (1 : Int32)) rfl ?_
    refine own_goto K own_d7_441 ?_
    exact own_retZ K (by first | exact Or.inl rfl | exact Or.inr rfl | decide) own_d7_445 (by decide) (by decide) (rfl)
  · refine own_iloadN K own_d7_0 rfl ?_
    refine own_iconst K own_d7_1 (v := (3 : Int32)) rfl ?_
    refine own_iand K own_d7_2 ?_
    refine own_iconst K own_d7_3 (v := (3 : Int32)) rfl ?_
    refine own_irem K own_d7_4 (by decide) ?_
    refine own_iconst K own_d7_5 (v := (1 : Int32)) rfl ?_
    refine own_iadd K own_d7_6 ?_
    obtain ⟨nr, e_nr⟩ : ∃ z, z = (((sh &&& (3 : Int32)) % (3 : Int32)) + (1 : Int32)) := ⟨_, rfl⟩
    have nr_0 : 1 ≤ nr.toInt ∧ nr.toInt ≤ 3 := by rw [e_nr]; exact own_dim _
    refine own_topI (x' := nr) (e_nr.symm) ?_
    refine own_istore K own_d7_7 (Ls' := #[.val (.int sh), .val (.int ki), .val (.int rp), .val (.int cp), .val (.int cp2), .val (.long sd), .second, .val (.int nr), .unset, .unset, .unset, .unset, .unset, .unset, .unset, .unset, .unset]) rfl ?_
    refine own_iloadN K own_d7_9 rfl ?_
    refine own_iconst K own_d7_10 (v := (2 : Int32)) rfl ?_
    refine own_iushr K own_d7_11 ?_
    refine own_iconst K own_d7_12 (v := (3 : Int32)) rfl ?_
    refine own_iand K own_d7_13 ?_
    refine own_iconst K own_d7_14 (v := (3 : Int32)) rfl ?_
    refine own_irem K own_d7_15 (by decide) ?_
    refine own_iconst K own_d7_16 (v := (1 : Int32)) rfl ?_
    refine own_iadd K own_d7_17 ?_
    obtain ⟨nc, e_nc⟩ : ∃ z, z = ((((XT.ushr sh (2 : Int32)) &&& (3 : Int32)) % (3 : Int32)) + (1 : Int32)) := ⟨_, rfl⟩
    have nc_0 : 1 ≤ nc.toInt ∧ nc.toInt ≤ 3 := by rw [e_nc]; exact own_dim _
    refine own_topI (x' := nc) (e_nc.symm) ?_
    refine own_istore K own_d7_18 (Ls' := #[.val (.int sh), .val (.int ki), .val (.int rp), .val (.int cp), .val (.int cp2), .val (.long sd), .second, .val (.int nr), .val (.int nc), .unset, .unset, .unset, .unset, .unset, .unset, .unset, .unset]) rfl ?_
    refine own_iloadN K own_d7_20 rfl ?_
    refine own_iconst K own_d7_21 (v := (3 : Int32)) rfl ?_
    refine own_iand K own_d7_22 ?_
    refine own_topI (x' := (2 : Int32)) (q) ?_
    refine own_istore K own_d7_23 (Ls' := #[.val (.int sh), .val (.int ki), .val (.int rp), .val (.int cp), .val (.int cp2), .val (.long sd), .second, .val (.int nr), .val (.int nc), .val (.int (2 : Int32)), .unset, .unset, .unset, .unset, .unset, .unset, .unset]) rfl ?_
    refine own_iload K own_d7_25 rfl ?_
    refine own_bipush K own_d7_27 (v := (7 : Int32)) rfl ?_
    refine own_iand K own_d7_29 ?_
    refine own_iconst K own_d7_30 (v := (5 : Int32)) rfl ?_
    refine own_irem K own_d7_31 (by decide) ?_
    obtain ⟨cn, e_cn⟩ : ∃ z, z = ((cp2 &&& (7 : Int32)) % (5 : Int32)) := ⟨_, rfl⟩
    have cn_0 : 0 ≤ cn.toInt ∧ cn.toInt ≤ 4 := by rw [e_cn]; exact own_cnt _
    refine own_topI (x' := cn) (e_cn.symm) ?_
    refine own_istore K own_d7_32 (Ls' := #[.val (.int sh), .val (.int ki), .val (.int rp), .val (.int cp), .val (.int cp2), .val (.long sd), .second, .val (.int nr), .val (.int nc), .val (.int (2 : Int32)), .val (.int cn), .unset, .unset, .unset, .unset, .unset, .unset]) rfl ?_
    refine own_iload K own_d7_34 rfl ?_
    refine own_ifne K own_d7_36 (fun _ => ?_) (fun q => absurd (by decide) q)
    refine own_iload K own_d7_44 rfl ?_
    refine own_iconst K own_d7_46 (v := (2 : Int32)) rfl ?_
    refine own_icmpne K own_d7_47 (fun q => absurd q (by decide)) (fun _ => ?_)
    refine own_iconst K own_d7_50 (v := (1 : Int32)) rfl ?_
    refine own_goto K own_d7_51 ?_
    refine own_istore K own_d7_55 (Ls' := #[.val (.int sh), .val (.int ki), .val (.int rp), .val (.int cp), .val (.int cp2), .val (.long sd), .second, .val (.int nr), .val (.int nc), .val (.int (2 : Int32)), .val (.int cn), .val (.int (1 : Int32)), .unset, .unset, .unset, .unset, .unset]) rfl ?_
    refine own_iload K own_d7_57 rfl ?_
    refine own_ifeq K own_d7_59 (fun q => absurd q (by decide)) (fun _ => ?_)
    refine own_iload K own_d7_62 rfl ?_
    refine own_iconst K own_d7_64 (v := (1 : Int32)) rfl ?_
    refine own_icmpne K own_d7_65 (fun _ => ?_) (fun q => absurd (by decide) q)
    refine own_iconst K own_d7_72 (v := (0 : Int32)) rfl ?_
    refine own_istore K own_d7_73 (Ls' := #[.val (.int sh), .val (.int ki), .val (.int rp), .val (.int cp), .val (.int cp2), .val (.long sd), .second, .val (.int nr), .val (.int nc), .val (.int (2 : Int32)), .val (.int cn), .val (.int (1 : Int32)), .val (.int (0 : Int32)), .unset, .unset, .unset, .unset]) rfl ?_
    refine own_bipush K own_d7_75 (v := (9 : Int32)) rfl ?_
    refine own_newarray K own_d7_77 (ty := .double) rfl (own_w0 hw) H (q := 9) (by decide) (ad := "[D") (by decide +kernel) (vs := [(.double (0 : UInt64)), (.double (0 : UInt64)), (.double (0 : UInt64)), (.double (0 : UInt64)), (.double (0 : UInt64)), (.double (0 : UInt64)), (.double (0 : UInt64)), (.double (0 : UInt64)), (.double (0 : UInt64))]) rfl (by decide) (by decide) (by decide) ?_
    intro h1 a3 H2
    replace H2 : own_H Z h1 ([]) ((a3, .double, "[D", [(.double (0 : UInt64)), (.double (0 : UInt64)), (.double (0 : UInt64)), (.double (0 : UInt64)), (.double (0 : UInt64)), (.double (0 : UInt64)), (.double (0 : UInt64)), (.double (0 : UInt64)), (.double (0 : UInt64))]) :: []) := H2
    refine own_dup K own_d7_79 rfl ?_
    refine own_iconst K own_d7_80 (v := (0 : Int32)) rfl ?_
    refine own_lload K own_d7_81 rfl ?_
    refine own_iconst K own_d7_83 (v := (0 : Int32)) rfl ?_
    refine own_static K own_d7_84 (own_w1 hw) (own_w2 hw) (own_w3 hw) (own_w4 hw) (argsL := [(.long sd), (.int (0 : Int32))]) (rest := [(.int (0 : Int32)), (.ref a3), (.ref a3)]) (own_v hw) own_pd1 rfl rfl rfl (by decide) (W := 3) (Nat.le_of_eq rfl) (by decide) (by decide) (by decide) (by decide) ?_
    intro v6 h4 q5
    obtain ⟨⟨z0, rfl⟩, rfl⟩ := q5
    refine own_dastore K own_d7_87 H2 (i := 0) rfl (q := 0) (by decide) (own_le rfl) ?_
    intro h7 H8
    replace H8 : own_H Z h7 ([]) ((a3, .double, "[D", [(.double (FP.i2d z0)), (.double (0 : UInt64)), (.double (0 : UInt64)), (.double (0 : UInt64)), (.double (0 : UInt64)), (.double (0 : UInt64)), (.double (0 : UInt64)), (.double (0 : UInt64)), (.double (0 : UInt64))]) :: []) := H8
    refine own_dup K own_d7_88 rfl ?_
    refine own_iconst K own_d7_89 (v := (1 : Int32)) rfl ?_
    refine own_lload K own_d7_90 rfl ?_
    refine own_iconst K own_d7_92 (v := (1 : Int32)) rfl ?_
    refine own_static K own_d7_93 (own_w1 hw) (own_w2 hw) (own_w3 hw) (own_w4 hw) (argsL := [(.long sd), (.int (1 : Int32))]) (rest := [(.int (1 : Int32)), (.ref a3), (.ref a3)]) (own_v hw) own_pd1 rfl rfl rfl (by decide) (W := 3) (Nat.le_of_eq rfl) (by decide) (by decide) (by decide) (by decide) ?_
    intro v11 h9 q10
    obtain ⟨⟨z1, rfl⟩, rfl⟩ := q10
    refine own_dastore K own_d7_96 H8 (i := 0) rfl (q := 1) (by decide) (own_le rfl) ?_
    intro h12 H13
    replace H13 : own_H Z h12 ([]) ((a3, .double, "[D", [(.double (FP.i2d z0)), (.double (FP.i2d z1)), (.double (0 : UInt64)), (.double (0 : UInt64)), (.double (0 : UInt64)), (.double (0 : UInt64)), (.double (0 : UInt64)), (.double (0 : UInt64)), (.double (0 : UInt64))]) :: []) := H13
    refine own_dup K own_d7_97 rfl ?_
    refine own_iconst K own_d7_98 (v := (2 : Int32)) rfl ?_
    refine own_lload K own_d7_99 rfl ?_
    refine own_iconst K own_d7_101 (v := (2 : Int32)) rfl ?_
    refine own_static K own_d7_102 (own_w1 hw) (own_w2 hw) (own_w3 hw) (own_w4 hw) (argsL := [(.long sd), (.int (2 : Int32))]) (rest := [(.int (2 : Int32)), (.ref a3), (.ref a3)]) (own_v hw) own_pd1 rfl rfl rfl (by decide) (W := 3) (Nat.le_of_eq rfl) (by decide) (by decide) (by decide) (by decide) ?_
    intro v16 h14 q15
    obtain ⟨⟨z2, rfl⟩, rfl⟩ := q15
    refine own_dastore K own_d7_105 H13 (i := 0) rfl (q := 2) (by decide) (own_le rfl) ?_
    intro h17 H18
    replace H18 : own_H Z h17 ([]) ((a3, .double, "[D", [(.double (FP.i2d z0)), (.double (FP.i2d z1)), (.double (FP.i2d z2)), (.double (0 : UInt64)), (.double (0 : UInt64)), (.double (0 : UInt64)), (.double (0 : UInt64)), (.double (0 : UInt64)), (.double (0 : UInt64))]) :: []) := H18
    refine own_dup K own_d7_106 rfl ?_
    refine own_iconst K own_d7_107 (v := (3 : Int32)) rfl ?_
    refine own_lload K own_d7_108 rfl ?_
    refine own_iconst K own_d7_110 (v := (3 : Int32)) rfl ?_
    refine own_static K own_d7_111 (own_w1 hw) (own_w2 hw) (own_w3 hw) (own_w4 hw) (argsL := [(.long sd), (.int (3 : Int32))]) (rest := [(.int (3 : Int32)), (.ref a3), (.ref a3)]) (own_v hw) own_pd1 rfl rfl rfl (by decide) (W := 3) (Nat.le_of_eq rfl) (by decide) (by decide) (by decide) (by decide) ?_
    intro v21 h19 q20
    obtain ⟨⟨z3, rfl⟩, rfl⟩ := q20
    refine own_dastore K own_d7_114 H18 (i := 0) rfl (q := 3) (by decide) (own_le rfl) ?_
    intro h22 H23
    replace H23 : own_H Z h22 ([]) ((a3, .double, "[D", [(.double (FP.i2d z0)), (.double (FP.i2d z1)), (.double (FP.i2d z2)), (.double (FP.i2d z3)), (.double (0 : UInt64)), (.double (0 : UInt64)), (.double (0 : UInt64)), (.double (0 : UInt64)), (.double (0 : UInt64))]) :: []) := H23
    refine own_dup K own_d7_115 rfl ?_
    refine own_iconst K own_d7_116 (v := (4 : Int32)) rfl ?_
    refine own_lload K own_d7_117 rfl ?_
    refine own_iconst K own_d7_119 (v := (4 : Int32)) rfl ?_
    refine own_static K own_d7_120 (own_w1 hw) (own_w2 hw) (own_w3 hw) (own_w4 hw) (argsL := [(.long sd), (.int (4 : Int32))]) (rest := [(.int (4 : Int32)), (.ref a3), (.ref a3)]) (own_v hw) own_pd1 rfl rfl rfl (by decide) (W := 3) (Nat.le_of_eq rfl) (by decide) (by decide) (by decide) (by decide) ?_
    intro v26 h24 q25
    obtain ⟨⟨z4, rfl⟩, rfl⟩ := q25
    refine own_dastore K own_d7_123 H23 (i := 0) rfl (q := 4) (by decide) (own_le rfl) ?_
    intro h27 H28
    replace H28 : own_H Z h27 ([]) ((a3, .double, "[D", [(.double (FP.i2d z0)), (.double (FP.i2d z1)), (.double (FP.i2d z2)), (.double (FP.i2d z3)), (.double (FP.i2d z4)), (.double (0 : UInt64)), (.double (0 : UInt64)), (.double (0 : UInt64)), (.double (0 : UInt64))]) :: []) := H28
    refine own_dup K own_d7_124 rfl ?_
    refine own_iconst K own_d7_125 (v := (5 : Int32)) rfl ?_
    refine own_lload K own_d7_126 rfl ?_
    refine own_iconst K own_d7_128 (v := (5 : Int32)) rfl ?_
    refine own_static K own_d7_129 (own_w1 hw) (own_w2 hw) (own_w3 hw) (own_w4 hw) (argsL := [(.long sd), (.int (5 : Int32))]) (rest := [(.int (5 : Int32)), (.ref a3), (.ref a3)]) (own_v hw) own_pd1 rfl rfl rfl (by decide) (W := 3) (Nat.le_of_eq rfl) (by decide) (by decide) (by decide) (by decide) ?_
    intro v31 h29 q30
    obtain ⟨⟨z5, rfl⟩, rfl⟩ := q30
    refine own_dastore K own_d7_132 H28 (i := 0) rfl (q := 5) (by decide) (own_le rfl) ?_
    intro h32 H33
    replace H33 : own_H Z h32 ([]) ((a3, .double, "[D", [(.double (FP.i2d z0)), (.double (FP.i2d z1)), (.double (FP.i2d z2)), (.double (FP.i2d z3)), (.double (FP.i2d z4)), (.double (FP.i2d z5)), (.double (0 : UInt64)), (.double (0 : UInt64)), (.double (0 : UInt64))]) :: []) := H33
    refine own_dup K own_d7_133 rfl ?_
    refine own_bipush K own_d7_134 (v := (6 : Int32)) rfl ?_
    refine own_lload K own_d7_136 rfl ?_
    refine own_bipush K own_d7_138 (v := (6 : Int32)) rfl ?_
    refine own_static K own_d7_140 (own_w1 hw) (own_w2 hw) (own_w3 hw) (own_w4 hw) (argsL := [(.long sd), (.int (6 : Int32))]) (rest := [(.int (6 : Int32)), (.ref a3), (.ref a3)]) (own_v hw) own_pd1 rfl rfl rfl (by decide) (W := 3) (Nat.le_of_eq rfl) (by decide) (by decide) (by decide) (by decide) ?_
    intro v36 h34 q35
    obtain ⟨⟨z6, rfl⟩, rfl⟩ := q35
    refine own_dastore K own_d7_143 H33 (i := 0) rfl (q := 6) (by decide) (own_le rfl) ?_
    intro h37 H38
    replace H38 : own_H Z h37 ([]) ((a3, .double, "[D", [(.double (FP.i2d z0)), (.double (FP.i2d z1)), (.double (FP.i2d z2)), (.double (FP.i2d z3)), (.double (FP.i2d z4)), (.double (FP.i2d z5)), (.double (FP.i2d z6)), (.double (0 : UInt64)), (.double (0 : UInt64))]) :: []) := H38
    refine own_dup K own_d7_144 rfl ?_
    refine own_bipush K own_d7_145 (v := (7 : Int32)) rfl ?_
    refine own_lload K own_d7_147 rfl ?_
    refine own_bipush K own_d7_149 (v := (7 : Int32)) rfl ?_
    refine own_static K own_d7_151 (own_w1 hw) (own_w2 hw) (own_w3 hw) (own_w4 hw) (argsL := [(.long sd), (.int (7 : Int32))]) (rest := [(.int (7 : Int32)), (.ref a3), (.ref a3)]) (own_v hw) own_pd1 rfl rfl rfl (by decide) (W := 3) (Nat.le_of_eq rfl) (by decide) (by decide) (by decide) (by decide) ?_
    intro v41 h39 q40
    obtain ⟨⟨z7, rfl⟩, rfl⟩ := q40
    refine own_dastore K own_d7_154 H38 (i := 0) rfl (q := 7) (by decide) (own_le rfl) ?_
    intro h42 H43
    replace H43 : own_H Z h42 ([]) ((a3, .double, "[D", [(.double (FP.i2d z0)), (.double (FP.i2d z1)), (.double (FP.i2d z2)), (.double (FP.i2d z3)), (.double (FP.i2d z4)), (.double (FP.i2d z5)), (.double (FP.i2d z6)), (.double (FP.i2d z7)), (.double (0 : UInt64))]) :: []) := H43
    refine own_dup K own_d7_155 rfl ?_
    refine own_bipush K own_d7_156 (v := (8 : Int32)) rfl ?_
    refine own_lload K own_d7_158 rfl ?_
    refine own_bipush K own_d7_160 (v := (8 : Int32)) rfl ?_
    refine own_static K own_d7_162 (own_w1 hw) (own_w2 hw) (own_w3 hw) (own_w4 hw) (argsL := [(.long sd), (.int (8 : Int32))]) (rest := [(.int (8 : Int32)), (.ref a3), (.ref a3)]) (own_v hw) own_pd1 rfl rfl rfl (by decide) (W := 3) (Nat.le_of_eq rfl) (by decide) (by decide) (by decide) (by decide) ?_
    intro v46 h44 q45
    obtain ⟨⟨z8, rfl⟩, rfl⟩ := q45
    refine own_dastore K own_d7_165 H43 (i := 0) rfl (q := 8) (by decide) (own_le rfl) ?_
    intro h47 H48
    replace H48 : own_H Z h47 ([]) ((a3, .double, "[D", [(.double (FP.i2d z0)), (.double (FP.i2d z1)), (.double (FP.i2d z2)), (.double (FP.i2d z3)), (.double (FP.i2d z4)), (.double (FP.i2d z5)), (.double (FP.i2d z6)), (.double (FP.i2d z7)), (.double (FP.i2d z8))]) :: []) := H48
    refine own_astore K own_d7_166 rfl (Ls' := #[.val (.int sh), .val (.int ki), .val (.int rp), .val (.int cp), .val (.int cp2), .val (.long sd), .second, .val (.int nr), .val (.int nc), .val (.int (2 : Int32)), .val (.int cn), .val (.int (1 : Int32)), .val (.int (0 : Int32)), .val (.ref a3), .unset, .unset, .unset]) rfl ?_
    refine own_iconst K own_d7_168 (v := (4 : Int32)) rfl ?_
    refine own_newarray K own_d7_169 (ty := .int) rfl (own_w6 hw) H48 (q := 4) (by decide) (ad := "[I") (by decide +kernel) (vs := [(.int (0 : Int32)), (.int (0 : Int32)), (.int (0 : Int32)), (.int (0 : Int32))]) rfl (by decide) (by decide) (by decide) ?_
    intro h49 a51 H50
    replace H50 : own_H Z h49 ([]) ((a51, .int, "[I", [(.int (0 : Int32)), (.int (0 : Int32)), (.int (0 : Int32)), (.int (0 : Int32))]) :: (a3, .double, "[D", [(.double (FP.i2d z0)), (.double (FP.i2d z1)), (.double (FP.i2d z2)), (.double (FP.i2d z3)), (.double (FP.i2d z4)), (.double (FP.i2d z5)), (.double (FP.i2d z6)), (.double (FP.i2d z7)), (.double (FP.i2d z8))]) :: []) := H50
    refine own_dup K own_d7_171 rfl ?_
    refine own_iconst K own_d7_172 (v := (0 : Int32)) rfl ?_
    refine own_iloadN K own_d7_173 rfl ?_
    refine own_iconst K own_d7_174 (v := (0 : Int32)) rfl ?_
    refine own_iload K own_d7_175 rfl ?_
    refine own_static K own_d7_177 (own_w7 hw) (own_w8 hw) (own_w3 hw) (own_w9 hw) (argsL := [(.int rp), (.int (0 : Int32)), (.int nr)]) (rest := [(.int (0 : Int32)), (.ref a51), (.ref a51)]) (own_pick hw (by omega)) own_pd2 rfl rfl rfl (by decide) (W := 3) (Nat.le_of_eq rfl) (by decide) (by decide) (by decide) (by decide) ?_
    intro v54 h52 q53
    obtain ⟨⟨r0, rfl, r0_0, r0_1⟩, rfl⟩ := q53
    refine own_iastore K own_d7_180 H50 (i := 0) rfl (q := 0) (by decide) (own_le rfl) ?_
    intro h55 H56
    replace H56 : own_H Z h55 ([]) ((a51, .int, "[I", [(.int r0), (.int (0 : Int32)), (.int (0 : Int32)), (.int (0 : Int32))]) :: (a3, .double, "[D", [(.double (FP.i2d z0)), (.double (FP.i2d z1)), (.double (FP.i2d z2)), (.double (FP.i2d z3)), (.double (FP.i2d z4)), (.double (FP.i2d z5)), (.double (FP.i2d z6)), (.double (FP.i2d z7)), (.double (FP.i2d z8))]) :: []) := H56
    refine own_dup K own_d7_181 rfl ?_
    refine own_iconst K own_d7_182 (v := (1 : Int32)) rfl ?_
    refine own_iloadN K own_d7_183 rfl ?_
    refine own_iconst K own_d7_184 (v := (1 : Int32)) rfl ?_
    refine own_iload K own_d7_185 rfl ?_
    refine own_static K own_d7_187 (own_w7 hw) (own_w8 hw) (own_w3 hw) (own_w9 hw) (argsL := [(.int rp), (.int (1 : Int32)), (.int nr)]) (rest := [(.int (1 : Int32)), (.ref a51), (.ref a51)]) (own_pick hw (by omega)) own_pd2 rfl rfl rfl (by decide) (W := 3) (Nat.le_of_eq rfl) (by decide) (by decide) (by decide) (by decide) ?_
    intro v59 h57 q58
    obtain ⟨⟨r1, rfl, r1_0, r1_1⟩, rfl⟩ := q58
    refine own_iastore K own_d7_190 H56 (i := 0) rfl (q := 1) (by decide) (own_le rfl) ?_
    intro h60 H61
    replace H61 : own_H Z h60 ([]) ((a51, .int, "[I", [(.int r0), (.int r1), (.int (0 : Int32)), (.int (0 : Int32))]) :: (a3, .double, "[D", [(.double (FP.i2d z0)), (.double (FP.i2d z1)), (.double (FP.i2d z2)), (.double (FP.i2d z3)), (.double (FP.i2d z4)), (.double (FP.i2d z5)), (.double (FP.i2d z6)), (.double (FP.i2d z7)), (.double (FP.i2d z8))]) :: []) := H61
    refine own_dup K own_d7_191 rfl ?_
    refine own_iconst K own_d7_192 (v := (2 : Int32)) rfl ?_
    refine own_iloadN K own_d7_193 rfl ?_
    refine own_iconst K own_d7_194 (v := (2 : Int32)) rfl ?_
    refine own_iload K own_d7_195 rfl ?_
    refine own_static K own_d7_197 (own_w7 hw) (own_w8 hw) (own_w3 hw) (own_w9 hw) (argsL := [(.int rp), (.int (2 : Int32)), (.int nr)]) (rest := [(.int (2 : Int32)), (.ref a51), (.ref a51)]) (own_pick hw (by omega)) own_pd2 rfl rfl rfl (by decide) (W := 3) (Nat.le_of_eq rfl) (by decide) (by decide) (by decide) (by decide) ?_
    intro v64 h62 q63
    obtain ⟨⟨r2, rfl, r2_0, r2_1⟩, rfl⟩ := q63
    refine own_iastore K own_d7_200 H61 (i := 0) rfl (q := 2) (by decide) (own_le rfl) ?_
    intro h65 H66
    replace H66 : own_H Z h65 ([]) ((a51, .int, "[I", [(.int r0), (.int r1), (.int r2), (.int (0 : Int32))]) :: (a3, .double, "[D", [(.double (FP.i2d z0)), (.double (FP.i2d z1)), (.double (FP.i2d z2)), (.double (FP.i2d z3)), (.double (FP.i2d z4)), (.double (FP.i2d z5)), (.double (FP.i2d z6)), (.double (FP.i2d z7)), (.double (FP.i2d z8))]) :: []) := H66
    refine own_dup K own_d7_201 rfl ?_
    refine own_iconst K own_d7_202 (v := (3 : Int32)) rfl ?_
    refine own_iloadN K own_d7_203 rfl ?_
    refine own_iconst K own_d7_204 (v := (3 : Int32)) rfl ?_
    refine own_iload K own_d7_205 rfl ?_
    refine own_static K own_d7_207 (own_w7 hw) (own_w8 hw) (own_w3 hw) (own_w9 hw) (argsL := [(.int rp), (.int (3 : Int32)), (.int nr)]) (rest := [(.int (3 : Int32)), (.ref a51), (.ref a51)]) (own_pick hw (by omega)) own_pd2 rfl rfl rfl (by decide) (W := 3) (Nat.le_of_eq rfl) (by decide) (by decide) (by decide) (by decide) ?_
    intro v69 h67 q68
    obtain ⟨⟨r3, rfl, r3_0, r3_1⟩, rfl⟩ := q68
    refine own_iastore K own_d7_210 H66 (i := 0) rfl (q := 3) (by decide) (own_le rfl) ?_
    intro h70 H71
    replace H71 : own_H Z h70 ([]) ((a51, .int, "[I", [(.int r0), (.int r1), (.int r2), (.int r3)]) :: (a3, .double, "[D", [(.double (FP.i2d z0)), (.double (FP.i2d z1)), (.double (FP.i2d z2)), (.double (FP.i2d z3)), (.double (FP.i2d z4)), (.double (FP.i2d z5)), (.double (FP.i2d z6)), (.double (FP.i2d z7)), (.double (FP.i2d z8))]) :: []) := H71
    refine own_astore K own_d7_211 rfl (Ls' := #[.val (.int sh), .val (.int ki), .val (.int rp), .val (.int cp), .val (.int cp2), .val (.long sd), .second, .val (.int nr), .val (.int nc), .val (.int (2 : Int32)), .val (.int cn), .val (.int (1 : Int32)), .val (.int (0 : Int32)), .val (.ref a3), .val (.ref a51), .unset, .unset]) rfl ?_
    refine own_iconst K own_d7_213 (v := (4 : Int32)) rfl ?_
    refine own_newarray K own_d7_214 (ty := .int) rfl (own_w6 hw) H71 (q := 4) (by decide) (ad := "[I") (by decide +kernel) (vs := [(.int (0 : Int32)), (.int (0 : Int32)), (.int (0 : Int32)), (.int (0 : Int32))]) rfl (by decide) (by decide) (by decide) ?_
    intro h72 a74 H73
    replace H73 : own_H Z h72 ([]) ((a74, .int, "[I", [(.int (0 : Int32)), (.int (0 : Int32)), (.int (0 : Int32)), (.int (0 : Int32))]) :: (a51, .int, "[I", [(.int r0), (.int r1), (.int r2), (.int r3)]) :: (a3, .double, "[D", [(.double (FP.i2d z0)), (.double (FP.i2d z1)), (.double (FP.i2d z2)), (.double (FP.i2d z3)), (.double (FP.i2d z4)), (.double (FP.i2d z5)), (.double (FP.i2d z6)), (.double (FP.i2d z7)), (.double (FP.i2d z8))]) :: []) := H73
    refine own_dup K own_d7_216 rfl ?_
    refine own_iconst K own_d7_217 (v := (0 : Int32)) rfl ?_
    refine own_iloadN K own_d7_218 rfl ?_
    refine own_iconst K own_d7_219 (v := (0 : Int32)) rfl ?_
    refine own_iload K own_d7_220 rfl ?_
    refine own_static K own_d7_222 (own_w7 hw) (own_w8 hw) (own_w3 hw) (own_w9 hw) (argsL := [(.int cp), (.int (0 : Int32)), (.int nc)]) (rest := [(.int (0 : Int32)), (.ref a74), (.ref a74)]) (own_pick hw (by omega)) own_pd2 rfl rfl rfl (by decide) (W := 3) (Nat.le_of_eq rfl) (by decide) (by decide) (by decide) (by decide) ?_
    intro v77 h75 q76
    obtain ⟨⟨c0, rfl, c0_0, c0_1⟩, rfl⟩ := q76
    refine own_iastore K own_d7_225 H73 (i := 0) rfl (q := 0) (by decide) (own_le rfl) ?_
    intro h78 H79
    replace H79 : own_H Z h78 ([]) ((a74, .int, "[I", [(.int c0), (.int (0 : Int32)), (.int (0 : Int32)), (.int (0 : Int32))]) :: (a51, .int, "[I", [(.int r0), (.int r1), (.int r2), (.int r3)]) :: (a3, .double, "[D", [(.double (FP.i2d z0)), (.double (FP.i2d z1)), (.double (FP.i2d z2)), (.double (FP.i2d z3)), (.double (FP.i2d z4)), (.double (FP.i2d z5)), (.double (FP.i2d z6)), (.double (FP.i2d z7)), (.double (FP.i2d z8))]) :: []) := H79
    refine own_dup K own_d7_226 rfl ?_
    refine own_iconst K own_d7_227 (v := (1 : Int32)) rfl ?_
    refine own_iloadN K own_d7_228 rfl ?_
    refine own_iconst K own_d7_229 (v := (1 : Int32)) rfl ?_
    refine own_iload K own_d7_230 rfl ?_
    refine own_static K own_d7_232 (own_w7 hw) (own_w8 hw) (own_w3 hw) (own_w9 hw) (argsL := [(.int cp), (.int (1 : Int32)), (.int nc)]) (rest := [(.int (1 : Int32)), (.ref a74), (.ref a74)]) (own_pick hw (by omega)) own_pd2 rfl rfl rfl (by decide) (W := 3) (Nat.le_of_eq rfl) (by decide) (by decide) (by decide) (by decide) ?_
    intro v82 h80 q81
    obtain ⟨⟨c1, rfl, c1_0, c1_1⟩, rfl⟩ := q81
    refine own_iastore K own_d7_235 H79 (i := 0) rfl (q := 1) (by decide) (own_le rfl) ?_
    intro h83 H84
    replace H84 : own_H Z h83 ([]) ((a74, .int, "[I", [(.int c0), (.int c1), (.int (0 : Int32)), (.int (0 : Int32))]) :: (a51, .int, "[I", [(.int r0), (.int r1), (.int r2), (.int r3)]) :: (a3, .double, "[D", [(.double (FP.i2d z0)), (.double (FP.i2d z1)), (.double (FP.i2d z2)), (.double (FP.i2d z3)), (.double (FP.i2d z4)), (.double (FP.i2d z5)), (.double (FP.i2d z6)), (.double (FP.i2d z7)), (.double (FP.i2d z8))]) :: []) := H84
    refine own_dup K own_d7_236 rfl ?_
    refine own_iconst K own_d7_237 (v := (2 : Int32)) rfl ?_
    refine own_iloadN K own_d7_238 rfl ?_
    refine own_iconst K own_d7_239 (v := (2 : Int32)) rfl ?_
    refine own_iload K own_d7_240 rfl ?_
    refine own_static K own_d7_242 (own_w7 hw) (own_w8 hw) (own_w3 hw) (own_w9 hw) (argsL := [(.int cp), (.int (2 : Int32)), (.int nc)]) (rest := [(.int (2 : Int32)), (.ref a74), (.ref a74)]) (own_pick hw (by omega)) own_pd2 rfl rfl rfl (by decide) (W := 3) (Nat.le_of_eq rfl) (by decide) (by decide) (by decide) (by decide) ?_
    intro v87 h85 q86
    obtain ⟨⟨c2, rfl, c2_0, c2_1⟩, rfl⟩ := q86
    refine own_iastore K own_d7_245 H84 (i := 0) rfl (q := 2) (by decide) (own_le rfl) ?_
    intro h88 H89
    replace H89 : own_H Z h88 ([]) ((a74, .int, "[I", [(.int c0), (.int c1), (.int c2), (.int (0 : Int32))]) :: (a51, .int, "[I", [(.int r0), (.int r1), (.int r2), (.int r3)]) :: (a3, .double, "[D", [(.double (FP.i2d z0)), (.double (FP.i2d z1)), (.double (FP.i2d z2)), (.double (FP.i2d z3)), (.double (FP.i2d z4)), (.double (FP.i2d z5)), (.double (FP.i2d z6)), (.double (FP.i2d z7)), (.double (FP.i2d z8))]) :: []) := H89
    refine own_dup K own_d7_246 rfl ?_
    refine own_iconst K own_d7_247 (v := (3 : Int32)) rfl ?_
    refine own_iloadN K own_d7_248 rfl ?_
    refine own_iconst K own_d7_249 (v := (3 : Int32)) rfl ?_
    refine own_iload K own_d7_250 rfl ?_
    refine own_static K own_d7_252 (own_w7 hw) (own_w8 hw) (own_w3 hw) (own_w9 hw) (argsL := [(.int cp), (.int (3 : Int32)), (.int nc)]) (rest := [(.int (3 : Int32)), (.ref a74), (.ref a74)]) (own_pick hw (by omega)) own_pd2 rfl rfl rfl (by decide) (W := 3) (Nat.le_of_eq rfl) (by decide) (by decide) (by decide) (by decide) ?_
    intro v92 h90 q91
    obtain ⟨⟨c3, rfl, c3_0, c3_1⟩, rfl⟩ := q91
    refine own_iastore K own_d7_255 H89 (i := 0) rfl (q := 3) (by decide) (own_le rfl) ?_
    intro h93 H94
    replace H94 : own_H Z h93 ([]) ((a74, .int, "[I", [(.int c0), (.int c1), (.int c2), (.int c3)]) :: (a51, .int, "[I", [(.int r0), (.int r1), (.int r2), (.int r3)]) :: (a3, .double, "[D", [(.double (FP.i2d z0)), (.double (FP.i2d z1)), (.double (FP.i2d z2)), (.double (FP.i2d z3)), (.double (FP.i2d z4)), (.double (FP.i2d z5)), (.double (FP.i2d z6)), (.double (FP.i2d z7)), (.double (FP.i2d z8))]) :: []) := H94
    refine own_astore K own_d7_256 rfl (Ls' := #[.val (.int sh), .val (.int ki), .val (.int rp), .val (.int cp), .val (.int cp2), .val (.long sd), .second, .val (.int nr), .val (.int nc), .val (.int (2 : Int32)), .val (.int cn), .val (.int (1 : Int32)), .val (.int (0 : Int32)), .val (.ref a3), .val (.ref a51), .val (.ref a74), .unset]) rfl ?_
    refine own_iconst K own_d7_258 (v := (5 : Int32)) rfl ?_
    refine own_newarray K own_d7_259 (ty := .double) rfl (own_w0 hw) H94 (q := 5) (by decide) (ad := "[D") (by decide +kernel) (vs := [(.double (0 : UInt64)), (.double (0 : UInt64)), (.double (0 : UInt64)), (.double (0 : UInt64)), (.double (0 : UInt64))]) rfl (by decide) (by decide) (by decide) ?_
    intro h95 a97 H96
    replace H96 : own_H Z h95 ([]) ((a97, .double, "[D", [(.double (0 : UInt64)), (.double (0 : UInt64)), (.double (0 : UInt64)), (.double (0 : UInt64)), (.double (0 : UInt64))]) :: (a74, .int, "[I", [(.int c0), (.int c1), (.int c2), (.int c3)]) :: (a51, .int, "[I", [(.int r0), (.int r1), (.int r2), (.int r3)]) :: (a3, .double, "[D", [(.double (FP.i2d z0)), (.double (FP.i2d z1)), (.double (FP.i2d z2)), (.double (FP.i2d z3)), (.double (FP.i2d z4)), (.double (FP.i2d z5)), (.double (FP.i2d z6)), (.double (FP.i2d z7)), (.double (FP.i2d z8))]) :: []) := H96
    refine own_dup K own_d7_261 rfl ?_
    refine own_iconst K own_d7_262 (v := (0 : Int32)) rfl ?_
    refine own_ldc2D K own_d7_263 (own_w10 hw) ?_
    refine own_dastore K own_d7_266 H96 (i := 0) rfl (q := 0) (by decide) (own_le rfl) ?_
    intro h98 H99
    replace H99 : own_H Z h98 ([]) ((a97, .double, "[D", [(.double (4696837146684686336 : UInt64)), (.double (0 : UInt64)), (.double (0 : UInt64)), (.double (0 : UInt64)), (.double (0 : UInt64))]) :: (a74, .int, "[I", [(.int c0), (.int c1), (.int c2), (.int c3)]) :: (a51, .int, "[I", [(.int r0), (.int r1), (.int r2), (.int r3)]) :: (a3, .double, "[D", [(.double (FP.i2d z0)), (.double (FP.i2d z1)), (.double (FP.i2d z2)), (.double (FP.i2d z3)), (.double (FP.i2d z4)), (.double (FP.i2d z5)), (.double (FP.i2d z6)), (.double (FP.i2d z7)), (.double (FP.i2d z8))]) :: []) := H99
    refine own_dup K own_d7_267 rfl ?_
    refine own_iconst K own_d7_268 (v := (1 : Int32)) rfl ?_
    refine own_ldc2D K own_d7_269 (own_w10 hw) ?_
    refine own_dastore K own_d7_272 H99 (i := 0) rfl (q := 1) (by decide) (own_le rfl) ?_
    intro h100 H101
    replace H101 : own_H Z h100 ([]) ((a97, .double, "[D", [(.double (4696837146684686336 : UInt64)), (.double (4696837146684686336 : UInt64)), (.double (0 : UInt64)), (.double (0 : UInt64)), (.double (0 : UInt64))]) :: (a74, .int, "[I", [(.int c0), (.int c1), (.int c2), (.int c3)]) :: (a51, .int, "[I", [(.int r0), (.int r1), (.int r2), (.int r3)]) :: (a3, .double, "[D", [(.double (FP.i2d z0)), (.double (FP.i2d z1)), (.double (FP.i2d z2)), (.double (FP.i2d z3)), (.double (FP.i2d z4)), (.double (FP.i2d z5)), (.double (FP.i2d z6)), (.double (FP.i2d z7)), (.double (FP.i2d z8))]) :: []) := H101
    refine own_dup K own_d7_273 rfl ?_
    refine own_iconst K own_d7_274 (v := (2 : Int32)) rfl ?_
    refine own_ldc2D K own_d7_275 (own_w10 hw) ?_
    refine own_dastore K own_d7_278 H101 (i := 0) rfl (q := 2) (by decide) (own_le rfl) ?_
    intro h102 H103
    replace H103 : own_H Z h102 ([]) ((a97, .double, "[D", [(.double (4696837146684686336 : UInt64)), (.double (4696837146684686336 : UInt64)), (.double (4696837146684686336 : UInt64)), (.double (0 : UInt64)), (.double (0 : UInt64))]) :: (a74, .int, "[I", [(.int c0), (.int c1), (.int c2), (.int c3)]) :: (a51, .int, "[I", [(.int r0), (.int r1), (.int r2), (.int r3)]) :: (a3, .double, "[D", [(.double (FP.i2d z0)), (.double (FP.i2d z1)), (.double (FP.i2d z2)), (.double (FP.i2d z3)), (.double (FP.i2d z4)), (.double (FP.i2d z5)), (.double (FP.i2d z6)), (.double (FP.i2d z7)), (.double (FP.i2d z8))]) :: []) := H103
    refine own_dup K own_d7_279 rfl ?_
    refine own_iconst K own_d7_280 (v := (3 : Int32)) rfl ?_
    refine own_ldc2D K own_d7_281 (own_w10 hw) ?_
    refine own_dastore K own_d7_284 H103 (i := 0) rfl (q := 3) (by decide) (own_le rfl) ?_
    intro h104 H105
    replace H105 : own_H Z h104 ([]) ((a97, .double, "[D", [(.double (4696837146684686336 : UInt64)), (.double (4696837146684686336 : UInt64)), (.double (4696837146684686336 : UInt64)), (.double (4696837146684686336 : UInt64)), (.double (0 : UInt64))]) :: (a74, .int, "[I", [(.int c0), (.int c1), (.int c2), (.int c3)]) :: (a51, .int, "[I", [(.int r0), (.int r1), (.int r2), (.int r3)]) :: (a3, .double, "[D", [(.double (FP.i2d z0)), (.double (FP.i2d z1)), (.double (FP.i2d z2)), (.double (FP.i2d z3)), (.double (FP.i2d z4)), (.double (FP.i2d z5)), (.double (FP.i2d z6)), (.double (FP.i2d z7)), (.double (FP.i2d z8))]) :: []) := H105
    refine own_dup K own_d7_285 rfl ?_
    refine own_iconst K own_d7_286 (v := (4 : Int32)) rfl ?_
    refine own_ldc2D K own_d7_287 (own_w10 hw) ?_
    refine own_dastore K own_d7_290 H105 (i := 0) rfl (q := 4) (by decide) (own_le rfl) ?_
    intro h106 H107
    replace H107 : own_H Z h106 ([]) ((a97, .double, "[D", [(.double (4696837146684686336 : UInt64)), (.double (4696837146684686336 : UInt64)), (.double (4696837146684686336 : UInt64)), (.double (4696837146684686336 : UInt64)), (.double (4696837146684686336 : UInt64))]) :: (a74, .int, "[I", [(.int c0), (.int c1), (.int c2), (.int c3)]) :: (a51, .int, "[I", [(.int r0), (.int r1), (.int r2), (.int r3)]) :: (a3, .double, "[D", [(.double (FP.i2d z0)), (.double (FP.i2d z1)), (.double (FP.i2d z2)), (.double (FP.i2d z3)), (.double (FP.i2d z4)), (.double (FP.i2d z5)), (.double (FP.i2d z6)), (.double (FP.i2d z7)), (.double (FP.i2d z8))]) :: []) := H107
    refine own_astore K own_d7_291 rfl (Ls' := #[.val (.int sh), .val (.int ki), .val (.int rp), .val (.int cp), .val (.int cp2), .val (.long sd), .second, .val (.int nr), .val (.int nc), .val (.int (2 : Int32)), .val (.int cn), .val (.int (1 : Int32)), .val (.int (0 : Int32)), .val (.ref a3), .val (.ref a51), .val (.ref a74), .val (.ref a97)]) rfl ?_
    refine own_new K own_d7_293 (own_w11 hw) (own_w12 hw) (own_w13 hw) H107 (own_OP_F hw) (own_OP_P hw) (by decide) (by decide) ?_
    intro h108 a110 H109
    replace H109 : own_H Z h108 (own_OP a110 .null (.int (0 : Int32)) (.int (0 : Int32)) :: []) ((a97, .double, "[D", [(.double (4696837146684686336 : UInt64)), (.double (4696837146684686336 : UInt64)), (.double (4696837146684686336 : UInt64)), (.double (4696837146684686336 : UInt64)), (.double (4696837146684686336 : UInt64))]) :: (a74, .int, "[I", [(.int c0), (.int c1), (.int c2), (.int c3)]) :: (a51, .int, "[I", [(.int r0), (.int r1), (.int r2), (.int r3)]) :: (a3, .double, "[D", [(.double (FP.i2d z0)), (.double (FP.i2d z1)), (.double (FP.i2d z2)), (.double (FP.i2d z3)), (.double (FP.i2d z4)), (.double (FP.i2d z5)), (.double (FP.i2d z6)), (.double (FP.i2d z7)), (.double (FP.i2d z8))]) :: []) := H109
    refine own_dup K own_d7_296 rfl ?_
    refine own_aload K own_d7_297 rfl rfl ?_
    refine own_iload K own_d7_299 rfl ?_
    refine own_iload K own_d7_301 rfl ?_
    refine own_special K own_d7_303 rfl (own_w14 hw) (own_w15 hw) (own_w13 hw) (own_w16 hw) (a := a110) (argsL := [(.ref a3), (.int (1 : Int32)), (.int (0 : Int32))]) (rest := [(.ref a110)]) (own_init hw H109) own_pd3 rfl rfl rfl (by decide) (W := 1) (Nat.le_of_eq rfl) (by decide) (by decide) (by decide) (by decide) ?_
    intro v113 h111 q112
    obtain ⟨rfl, H114⟩ := q112
    replace H114 : own_H Z h111 (own_OP a110 (.ref a3) (.int (1 : Int32)) (.int (0 : Int32)) :: []) ((a97, .double, "[D", [(.double (4696837146684686336 : UInt64)), (.double (4696837146684686336 : UInt64)), (.double (4696837146684686336 : UInt64)), (.double (4696837146684686336 : UInt64)), (.double (4696837146684686336 : UInt64))]) :: (a74, .int, "[I", [(.int c0), (.int c1), (.int c2), (.int c3)]) :: (a51, .int, "[I", [(.int r0), (.int r1), (.int r2), (.int r3)]) :: (a3, .double, "[D", [(.double (FP.i2d z0)), (.double (FP.i2d z1)), (.double (FP.i2d z2)), (.double (FP.i2d z3)), (.double (FP.i2d z4)), (.double (FP.i2d z5)), (.double (FP.i2d z6)), (.double (FP.i2d z7)), (.double (FP.i2d z8))]) :: []) := H114
    refine own_aload K own_d7_306 rfl rfl ?_
    refine own_aload K own_d7_308 rfl rfl ?_
    refine own_iload K own_d7_310 rfl ?_
    refine own_aload K own_d7_312 rfl rfl ?_
    obtain ⟨vs, evs⟩ : ∃ z : List Value, z = [(.double (FP.i2d z0)), (.double (FP.i2d z1)), (.double (FP.i2d z2)), (.double (FP.i2d z3)), (.double (FP.i2d z4)), (.double (FP.i2d z5)), (.double (FP.i2d z6)), (.double (FP.i2d z7)), (.double (FP.i2d z8))] := ⟨_, rfl⟩
    have hvl : vs.length = 9 := by rw [evs]; rfl
    have hall : ∀ q : Nat, q < 9 → ∃ d : UInt64, vs[q]? = some (.double d) ∧ Fl.NoNaN64 d := by rw [evs]; exact own_nine
    obtain ⟨q0, hq0, hl0⟩ : ∃ q : Nat, (r0 * (1 : Int32) + c0 * (0 : Int32)).toInt = (q : Int) ∧ q < 9 := own_ix2 r0_0 r0_1 c0_0 c0_1 nr_0.2 nc_0
    obtain ⟨d0, hd0, hn0⟩ := hall q0 hl0
    obtain ⟨q1, hq1, hl1⟩ : ∃ q : Nat, (r1 * (1 : Int32) + c1 * (0 : Int32)).toInt = (q : Int) ∧ q < 9 := own_ix2 r1_0 r1_1 c1_0 c1_1 nr_0.2 nc_0
    obtain ⟨d1, hd1, hn1⟩ := hall q1 hl1
    obtain ⟨q2, hq2, hl2⟩ : ∃ q : Nat, (r2 * (1 : Int32) + c2 * (0 : Int32)).toInt = (q : Int) ∧ q < 9 := own_ix2 r2_0 r2_1 c2_0 c2_1 nr_0.2 nc_0
    obtain ⟨d2, hd2, hn2⟩ := hall q2 hl2
    obtain ⟨q3, hq3, hl3⟩ : ∃ q : Nat, (r3 * (1 : Int32) + c3 * (0 : Int32)).toInt = (q : Int) ∧ q < 9 := own_ix2 r3_0 r3_1 c3_0 c3_1 nr_0.2 nc_0
    obtain ⟨d3, hd3, hn3⟩ := hall q3 hl3
    have H115 := H114
    rw [← evs] at H115
    replace H115 : own_H Z h111 (own_OP a110 (.ref a3) (.int (1 : Int32)) (.int (0 : Int32)) :: []) ((a97, .double, "[D", [(.double (4696837146684686336 : UInt64)), (.double (4696837146684686336 : UInt64)), (.double (4696837146684686336 : UInt64)), (.double (4696837146684686336 : UInt64)), (.double (4696837146684686336 : UInt64))]) :: (a74, .int, "[I", [(.int c0), (.int c1), (.int c2), (.int c3)]) :: (a51, .int, "[I", [(.int r0), (.int r1), (.int r2), (.int r3)]) :: (a3, .double, "[D", vs) :: []) := H115
    have H116 := H115.frontA 3 rfl
    replace H116 : own_H Z h111 (own_OP a110 (.ref a3) (.int (1 : Int32)) (.int (0 : Int32)) :: []) ((a3, .double, "[D", vs) :: (a97, .double, "[D", [(.double (4696837146684686336 : UInt64)), (.double (4696837146684686336 : UInt64)), (.double (4696837146684686336 : UInt64)), (.double (4696837146684686336 : UInt64)), (.double (4696837146684686336 : UInt64))]) :: (a74, .int, "[I", [(.int c0), (.int c1), (.int c2), (.int c3)]) :: (a51, .int, "[I", [(.int r0), (.int r1), (.int r2), (.int r3)]) :: []) := H116
    have H117 := H116.frontA 1 rfl
    replace H117 : own_H Z h111 (own_OP a110 (.ref a3) (.int (1 : Int32)) (.int (0 : Int32)) :: []) ((a97, .double, "[D", [(.double (4696837146684686336 : UInt64)), (.double (4696837146684686336 : UInt64)), (.double (4696837146684686336 : UInt64)), (.double (4696837146684686336 : UInt64)), (.double (4696837146684686336 : UInt64))]) :: (a3, .double, "[D", vs) :: (a74, .int, "[I", [(.int c0), (.int c1), (.int c2), (.int c3)]) :: (a51, .int, "[I", [(.int r0), (.int r1), (.int r2), (.int r3)]) :: []) := H117
    have H118 := H117.frontA 2 rfl
    replace H118 : own_H Z h111 (own_OP a110 (.ref a3) (.int (1 : Int32)) (.int (0 : Int32)) :: []) ((a74, .int, "[I", [(.int c0), (.int c1), (.int c2), (.int c3)]) :: (a97, .double, "[D", [(.double (4696837146684686336 : UInt64)), (.double (4696837146684686336 : UInt64)), (.double (4696837146684686336 : UInt64)), (.double (4696837146684686336 : UInt64)), (.double (4696837146684686336 : UInt64))]) :: (a3, .double, "[D", vs) :: (a51, .int, "[I", [(.int r0), (.int r1), (.int r2), (.int r3)]) :: []) := H118
    have H119 := H118.frontA 3 rfl
    replace H119 : own_H Z h111 (own_OP a110 (.ref a3) (.int (1 : Int32)) (.int (0 : Int32)) :: []) ((a51, .int, "[I", [(.int r0), (.int r1), (.int r2), (.int r3)]) :: (a74, .int, "[I", [(.int c0), (.int c1), (.int c2), (.int c3)]) :: (a97, .double, "[D", [(.double (4696837146684686336 : UInt64)), (.double (4696837146684686336 : UInt64)), (.double (4696837146684686336 : UInt64)), (.double (4696837146684686336 : UInt64)), (.double (4696837146684686336 : UInt64))]) :: (a3, .double, "[D", vs) :: []) := H119
    refine own_virtual K own_d7_314 (own_w31 hw) (own_w32 hw) (own_w34 hw) (own_w33 hw) (own_w13 hw) (own_w35 hw) (H119.atO (i := 0) rfl) (a := a110) (argsL := [(.ref a51), (.ref a74), (.int cn), (.ref a97)]) (rest := []) (own_gather hw cn_0.1 cn_0.2 H119 hq0 hd0 hq1 hd1 hq2 hd2 hq3 hd3) own_pd4 rfl rfl rfl (by decide) (W := 0) (Nat.le_of_eq rfl) (by decide) (by decide) (by decide) (by decide) ?_
    intro v122 h120 q121
    obtain ⟨rfl, H123⟩ := q121
    replace H123 : own_H Z h120 (own_OP a110 (.ref a3) (.int (1 : Int32)) (.int (0 : Int32)) :: []) ((a51, .int, "[I", [(.int r0), (.int r1), (.int r2), (.int r3)]) :: (a74, .int, "[I", [(.int c0), (.int c1), (.int c2), (.int c3)]) :: (a97, .double, "[D", [(.double (if 0 < cn.toInt then d0 else (4696837146684686336 : UInt64))), (.double (if 1 < cn.toInt then d1 else (4696837146684686336 : UInt64))), (.double (if 2 < cn.toInt then d2 else (4696837146684686336 : UInt64))), (.double (if 3 < cn.toInt then d3 else (4696837146684686336 : UInt64))), (.double (4696837146684686336 : UInt64))]) :: (a3, .double, "[D", vs) :: []) := H123
    refine own_aload K own_d7_317 rfl rfl ?_
    refine own_iconst K own_d7_319 (v := (0 : Int32)) rfl ?_
    refine own_iload K own_d7_320 rfl ?_
    refine own_iload K own_d7_322 rfl ?_
    refine own_iload K own_d7_324 rfl ?_
    refine own_aload K own_d7_326 rfl rfl ?_
    refine own_aload K own_d7_328 rfl rfl ?_
    refine own_iconst K own_d7_330 (v := (0 : Int32)) rfl ?_
    refine own_iaload K own_d7_331 H123 (i := 0) rfl (q := 0) (by decide) (rfl) ?_
    refine own_aload K own_d7_332 rfl rfl ?_
    refine own_iconst K own_d7_334 (v := (0 : Int32)) rfl ?_
    refine own_iaload K own_d7_335 H123 (i := 1) rfl (q := 0) (by decide) (rfl) ?_
    have H124 := H123.frontA 3 rfl
    replace H124 : own_H Z h120 (own_OP a110 (.ref a3) (.int (1 : Int32)) (.int (0 : Int32)) :: []) ((a3, .double, "[D", vs) :: (a51, .int, "[I", [(.int r0), (.int r1), (.int r2), (.int r3)]) :: (a74, .int, "[I", [(.int c0), (.int c1), (.int c2), (.int c3)]) :: (a97, .double, "[D", [(.double (if 0 < cn.toInt then d0 else (4696837146684686336 : UInt64))), (.double (if 1 < cn.toInt then d1 else (4696837146684686336 : UInt64))), (.double (if 2 < cn.toInt then d2 else (4696837146684686336 : UInt64))), (.double (if 3 < cn.toInt then d3 else (4696837146684686336 : UInt64))), (.double (4696837146684686336 : UInt64))]) :: []) := H124
    refine own_static K own_d7_336 (own_w36 hw) (own_w37 hw) (own_w3 hw) (own_w38 hw) (argsL := [(.int (2 : Int32)), (.int nc), (.ref a3), (.int r0), (.int c0)]) (rest := [(.int cn), (.int (0 : Int32)), (.ref a97)]) (own_want2 hw H124 (q := q0) (by rw [← hq0, own_k2]) hd0) own_pd5 rfl rfl rfl (by decide) (W := 3) (Nat.le_of_eq rfl) (by decide) (by decide) (by decide) (by decide) ?_
    intro v127 h125 q126
    obtain ⟨rfl, rfl⟩ := q126
    have H128 := H124.frontA 3 rfl
    replace H128 : own_H Z h120 (own_OP a110 (.ref a3) (.int (1 : Int32)) (.int (0 : Int32)) :: []) ((a97, .double, "[D", [(.double (if 0 < cn.toInt then d0 else (4696837146684686336 : UInt64))), (.double (if 1 < cn.toInt then d1 else (4696837146684686336 : UInt64))), (.double (if 2 < cn.toInt then d2 else (4696837146684686336 : UInt64))), (.double (if 3 < cn.toInt then d3 else (4696837146684686336 : UInt64))), (.double (4696837146684686336 : UInt64))]) :: (a3, .double, "[D", vs) :: (a51, .int, "[I", [(.int r0), (.int r1), (.int r2), (.int r3)]) :: (a74, .int, "[I", [(.int c0), (.int c1), (.int c2), (.int c3)]) :: []) := H128
    refine own_static K own_d7_339 (own_w39 hw) (own_w40 hw) (own_w3 hw) (own_w41 hw) (argsL := [(.ref a97), (.int (0 : Int32)), (.int cn), (.double d0)]) (rest := []) (own_ok hw H128 (i := 0) rfl rfl (by rw [show (0 : Int32).toInt = 0 from rfl]) (by split <;> first | exact hn0 | decide)) own_pd6 rfl rfl rfl (by decide) (W := 0) (Nat.le_of_eq rfl) (by decide) (by decide) (by decide) (by decide) ?_
    intro v131 h129 q130
    obtain ⟨rfl, rfl⟩ := q130
    refine own_ifeq K own_d7_342 (fun q => absurd q (by decide)) (fun _ => ?_)
    refine own_aload K own_d7_345 rfl rfl ?_
    refine own_iconst K own_d7_347 (v := (1 : Int32)) rfl ?_
    refine own_iload K own_d7_348 rfl ?_
    refine own_iload K own_d7_350 rfl ?_
    refine own_iload K own_d7_352 rfl ?_
    refine own_aload K own_d7_354 rfl rfl ?_
    refine own_aload K own_d7_356 rfl rfl ?_
    refine own_iconst K own_d7_358 (v := (1 : Int32)) rfl ?_
    refine own_iaload K own_d7_359 H128 (i := 2) rfl (q := 1) (by decide) (rfl) ?_
    refine own_aload K own_d7_360 rfl rfl ?_
    refine own_iconst K own_d7_362 (v := (1 : Int32)) rfl ?_
    refine own_iaload K own_d7_363 H128 (i := 3) rfl (q := 1) (by decide) (rfl) ?_
    have H132 := H128.frontA 1 rfl
    replace H132 : own_H Z h120 (own_OP a110 (.ref a3) (.int (1 : Int32)) (.int (0 : Int32)) :: []) ((a3, .double, "[D", vs) :: (a97, .double, "[D", [(.double (if 0 < cn.toInt then d0 else (4696837146684686336 : UInt64))), (.double (if 1 < cn.toInt then d1 else (4696837146684686336 : UInt64))), (.double (if 2 < cn.toInt then d2 else (4696837146684686336 : UInt64))), (.double (if 3 < cn.toInt then d3 else (4696837146684686336 : UInt64))), (.double (4696837146684686336 : UInt64))]) :: (a51, .int, "[I", [(.int r0), (.int r1), (.int r2), (.int r3)]) :: (a74, .int, "[I", [(.int c0), (.int c1), (.int c2), (.int c3)]) :: []) := H132
    refine own_static K own_d7_364 (own_w36 hw) (own_w37 hw) (own_w3 hw) (own_w38 hw) (argsL := [(.int (2 : Int32)), (.int nc), (.ref a3), (.int r1), (.int c1)]) (rest := [(.int cn), (.int (1 : Int32)), (.ref a97)]) (own_want2 hw H132 (q := q1) (by rw [← hq1, own_k2]) hd1) own_pd5 rfl rfl rfl (by decide) (W := 3) (Nat.le_of_eq rfl) (by decide) (by decide) (by decide) (by decide) ?_
    intro v135 h133 q134
    obtain ⟨rfl, rfl⟩ := q134
    have H136 := H132.frontA 1 rfl
    replace H136 : own_H Z h120 (own_OP a110 (.ref a3) (.int (1 : Int32)) (.int (0 : Int32)) :: []) ((a97, .double, "[D", [(.double (if 0 < cn.toInt then d0 else (4696837146684686336 : UInt64))), (.double (if 1 < cn.toInt then d1 else (4696837146684686336 : UInt64))), (.double (if 2 < cn.toInt then d2 else (4696837146684686336 : UInt64))), (.double (if 3 < cn.toInt then d3 else (4696837146684686336 : UInt64))), (.double (4696837146684686336 : UInt64))]) :: (a3, .double, "[D", vs) :: (a51, .int, "[I", [(.int r0), (.int r1), (.int r2), (.int r3)]) :: (a74, .int, "[I", [(.int c0), (.int c1), (.int c2), (.int c3)]) :: []) := H136
    refine own_static K own_d7_367 (own_w39 hw) (own_w40 hw) (own_w3 hw) (own_w41 hw) (argsL := [(.ref a97), (.int (1 : Int32)), (.int cn), (.double d1)]) (rest := []) (own_ok hw H136 (i := 1) rfl rfl (by rw [show (1 : Int32).toInt = 1 from rfl]) (by split <;> first | exact hn1 | decide)) own_pd6 rfl rfl rfl (by decide) (W := 0) (Nat.le_of_eq rfl) (by decide) (by decide) (by decide) (by decide) ?_
    intro v139 h137 q138
    obtain ⟨rfl, rfl⟩ := q138
    refine own_ifeq K own_d7_370 (fun q => absurd q (by decide)) (fun _ => ?_)
    refine own_aload K own_d7_373 rfl rfl ?_
    refine own_iconst K own_d7_375 (v := (2 : Int32)) rfl ?_
    refine own_iload K own_d7_376 rfl ?_
    refine own_iload K own_d7_378 rfl ?_
    refine own_iload K own_d7_380 rfl ?_
    refine own_aload K own_d7_382 rfl rfl ?_
    refine own_aload K own_d7_384 rfl rfl ?_
    refine own_iconst K own_d7_386 (v := (2 : Int32)) rfl ?_
    refine own_iaload K own_d7_387 H136 (i := 2) rfl (q := 2) (by decide) (rfl) ?_
    refine own_aload K own_d7_388 rfl rfl ?_
    refine own_iconst K own_d7_390 (v := (2 : Int32)) rfl ?_
    refine own_iaload K own_d7_391 H136 (i := 3) rfl (q := 2) (by decide) (rfl) ?_
    have H140 := H136.frontA 1 rfl
    replace H140 : own_H Z h120 (own_OP a110 (.ref a3) (.int (1 : Int32)) (.int (0 : Int32)) :: []) ((a3, .double, "[D", vs) :: (a97, .double, "[D", [(.double (if 0 < cn.toInt then d0 else (4696837146684686336 : UInt64))), (.double (if 1 < cn.toInt then d1 else (4696837146684686336 : UInt64))), (.double (if 2 < cn.toInt then d2 else (4696837146684686336 : UInt64))), (.double (if 3 < cn.toInt then d3 else (4696837146684686336 : UInt64))), (.double (4696837146684686336 : UInt64))]) :: (a51, .int, "[I", [(.int r0), (.int r1), (.int r2), (.int r3)]) :: (a74, .int, "[I", [(.int c0), (.int c1), (.int c2), (.int c3)]) :: []) := H140
    refine own_static K own_d7_392 (own_w36 hw) (own_w37 hw) (own_w3 hw) (own_w38 hw) (argsL := [(.int (2 : Int32)), (.int nc), (.ref a3), (.int r2), (.int c2)]) (rest := [(.int cn), (.int (2 : Int32)), (.ref a97)]) (own_want2 hw H140 (q := q2) (by rw [← hq2, own_k2]) hd2) own_pd5 rfl rfl rfl (by decide) (W := 3) (Nat.le_of_eq rfl) (by decide) (by decide) (by decide) (by decide) ?_
    intro v143 h141 q142
    obtain ⟨rfl, rfl⟩ := q142
    have H144 := H140.frontA 1 rfl
    replace H144 : own_H Z h120 (own_OP a110 (.ref a3) (.int (1 : Int32)) (.int (0 : Int32)) :: []) ((a97, .double, "[D", [(.double (if 0 < cn.toInt then d0 else (4696837146684686336 : UInt64))), (.double (if 1 < cn.toInt then d1 else (4696837146684686336 : UInt64))), (.double (if 2 < cn.toInt then d2 else (4696837146684686336 : UInt64))), (.double (if 3 < cn.toInt then d3 else (4696837146684686336 : UInt64))), (.double (4696837146684686336 : UInt64))]) :: (a3, .double, "[D", vs) :: (a51, .int, "[I", [(.int r0), (.int r1), (.int r2), (.int r3)]) :: (a74, .int, "[I", [(.int c0), (.int c1), (.int c2), (.int c3)]) :: []) := H144
    refine own_static K own_d7_395 (own_w39 hw) (own_w40 hw) (own_w3 hw) (own_w41 hw) (argsL := [(.ref a97), (.int (2 : Int32)), (.int cn), (.double d2)]) (rest := []) (own_ok hw H144 (i := 2) rfl rfl (by rw [show (2 : Int32).toInt = 2 from rfl]) (by split <;> first | exact hn2 | decide)) own_pd6 rfl rfl rfl (by decide) (W := 0) (Nat.le_of_eq rfl) (by decide) (by decide) (by decide) (by decide) ?_
    intro v147 h145 q146
    obtain ⟨rfl, rfl⟩ := q146
    refine own_ifeq K own_d7_398 (fun q => absurd q (by decide)) (fun _ => ?_)
    refine own_aload K own_d7_401 rfl rfl ?_
    refine own_iconst K own_d7_403 (v := (3 : Int32)) rfl ?_
    refine own_iload K own_d7_404 rfl ?_
    refine own_iload K own_d7_406 rfl ?_
    refine own_iload K own_d7_408 rfl ?_
    refine own_aload K own_d7_410 rfl rfl ?_
    refine own_aload K own_d7_412 rfl rfl ?_
    refine own_iconst K own_d7_414 (v := (3 : Int32)) rfl ?_
    refine own_iaload K own_d7_415 H144 (i := 2) rfl (q := 3) (by decide) (rfl) ?_
    refine own_aload K own_d7_416 rfl rfl ?_
    refine own_iconst K own_d7_418 (v := (3 : Int32)) rfl ?_
    refine own_iaload K own_d7_419 H144 (i := 3) rfl (q := 3) (by decide) (rfl) ?_
    have H148 := H144.frontA 1 rfl
    replace H148 : own_H Z h120 (own_OP a110 (.ref a3) (.int (1 : Int32)) (.int (0 : Int32)) :: []) ((a3, .double, "[D", vs) :: (a97, .double, "[D", [(.double (if 0 < cn.toInt then d0 else (4696837146684686336 : UInt64))), (.double (if 1 < cn.toInt then d1 else (4696837146684686336 : UInt64))), (.double (if 2 < cn.toInt then d2 else (4696837146684686336 : UInt64))), (.double (if 3 < cn.toInt then d3 else (4696837146684686336 : UInt64))), (.double (4696837146684686336 : UInt64))]) :: (a51, .int, "[I", [(.int r0), (.int r1), (.int r2), (.int r3)]) :: (a74, .int, "[I", [(.int c0), (.int c1), (.int c2), (.int c3)]) :: []) := H148
    refine own_static K own_d7_420 (own_w36 hw) (own_w37 hw) (own_w3 hw) (own_w38 hw) (argsL := [(.int (2 : Int32)), (.int nc), (.ref a3), (.int r3), (.int c3)]) (rest := [(.int cn), (.int (3 : Int32)), (.ref a97)]) (own_want2 hw H148 (q := q3) (by rw [← hq3, own_k2]) hd3) own_pd5 rfl rfl rfl (by decide) (W := 3) (Nat.le_of_eq rfl) (by decide) (by decide) (by decide) (by decide) ?_
    intro v151 h149 q150
    obtain ⟨rfl, rfl⟩ := q150
    have H152 := H148.frontA 1 rfl
    replace H152 : own_H Z h120 (own_OP a110 (.ref a3) (.int (1 : Int32)) (.int (0 : Int32)) :: []) ((a97, .double, "[D", [(.double (if 0 < cn.toInt then d0 else (4696837146684686336 : UInt64))), (.double (if 1 < cn.toInt then d1 else (4696837146684686336 : UInt64))), (.double (if 2 < cn.toInt then d2 else (4696837146684686336 : UInt64))), (.double (if 3 < cn.toInt then d3 else (4696837146684686336 : UInt64))), (.double (4696837146684686336 : UInt64))]) :: (a3, .double, "[D", vs) :: (a51, .int, "[I", [(.int r0), (.int r1), (.int r2), (.int r3)]) :: (a74, .int, "[I", [(.int c0), (.int c1), (.int c2), (.int c3)]) :: []) := H152
    refine own_static K own_d7_423 (own_w39 hw) (own_w40 hw) (own_w3 hw) (own_w41 hw) (argsL := [(.ref a97), (.int (3 : Int32)), (.int cn), (.double d3)]) (rest := []) (own_ok hw H152 (i := 3) rfl rfl (by rw [show (3 : Int32).toInt = 3 from rfl]) (by split <;> first | exact hn3 | decide)) own_pd6 rfl rfl rfl (by decide) (W := 0) (Nat.le_of_eq rfl) (by decide) (by decide) (by decide) (by decide) ?_
    intro v155 h153 q154
    obtain ⟨rfl, rfl⟩ := q154
    refine own_ifeq K own_d7_426 (fun q => absurd q (by decide)) (fun _ => ?_)
    refine own_aload K own_d7_429 rfl rfl ?_
    refine own_iconst K own_d7_431 (v := (4 : Int32)) rfl ?_
    refine own_daload K own_d7_432 H152 (i := 0) rfl (q := 4) (by decide) (rfl) ?_
    refine own_ldc2D K own_d7_433 (own_w10 hw) ?_
    refine own_dcmp K own_d7_436 ?_
    refine own_topI (x' := (0 : Int32)) (by decide +kernel) ?_
    refine own_ifne K own_d7_437 (fun q => absurd q (by decide)) (fun _ => ?_)
    refine own_iconst K own_d7_440 (v := (1 : Int32)) rfl ?_
    refine own_goto K own_d7_441 ?_
    exact own_retZ K (by first | exact Or.inl rfl | exact Or.inr rfl | decide) own_d7_445 (by decide) (by decide) (rfl)
  · refine own_iloadN K own_d7_0 rfl ?_
    refine own_iconst K own_d7_1 (v := (3 : Int32)) rfl ?_
    refine own_iand K own_d7_2 ?_
    refine own_iconst K own_d7_3 (v := (3 : Int32)) rfl ?_
    refine own_irem K own_d7_4 (by decide) ?_
    refine own_iconst K own_d7_5 (v := (1 : Int32)) rfl ?_
    refine own_iadd K own_d7_6 ?_
    obtain ⟨nr, e_nr⟩ : ∃ z, z = (((sh &&& (3 : Int32)) % (3 : Int32)) + (1 : Int32)) := ⟨_, rfl⟩
    have nr_0 : 1 ≤ nr.toInt ∧ nr.toInt ≤ 3 := by rw [e_nr]; exact own_dim _
    refine own_topI (x' := nr) (e_nr.symm) ?_
    refine own_istore K own_d7_7 (Ls' := #[.val (.int sh), .val (.int ki), .val (.int rp), .val (.int cp), .val (.int cp2), .val (.long sd), .second, .val (.int nr), .unset, .unset, .unset, .unset, .unset, .unset, .unset, .unset, .unset]) rfl ?_
    refine own_iloadN K own_d7_9 rfl ?_
    refine own_iconst K own_d7_10 (v := (2 : Int32)) rfl ?_
    refine own_iushr K own_d7_11 ?_
    refine own_iconst K own_d7_12 (v := (3 : Int32)) rfl ?_
    refine own_iand K own_d7_13 ?_
    refine own_iconst K own_d7_14 (v := (3 : Int32)) rfl ?_
    refine own_irem K own_d7_15 (by decide) ?_
    refine own_iconst K own_d7_16 (v := (1 : Int32)) rfl ?_
    refine own_iadd K own_d7_17 ?_
    obtain ⟨nc, e_nc⟩ : ∃ z, z = ((((XT.ushr sh (2 : Int32)) &&& (3 : Int32)) % (3 : Int32)) + (1 : Int32)) := ⟨_, rfl⟩
    have nc_0 : 1 ≤ nc.toInt ∧ nc.toInt ≤ 3 := by rw [e_nc]; exact own_dim _
    refine own_topI (x' := nc) (e_nc.symm) ?_
    refine own_istore K own_d7_18 (Ls' := #[.val (.int sh), .val (.int ki), .val (.int rp), .val (.int cp), .val (.int cp2), .val (.long sd), .second, .val (.int nr), .val (.int nc), .unset, .unset, .unset, .unset, .unset, .unset, .unset, .unset]) rfl ?_
    refine own_iloadN K own_d7_20 rfl ?_
    refine own_iconst K own_d7_21 (v := (3 : Int32)) rfl ?_
    refine own_iand K own_d7_22 ?_
    refine own_topI (x' := (3 : Int32)) (q) ?_
    refine own_istore K own_d7_23 (Ls' := #[.val (.int sh), .val (.int ki), .val (.int rp), .val (.int cp), .val (.int cp2), .val (.long sd), .second, .val (.int nr), .val (.int nc), .val (.int (3 : Int32)), .unset, .unset, .unset, .unset, .unset, .unset, .unset]) rfl ?_
    refine own_iload K own_d7_25 rfl ?_
    refine own_bipush K own_d7_27 (v := (7 : Int32)) rfl ?_
    refine own_iand K own_d7_29 ?_
    refine own_iconst K own_d7_30 (v := (5 : Int32)) rfl ?_
    refine own_irem K own_d7_31 (by decide) ?_
    obtain ⟨cn, e_cn⟩ : ∃ z, z = ((cp2 &&& (7 : Int32)) % (5 : Int32)) := ⟨_, rfl⟩
    have cn_0 : 0 ≤ cn.toInt ∧ cn.toInt ≤ 4 := by rw [e_cn]; exact own_cnt _
    refine own_topI (x' := cn) (e_cn.symm) ?_
    refine own_istore K own_d7_32 (Ls' := #[.val (.int sh), .val (.int ki), .val (.int rp), .val (.int cp), .val (.int cp2), .val (.long sd), .second, .val (.int nr), .val (.int nc), .val (.int (3 : Int32)), .val (.int cn), .unset, .unset, .unset, .unset, .unset, .unset]) rfl ?_
    refine own_iload K own_d7_34 rfl ?_
    refine own_ifne K own_d7_36 (fun _ => ?_) (fun q => absurd (by decide) q)
    refine own_iload K own_d7_44 rfl ?_
    refine own_iconst K own_d7_46 (v := (2 : Int32)) rfl ?_
    refine own_icmpne K own_d7_47 (fun _ => ?_) (fun q => absurd (by decide) q)
    refine own_iconst K own_d7_54 (v := (0 : Int32)) rfl ?_
    refine own_istore K own_d7_55 (Ls' := #[.val (.int sh), .val (.int ki), .val (.int rp), .val (.int cp), .val (.int cp2), .val (.long sd), .second, .val (.int nr), .val (.int nc), .val (.int (3 : Int32)), .val (.int cn), .val (.int (0 : Int32)), .unset, .unset, .unset, .unset, .unset]) rfl ?_
    refine own_iload K own_d7_57 rfl ?_
    refine own_ifeq K own_d7_59 (fun q => absurd q (by decide)) (fun _ => ?_)
    refine own_iload K own_d7_62 rfl ?_
    refine own_iconst K own_d7_64 (v := (1 : Int32)) rfl ?_
    refine own_icmpne K own_d7_65 (fun _ => ?_) (fun q => absurd (by decide) q)
    refine own_iconst K own_d7_72 (v := (0 : Int32)) rfl ?_
    refine own_istore K own_d7_73 (Ls' := #[.val (.int sh), .val (.int ki), .val (.int rp), .val (.int cp), .val (.int cp2), .val (.long sd), .second, .val (.int nr), .val (.int nc), .val (.int (3 : Int32)), .val (.int cn), .val (.int (0 : Int32)), .val (.int (0 : Int32)), .unset, .unset, .unset, .unset]) rfl ?_
    refine own_bipush K own_d7_75 (v := (9 : Int32)) rfl ?_
    refine own_newarray K own_d7_77 (ty := .double) rfl (own_w0 hw) H (q := 9) (by decide) (ad := "[D") (by decide +kernel) (vs := [(.double (0 : UInt64)), (.double (0 : UInt64)), (.double (0 : UInt64)), (.double (0 : UInt64)), (.double (0 : UInt64)), (.double (0 : UInt64)), (.double (0 : UInt64)), (.double (0 : UInt64)), (.double (0 : UInt64))]) rfl (by decide) (by decide) (by decide) ?_
    intro h1 a3 H2
    replace H2 : own_H Z h1 ([]) ((a3, .double, "[D", [(.double (0 : UInt64)), (.double (0 : UInt64)), (.double (0 : UInt64)), (.double (0 : UInt64)), (.double (0 : UInt64)), (.double (0 : UInt64)), (.double (0 : UInt64)), (.double (0 : UInt64)), (.double (0 : UInt64))]) :: []) := H2
    refine own_dup K own_d7_79 rfl ?_
    refine own_iconst K own_d7_80 (v := (0 : Int32)) rfl ?_
    refine own_lload K own_d7_81 rfl ?_
    refine own_iconst K own_d7_83 (v := (0 : Int32)) rfl ?_
    refine own_static K own_d7_84 (own_w1 hw) (own_w2 hw) (own_w3 hw) (own_w4 hw) (argsL := [(.long sd), (.int (0 : Int32))]) (rest := [(.int (0 : Int32)), (.ref a3), (.ref a3)]) (own_v hw) own_pd1 rfl rfl rfl (by decide) (W := 3) (Nat.le_of_eq rfl) (by decide) (by decide) (by decide) (by decide) ?_
    intro v6 h4 q5
    obtain ⟨⟨z0, rfl⟩, rfl⟩ := q5
    refine own_dastore K own_d7_87 H2 (i := 0) rfl (q := 0) (by decide) (own_le rfl) ?_
    intro h7 H8
    replace H8 : own_H Z h7 ([]) ((a3, .double, "[D", [(.double (FP.i2d z0)), (.double (0 : UInt64)), (.double (0 : UInt64)), (.double (0 : UInt64)), (.double (0 : UInt64)), (.double (0 : UInt64)), (.double (0 : UInt64)), (.double (0 : UInt64)), (.double (0 : UInt64))]) :: []) := H8
    refine own_dup K own_d7_88 rfl ?_
    refine own_iconst K own_d7_89 (v := (1 : Int32)) rfl ?_
    refine own_lload K own_d7_90 rfl ?_
    refine own_iconst K own_d7_92 (v := (1 : Int32)) rfl ?_
    refine own_static K own_d7_93 (own_w1 hw) (own_w2 hw) (own_w3 hw) (own_w4 hw) (argsL := [(.long sd), (.int (1 : Int32))]) (rest := [(.int (1 : Int32)), (.ref a3), (.ref a3)]) (own_v hw) own_pd1 rfl rfl rfl (by decide) (W := 3) (Nat.le_of_eq rfl) (by decide) (by decide) (by decide) (by decide) ?_
    intro v11 h9 q10
    obtain ⟨⟨z1, rfl⟩, rfl⟩ := q10
    refine own_dastore K own_d7_96 H8 (i := 0) rfl (q := 1) (by decide) (own_le rfl) ?_
    intro h12 H13
    replace H13 : own_H Z h12 ([]) ((a3, .double, "[D", [(.double (FP.i2d z0)), (.double (FP.i2d z1)), (.double (0 : UInt64)), (.double (0 : UInt64)), (.double (0 : UInt64)), (.double (0 : UInt64)), (.double (0 : UInt64)), (.double (0 : UInt64)), (.double (0 : UInt64))]) :: []) := H13
    refine own_dup K own_d7_97 rfl ?_
    refine own_iconst K own_d7_98 (v := (2 : Int32)) rfl ?_
    refine own_lload K own_d7_99 rfl ?_
    refine own_iconst K own_d7_101 (v := (2 : Int32)) rfl ?_
    refine own_static K own_d7_102 (own_w1 hw) (own_w2 hw) (own_w3 hw) (own_w4 hw) (argsL := [(.long sd), (.int (2 : Int32))]) (rest := [(.int (2 : Int32)), (.ref a3), (.ref a3)]) (own_v hw) own_pd1 rfl rfl rfl (by decide) (W := 3) (Nat.le_of_eq rfl) (by decide) (by decide) (by decide) (by decide) ?_
    intro v16 h14 q15
    obtain ⟨⟨z2, rfl⟩, rfl⟩ := q15
    refine own_dastore K own_d7_105 H13 (i := 0) rfl (q := 2) (by decide) (own_le rfl) ?_
    intro h17 H18
    replace H18 : own_H Z h17 ([]) ((a3, .double, "[D", [(.double (FP.i2d z0)), (.double (FP.i2d z1)), (.double (FP.i2d z2)), (.double (0 : UInt64)), (.double (0 : UInt64)), (.double (0 : UInt64)), (.double (0 : UInt64)), (.double (0 : UInt64)), (.double (0 : UInt64))]) :: []) := H18
    refine own_dup K own_d7_106 rfl ?_
    refine own_iconst K own_d7_107 (v := (3 : Int32)) rfl ?_
    refine own_lload K own_d7_108 rfl ?_
    refine own_iconst K own_d7_110 (v := (3 : Int32)) rfl ?_
    refine own_static K own_d7_111 (own_w1 hw) (own_w2 hw) (own_w3 hw) (own_w4 hw) (argsL := [(.long sd), (.int (3 : Int32))]) (rest := [(.int (3 : Int32)), (.ref a3), (.ref a3)]) (own_v hw) own_pd1 rfl rfl rfl (by decide) (W := 3) (Nat.le_of_eq rfl) (by decide) (by decide) (by decide) (by decide) ?_
    intro v21 h19 q20
    obtain ⟨⟨z3, rfl⟩, rfl⟩ := q20
    refine own_dastore K own_d7_114 H18 (i := 0) rfl (q := 3) (by decide) (own_le rfl) ?_
    intro h22 H23
    replace H23 : own_H Z h22 ([]) ((a3, .double, "[D", [(.double (FP.i2d z0)), (.double (FP.i2d z1)), (.double (FP.i2d z2)), (.double (FP.i2d z3)), (.double (0 : UInt64)), (.double (0 : UInt64)), (.double (0 : UInt64)), (.double (0 : UInt64)), (.double (0 : UInt64))]) :: []) := H23
    refine own_dup K own_d7_115 rfl ?_
    refine own_iconst K own_d7_116 (v := (4 : Int32)) rfl ?_
    refine own_lload K own_d7_117 rfl ?_
    refine own_iconst K own_d7_119 (v := (4 : Int32)) rfl ?_
    refine own_static K own_d7_120 (own_w1 hw) (own_w2 hw) (own_w3 hw) (own_w4 hw) (argsL := [(.long sd), (.int (4 : Int32))]) (rest := [(.int (4 : Int32)), (.ref a3), (.ref a3)]) (own_v hw) own_pd1 rfl rfl rfl (by decide) (W := 3) (Nat.le_of_eq rfl) (by decide) (by decide) (by decide) (by decide) ?_
    intro v26 h24 q25
    obtain ⟨⟨z4, rfl⟩, rfl⟩ := q25
    refine own_dastore K own_d7_123 H23 (i := 0) rfl (q := 4) (by decide) (own_le rfl) ?_
    intro h27 H28
    replace H28 : own_H Z h27 ([]) ((a3, .double, "[D", [(.double (FP.i2d z0)), (.double (FP.i2d z1)), (.double (FP.i2d z2)), (.double (FP.i2d z3)), (.double (FP.i2d z4)), (.double (0 : UInt64)), (.double (0 : UInt64)), (.double (0 : UInt64)), (.double (0 : UInt64))]) :: []) := H28
    refine own_dup K own_d7_124 rfl ?_
    refine own_iconst K own_d7_125 (v := (5 : Int32)) rfl ?_
    refine own_lload K own_d7_126 rfl ?_
    refine own_iconst K own_d7_128 (v := (5 : Int32)) rfl ?_
    refine own_static K own_d7_129 (own_w1 hw) (own_w2 hw) (own_w3 hw) (own_w4 hw) (argsL := [(.long sd), (.int (5 : Int32))]) (rest := [(.int (5 : Int32)), (.ref a3), (.ref a3)]) (own_v hw) own_pd1 rfl rfl rfl (by decide) (W := 3) (Nat.le_of_eq rfl) (by decide) (by decide) (by decide) (by decide) ?_
    intro v31 h29 q30
    obtain ⟨⟨z5, rfl⟩, rfl⟩ := q30
    refine own_dastore K own_d7_132 H28 (i := 0) rfl (q := 5) (by decide) (own_le rfl) ?_
    intro h32 H33
    replace H33 : own_H Z h32 ([]) ((a3, .double, "[D", [(.double (FP.i2d z0)), (.double (FP.i2d z1)), (.double (FP.i2d z2)), (.double (FP.i2d z3)), (.double (FP.i2d z4)), (.double (FP.i2d z5)), (.double (0 : UInt64)), (.double (0 : UInt64)), (.double (0 : UInt64))]) :: []) := H33
    refine own_dup K own_d7_133 rfl ?_
    refine own_bipush K own_d7_134 (v := (6 : Int32)) rfl ?_
    refine own_lload K own_d7_136 rfl ?_
    refine own_bipush K own_d7_138 (v := (6 : Int32)) rfl ?_
    refine own_static K own_d7_140 (own_w1 hw) (own_w2 hw) (own_w3 hw) (own_w4 hw) (argsL := [(.long sd), (.int (6 : Int32))]) (rest := [(.int (6 : Int32)), (.ref a3), (.ref a3)]) (own_v hw) own_pd1 rfl rfl rfl (by decide) (W := 3) (Nat.le_of_eq rfl) (by decide) (by decide) (by decide) (by decide) ?_
    intro v36 h34 q35
    obtain ⟨⟨z6, rfl⟩, rfl⟩ := q35
    refine own_dastore K own_d7_143 H33 (i := 0) rfl (q := 6) (by decide) (own_le rfl) ?_
    intro h37 H38
    replace H38 : own_H Z h37 ([]) ((a3, .double, "[D", [(.double (FP.i2d z0)), (.double (FP.i2d z1)), (.double (FP.i2d z2)), (.double (FP.i2d z3)), (.double (FP.i2d z4)), (.double (FP.i2d z5)), (.double (FP.i2d z6)), (.double (0 : UInt64)), (.double (0 : UInt64))]) :: []) := H38
    refine own_dup K own_d7_144 rfl ?_
    refine own_bipush K own_d7_145 (v := (7 : Int32)) rfl ?_
    refine own_lload K own_d7_147 rfl ?_
    refine own_bipush K own_d7_149 (v := (7 : Int32)) rfl ?_
    refine own_static K own_d7_151 (own_w1 hw) (own_w2 hw) (own_w3 hw) (own_w4 hw) (argsL := [(.long sd), (.int (7 : Int32))]) (rest := [(.int (7 : Int32)), (.ref a3), (.ref a3)]) (own_v hw) own_pd1 rfl rfl rfl (by decide) (W := 3) (Nat.le_of_eq rfl) (by decide) (by decide) (by decide) (by decide) ?_
    intro v41 h39 q40
    obtain ⟨⟨z7, rfl⟩, rfl⟩ := q40
    refine own_dastore K own_d7_154 H38 (i := 0) rfl (q := 7) (by decide) (own_le rfl) ?_
    intro h42 H43
    replace H43 : own_H Z h42 ([]) ((a3, .double, "[D", [(.double (FP.i2d z0)), (.double (FP.i2d z1)), (.double (FP.i2d z2)), (.double (FP.i2d z3)), (.double (FP.i2d z4)), (.double (FP.i2d z5)), (.double (FP.i2d z6)), (.double (FP.i2d z7)), (.double (0 : UInt64))]) :: []) := H43
    refine own_dup K own_d7_155 rfl ?_
    refine own_bipush K own_d7_156 (v := (8 : Int32)) rfl ?_
    refine own_lload K own_d7_158 rfl ?_
    refine own_bipush K own_d7_160 (v := (8 : Int32)) rfl ?_
    refine own_static K own_d7_162 (own_w1 hw) (own_w2 hw) (own_w3 hw) (own_w4 hw) (argsL := [(.long sd), (.int (8 : Int32))]) (rest := [(.int (8 : Int32)), (.ref a3), (.ref a3)]) (own_v hw) own_pd1 rfl rfl rfl (by decide) (W := 3) (Nat.le_of_eq rfl) (by decide) (by decide) (by decide) (by decide) ?_
    intro v46 h44 q45
    obtain ⟨⟨z8, rfl⟩, rfl⟩ := q45
    refine own_dastore K own_d7_165 H43 (i := 0) rfl (q := 8) (by decide) (own_le rfl) ?_
    intro h47 H48
    replace H48 : own_H Z h47 ([]) ((a3, .double, "[D", [(.double (FP.i2d z0)), (.double (FP.i2d z1)), (.double (FP.i2d z2)), (.double (FP.i2d z3)), (.double (FP.i2d z4)), (.double (FP.i2d z5)), (.double (FP.i2d z6)), (.double (FP.i2d z7)), (.double (FP.i2d z8))]) :: []) := H48
    refine own_astore K own_d7_166 rfl (Ls' := #[.val (.int sh), .val (.int ki), .val (.int rp), .val (.int cp), .val (.int cp2), .val (.long sd), .second, .val (.int nr), .val (.int nc), .val (.int (3 : Int32)), .val (.int cn), .val (.int (0 : Int32)), .val (.int (0 : Int32)), .val (.ref a3), .unset, .unset, .unset]) rfl ?_
    refine own_iconst K own_d7_168 (v := (4 : Int32)) rfl ?_
    refine own_newarray K own_d7_169 (ty := .int) rfl (own_w6 hw) H48 (q := 4) (by decide) (ad := "[I") (by decide +kernel) (vs := [(.int (0 : Int32)), (.int (0 : Int32)), (.int (0 : Int32)), (.int (0 : Int32))]) rfl (by decide) (by decide) (by decide) ?_
    intro h49 a51 H50
    replace H50 : own_H Z h49 ([]) ((a51, .int, "[I", [(.int (0 : Int32)), (.int (0 : Int32)), (.int (0 : Int32)), (.int (0 : Int32))]) :: (a3, .double, "[D", [(.double (FP.i2d z0)), (.double (FP.i2d z1)), (.double (FP.i2d z2)), (.double (FP.i2d z3)), (.double (FP.i2d z4)), (.double (FP.i2d z5)), (.double (FP.i2d z6)), (.double (FP.i2d z7)), (.double (FP.i2d z8))]) :: []) := H50
    refine own_dup K own_d7_171 rfl ?_
    refine own_iconst K own_d7_172 (v := (0 : Int32)) rfl ?_
    refine own_iloadN K own_d7_173 rfl ?_
    refine own_iconst K own_d7_174 (v := (0 : Int32)) rfl ?_
    refine own_iload K own_d7_175 rfl ?_
    refine own_static K own_d7_177 (own_w7 hw) (own_w8 hw) (own_w3 hw) (own_w9 hw) (argsL := [(.int rp), (.int (0 : Int32)), (.int nr)]) (rest := [(.int (0 : Int32)), (.ref a51), (.ref a51)]) (own_pick hw (by omega)) own_pd2 rfl rfl rfl (by decide) (W := 3) (Nat.le_of_eq rfl) (by decide) (by decide) (by decide) (by decide) ?_
    intro v54 h52 q53
    obtain ⟨⟨r0, rfl, r0_0, r0_1⟩, rfl⟩ := q53
    refine own_iastore K own_d7_180 H50 (i := 0) rfl (q := 0) (by decide) (own_le rfl) ?_
    intro h55 H56
    replace H56 : own_H Z h55 ([]) ((a51, .int, "[I", [(.int r0), (.int (0 : Int32)), (.int (0 : Int32)), (.int (0 : Int32))]) :: (a3, .double, "[D", [(.double (FP.i2d z0)), (.double (FP.i2d z1)), (.double (FP.i2d z2)), (.double (FP.i2d z3)), (.double (FP.i2d z4)), (.double (FP.i2d z5)), (.double (FP.i2d z6)), (.double (FP.i2d z7)), (.double (FP.i2d z8))]) :: []) := H56
    refine own_dup K own_d7_181 rfl ?_
    refine own_iconst K own_d7_182 (v := (1 : Int32)) rfl ?_
    refine own_iloadN K own_d7_183 rfl ?_
    refine own_iconst K own_d7_184 (v := (1 : Int32)) rfl ?_
    refine own_iload K own_d7_185 rfl ?_
    refine own_static K own_d7_187 (own_w7 hw) (own_w8 hw) (own_w3 hw) (own_w9 hw) (argsL := [(.int rp), (.int (1 : Int32)), (.int nr)]) (rest := [(.int (1 : Int32)), (.ref a51), (.ref a51)]) (own_pick hw (by omega)) own_pd2 rfl rfl rfl (by decide) (W := 3) (Nat.le_of_eq rfl) (by decide) (by decide) (by decide) (by decide) ?_
    intro v59 h57 q58
    obtain ⟨⟨r1, rfl, r1_0, r1_1⟩, rfl⟩ := q58
    refine own_iastore K own_d7_190 H56 (i := 0) rfl (q := 1) (by decide) (own_le rfl) ?_
    intro h60 H61
    replace H61 : own_H Z h60 ([]) ((a51, .int, "[I", [(.int r0), (.int r1), (.int (0 : Int32)), (.int (0 : Int32))]) :: (a3, .double, "[D", [(.double (FP.i2d z0)), (.double (FP.i2d z1)), (.double (FP.i2d z2)), (.double (FP.i2d z3)), (.double (FP.i2d z4)), (.double (FP.i2d z5)), (.double (FP.i2d z6)), (.double (FP.i2d z7)), (.double (FP.i2d z8))]) :: []) := H61
    refine own_dup K own_d7_191 rfl ?_
    refine own_iconst K own_d7_192 (v := (2 : Int32)) rfl ?_
    refine own_iloadN K own_d7_193 rfl ?_
    refine own_iconst K own_d7_194 (v := (2 : Int32)) rfl ?_
    refine own_iload K own_d7_195 rfl ?_
    refine own_static K own_d7_197 (own_w7 hw) (own_w8 hw) (own_w3 hw) (own_w9 hw) (argsL := [(.int rp), (.int (2 : Int32)), (.int nr)]) (rest := [(.int (2 : Int32)), (.ref a51), (.ref a51)]) (own_pick hw (by omega)) own_pd2 rfl rfl rfl (by decide) (W := 3) (Nat.le_of_eq rfl) (by decide) (by decide) (by decide) (by decide) ?_
    intro v64 h62 q63
    obtain ⟨⟨r2, rfl, r2_0, r2_1⟩, rfl⟩ := q63
    refine own_iastore K own_d7_200 H61 (i := 0) rfl (q := 2) (by decide) (own_le rfl) ?_
    intro h65 H66
    replace H66 : own_H Z h65 ([]) ((a51, .int, "[I", [(.int r0), (.int r1), (.int r2), (.int (0 : Int32))]) :: (a3, .double, "[D", [(.double (FP.i2d z0)), (.double (FP.i2d z1)), (.double (FP.i2d z2)), (.double (FP.i2d z3)), (.double (FP.i2d z4)), (.double (FP.i2d z5)), (.double (FP.i2d z6)), (.double (FP.i2d z7)), (.double (FP.i2d z8))]) :: []) := H66
    refine own_dup K own_d7_201 rfl ?_
    refine own_iconst K own_d7_202 (v := (3 : Int32)) rfl ?_
    refine own_iloadN K own_d7_203 rfl ?_
    refine own_iconst K own_d7_204 (v := (3 : Int32)) rfl ?_
    refine own_iload K own_d7_205 rfl ?_
    refine own_static K own_d7_207 (own_w7 hw) (own_w8 hw) (own_w3 hw) (own_w9 hw) (argsL := [(.int rp), (.int (3 : Int32)), (.int nr)]) (rest := [(.int (3 : Int32)), (.ref a51), (.ref a51)]) (own_pick hw (by omega)) own_pd2 rfl rfl rfl (by decide) (W := 3) (Nat.le_of_eq rfl) (by decide) (by decide) (by decide) (by decide) ?_
    intro v69 h67 q68
    obtain ⟨⟨r3, rfl, r3_0, r3_1⟩, rfl⟩ := q68
    refine own_iastore K own_d7_210 H66 (i := 0) rfl (q := 3) (by decide) (own_le rfl) ?_
    intro h70 H71
    replace H71 : own_H Z h70 ([]) ((a51, .int, "[I", [(.int r0), (.int r1), (.int r2), (.int r3)]) :: (a3, .double, "[D", [(.double (FP.i2d z0)), (.double (FP.i2d z1)), (.double (FP.i2d z2)), (.double (FP.i2d z3)), (.double (FP.i2d z4)), (.double (FP.i2d z5)), (.double (FP.i2d z6)), (.double (FP.i2d z7)), (.double (FP.i2d z8))]) :: []) := H71
    refine own_astore K own_d7_211 rfl (Ls' := #[.val (.int sh), .val (.int ki), .val (.int rp), .val (.int cp), .val (.int cp2), .val (.long sd), .second, .val (.int nr), .val (.int nc), .val (.int (3 : Int32)), .val (.int cn), .val (.int (0 : Int32)), .val (.int (0 : Int32)), .val (.ref a3), .val (.ref a51), .unset, .unset]) rfl ?_
    refine own_iconst K own_d7_213 (v := (4 : Int32)) rfl ?_
    refine own_newarray K own_d7_214 (ty := .int) rfl (own_w6 hw) H71 (q := 4) (by decide) (ad := "[I") (by decide +kernel) (vs := [(.int (0 : Int32)), (.int (0 : Int32)), (.int (0 : Int32)), (.int (0 : Int32))]) rfl (by decide) (by decide) (by decide) ?_
    intro h72 a74 H73
    replace H73 : own_H Z h72 ([]) ((a74, .int, "[I", [(.int (0 : Int32)), (.int (0 : Int32)), (.int (0 : Int32)), (.int (0 : Int32))]) :: (a51, .int, "[I", [(.int r0), (.int r1), (.int r2), (.int r3)]) :: (a3, .double, "[D", [(.double (FP.i2d z0)), (.double (FP.i2d z1)), (.double (FP.i2d z2)), (.double (FP.i2d z3)), (.double (FP.i2d z4)), (.double (FP.i2d z5)), (.double (FP.i2d z6)), (.double (FP.i2d z7)), (.double (FP.i2d z8))]) :: []) := H73
    refine own_dup K own_d7_216 rfl ?_
    refine own_iconst K own_d7_217 (v := (0 : Int32)) rfl ?_
    refine own_iloadN K own_d7_218 rfl ?_
    refine own_iconst K own_d7_219 (v := (0 : Int32)) rfl ?_
    refine own_iload K own_d7_220 rfl ?_
    refine own_static K own_d7_222 (own_w7 hw) (own_w8 hw) (own_w3 hw) (own_w9 hw) (argsL := [(.int cp), (.int (0 : Int32)), (.int nc)]) (rest := [(.int (0 : Int32)), (.ref a74), (.ref a74)]) (own_pick hw (by omega)) own_pd2 rfl rfl rfl (by decide) (W := 3) (Nat.le_of_eq rfl) (by decide) (by decide) (by decide) (by decide) ?_
    intro v77 h75 q76
    obtain ⟨⟨c0, rfl, c0_0, c0_1⟩, rfl⟩ := q76
    refine own_iastore K own_d7_225 H73 (i := 0) rfl (q := 0) (by decide) (own_le rfl) ?_
    intro h78 H79
    replace H79 : own_H Z h78 ([]) ((a74, .int, "[I", [(.int c0), (.int (0 : Int32)), (.int (0 : Int32)), (.int (0 : Int32))]) :: (a51, .int, "[I", [(.int r0), (.int r1), (.int r2), (.int r3)]) :: (a3, .double, "[D", [(.double (FP.i2d z0)), (.double (FP.i2d z1)), (.double (FP.i2d z2)), (.double (FP.i2d z3)), (.double (FP.i2d z4)), (.double (FP.i2d z5)), (.double (FP.i2d z6)), (.double (FP.i2d z7)), (.double (FP.i2d z8))]) :: []) := H79
    refine own_dup K own_d7_226 rfl ?_
    refine own_iconst K own_d7_227 (v := (1 : Int32)) rfl ?_
    refine own_iloadN K own_d7_228 rfl ?_
    refine own_iconst K own_d7_229 (v := (1 : Int32)) rfl ?_
    refine own_iload K own_d7_230 rfl ?_
    refine own_static K own_d7_232 (own_w7 hw) (own_w8 hw) (own_w3 hw) (own_w9 hw) (argsL := [(.int cp), (.int (1 : Int32)), (.int nc)]) (rest := [(.int (1 : Int32)), (.ref a74), (.ref a74)]) (own_pick hw (by omega)) own_pd2 rfl rfl rfl (by decide) (W := 3) (Nat.le_of_eq rfl) (by decide) (by decide) (by decide) (by decide) ?_
    intro v82 h80 q81
    obtain ⟨⟨c1, rfl, c1_0, c1_1⟩, rfl⟩ := q81
    refine own_iastore K own_d7_235 H79 (i := 0) rfl (q := 1) (by decide) (own_le rfl) ?_
    intro h83 H84
    replace H84 : own_H Z h83 ([]) ((a74, .int, "[I", [(.int c0), (.int c1), (.int (0 : Int32)), (.int (0 : Int32))]) :: (a51, .int, "[I", [(.int r0), (.int r1), (.int r2), (.int r3)]) :: (a3, .double, "[D", [(.double (FP.i2d z0)), (.double (FP.i2d z1)), (.double (FP.i2d z2)), (.double (FP.i2d z3)), (.double (FP.i2d z4)), (.double (FP.i2d z5)), (.double (FP.i2d z6)), (.double (FP.i2d z7)), (.double (FP.i2d z8))]) :: []) := H84
    refine own_dup K own_d7_236 rfl ?_
    refine own_iconst K own_d7_237 (v := (2 : Int32)) rfl ?_
    refine own_iloadN K own_d7_238 rfl ?_
    refine own_iconst K own_d7_239 (v := (2 : Int32)) rfl ?_
    refine own_iload K own_d7_240 rfl ?_
    refine own_static K own_d7_242 (own_w7 hw) (own_w8 hw) (own_w3 hw) (own_w9 hw) (argsL := [(.int cp), (.int (2 : Int32)), (.int nc)]) (rest := [(.int (2 : Int32)), (.ref a74), (.ref a74)]) (own_pick hw (by omega)) own_pd2 rfl rfl rfl (by decide) (W := 3) (Nat.le_of_eq rfl) (by decide) (by decide) (by decide) (by decide) ?_
    intro v87 h85 q86
    obtain ⟨⟨c2, rfl, c2_0, c2_1⟩, rfl⟩ := q86
    refine own_iastore K own_d7_245 H84 (i := 0) rfl (q := 2) (by decide) (own_le rfl) ?_
    intro h88 H89
    replace H89 : own_H Z h88 ([]) ((a74, .int, "[I", [(.int c0), (.int c1), (.int c2), (.int (0 : Int32))]) :: (a51, .int, "[I", [(.int r0), (.int r1), (.int r2), (.int r3)]) :: (a3, .double, "[D", [(.double (FP.i2d z0)), (.double (FP.i2d z1)), (.double (FP.i2d z2)), (.double (FP.i2d z3)), (.double (FP.i2d z4)), (.double (FP.i2d z5)), (.double (FP.i2d z6)), (.double (FP.i2d z7)), (.double (FP.i2d z8))]) :: []) := H89
    refine own_dup K own_d7_246 rfl ?_
    refine own_iconst K own_d7_247 (v := (3 : Int32)) rfl ?_
    refine own_iloadN K own_d7_248 rfl ?_
    refine own_iconst K own_d7_249 (v := (3 : Int32)) rfl ?_
    refine own_iload K own_d7_250 rfl ?_
    refine own_static K own_d7_252 (own_w7 hw) (own_w8 hw) (own_w3 hw) (own_w9 hw) (argsL := [(.int cp), (.int (3 : Int32)), (.int nc)]) (rest := [(.int (3 : Int32)), (.ref a74), (.ref a74)]) (own_pick hw (by omega)) own_pd2 rfl rfl rfl (by decide) (W := 3) (Nat.le_of_eq rfl) (by decide) (by decide) (by decide) (by decide) ?_
    intro v92 h90 q91
    obtain ⟨⟨c3, rfl, c3_0, c3_1⟩, rfl⟩ := q91
    refine own_iastore K own_d7_255 H89 (i := 0) rfl (q := 3) (by decide) (own_le rfl) ?_
    intro h93 H94
    replace H94 : own_H Z h93 ([]) ((a74, .int, "[I", [(.int c0), (.int c1), (.int c2), (.int c3)]) :: (a51, .int, "[I", [(.int r0), (.int r1), (.int r2), (.int r3)]) :: (a3, .double, "[D", [(.double (FP.i2d z0)), (.double (FP.i2d z1)), (.double (FP.i2d z2)), (.double (FP.i2d z3)), (.double (FP.i2d z4)), (.double (FP.i2d z5)), (.double (FP.i2d z6)), (.double (FP.i2d z7)), (.double (FP.i2d z8))]) :: []) := H94
    refine own_astore K own_d7_256 rfl (Ls' := #[.val (.int sh), .val (.int ki), .val (.int rp), .val (.int cp), .val (.int cp2), .val (.long sd), .second, .val (.int nr), .val (.int nc), .val (.int (3 : Int32)), .val (.int cn), .val (.int (0 : Int32)), .val (.int (0 : Int32)), .val (.ref a3), .val (.ref a51), .val (.ref a74), .unset]) rfl ?_
    refine own_iconst K own_d7_258 (v := (5 : Int32)) rfl ?_
    refine own_newarray K own_d7_259 (ty := .double) rfl (own_w0 hw) H94 (q := 5) (by decide) (ad := "[D") (by decide +kernel) (vs := [(.double (0 : UInt64)), (.double (0 : UInt64)), (.double (0 : UInt64)), (.double (0 : UInt64)), (.double (0 : UInt64))]) rfl (by decide) (by decide) (by decide) ?_
    intro h95 a97 H96
    replace H96 : own_H Z h95 ([]) ((a97, .double, "[D", [(.double (0 : UInt64)), (.double (0 : UInt64)), (.double (0 : UInt64)), (.double (0 : UInt64)), (.double (0 : UInt64))]) :: (a74, .int, "[I", [(.int c0), (.int c1), (.int c2), (.int c3)]) :: (a51, .int, "[I", [(.int r0), (.int r1), (.int r2), (.int r3)]) :: (a3, .double, "[D", [(.double (FP.i2d z0)), (.double (FP.i2d z1)), (.double (FP.i2d z2)), (.double (FP.i2d z3)), (.double (FP.i2d z4)), (.double (FP.i2d z5)), (.double (FP.i2d z6)), (.double (FP.i2d z7)), (.double (FP.i2d z8))]) :: []) := H96
    refine own_dup K own_d7_261 rfl ?_
    refine own_iconst K own_d7_262 (v := (0 : Int32)) rfl ?_
    refine own_ldc2D K own_d7_263 (own_w10 hw) ?_
    refine own_dastore K own_d7_266 H96 (i := 0) rfl (q := 0) (by decide) (own_le rfl) ?_
    intro h98 H99
    replace H99 : own_H Z h98 ([]) ((a97, .double, "[D", [(.double (4696837146684686336 : UInt64)), (.double (0 : UInt64)), (.double (0 : UInt64)), (.double (0 : UInt64)), (.double (0 : UInt64))]) :: (a74, .int, "[I", [(.int c0), (.int c1), (.int c2), (.int c3)]) :: (a51, .int, "[I", [(.int r0), (.int r1), (.int r2), (.int r3)]) :: (a3, .double, "[D", [(.double (FP.i2d z0)), (.double (FP.i2d z1)), (.double (FP.i2d z2)), (.double (FP.i2d z3)), (.double (FP.i2d z4)), (.double (FP.i2d z5)), (.double (FP.i2d z6)), (.double (FP.i2d z7)), (.double (FP.i2d z8))]) :: []) := H99
    refine own_dup K own_d7_267 rfl ?_
    refine own_iconst K own_d7_268 (v := (1 : Int32)) rfl ?_
    refine own_ldc2D K own_d7_269 (own_w10 hw) ?_
    refine own_dastore K own_d7_272 H99 (i := 0) rfl (q := 1) (by decide) (own_le rfl) ?_
    intro h100 H101
    replace H101 : own_H Z h100 ([]) ((a97, .double, "[D", [(.double (4696837146684686336 : UInt64)), (.double (4696837146684686336 : UInt64)), (.double (0 : UInt64)), (.double (0 : UInt64)), (.double (0 : UInt64))]) :: (a74, .int, "[I", [(.int c0), (.int c1), (.int c2), (.int c3)]) :: (a51, .int, "[I", [(.int r0), (.int r1), (.int r2), (.int r3)]) :: (a3, .double, "[D", [(.double (FP.i2d z0)), (.double (FP.i2d z1)), (.double (FP.i2d z2)), (.double (FP.i2d z3)), (.double (FP.i2d z4)), (.double (FP.i2d z5)), (.double (FP.i2d z6)), (.double (FP.i2d z7)), (.double (FP.i2d z8))]) :: []) := H101
    refine own_dup K own_d7_273 rfl ?_
    refine own_iconst K own_d7_274 (v := (2 : Int32)) rfl ?_
    refine own_ldc2D K own_d7_275 (own_w10 hw) ?_
    refine own_dastore K own_d7_278 H101 (i := 0) rfl (q := 2) (by decide) (own_le rfl) ?_
    intro h102 H103
    replace H103 : own_H Z h102 ([]) ((a97, .double, "[D", [(.double (4696837146684686336 : UInt64)), (.double (4696837146684686336 : UInt64)), (.double (4696837146684686336 : UInt64)), (.double (0 : UInt64)), (.double (0 : UInt64))]) :: (a74, .int, "[I", [(.int c0), (.int c1), (.int c2), (.int c3)]) :: (a51, .int, "[I", [(.int r0), (.int r1), (.int r2), (.int r3)]) :: (a3, .double, "[D", [(.double (FP.i2d z0)), (.double (FP.i2d z1)), (.double (FP.i2d z2)), (.double (FP.i2d z3)), (.double (FP.i2d z4)), (.double (FP.i2d z5)), (.double (FP.i2d z6)), (.double (FP.i2d z7)), (.double (FP.i2d z8))]) :: []) := H103
    refine own_dup K own_d7_279 rfl ?_
    refine own_iconst K own_d7_280 (v := (3 : Int32)) rfl ?_
    refine own_ldc2D K own_d7_281 (own_w10 hw) ?_
    refine own_dastore K own_d7_284 H103 (i := 0) rfl (q := 3) (by decide) (own_le rfl) ?_
    intro h104 H105
    replace H105 : own_H Z h104 ([]) ((a97, .double, "[D", [(.double (4696837146684686336 : UInt64)), (.double (4696837146684686336 : UInt64)), (.double (4696837146684686336 : UInt64)), (.double (4696837146684686336 : UInt64)), (.double (0 : UInt64))]) :: (a74, .int, "[I", [(.int c0), (.int c1), (.int c2), (.int c3)]) :: (a51, .int, "[I", [(.int r0), (.int r1), (.int r2), (.int r3)]) :: (a3, .double, "[D", [(.double (FP.i2d z0)), (.double (FP.i2d z1)), (.double (FP.i2d z2)), (.double (FP.i2d z3)), (.double (FP.i2d z4)), (.double (FP.i2d z5)), (.double (FP.i2d z6)), (.double (FP.i2d z7)), (.double (FP.i2d z8))]) :: []) := H105
    refine own_dup K own_d7_285 rfl ?_
    refine own_iconst K own_d7_286 (v := (4 : Int32)) rfl ?_
    refine own_ldc2D K own_d7_287 (own_w10 hw) ?_
    refine own_dastore K own_d7_290 H105 (i := 0) rfl (q := 4) (by decide) (own_le rfl) ?_
    intro h106 H107
    replace H107 : own_H Z h106 ([]) ((a97, .double, "[D", [(.double (4696837146684686336 : UInt64)), (.double (4696837146684686336 : UInt64)), (.double (4696837146684686336 : UInt64)), (.double (4696837146684686336 : UInt64)), (.double (4696837146684686336 : UInt64))]) :: (a74, .int, "[I", [(.int c0), (.int c1), (.int c2), (.int c3)]) :: (a51, .int, "[I", [(.int r0), (.int r1), (.int r2), (.int r3)]) :: (a3, .double, "[D", [(.double (FP.i2d z0)), (.double (FP.i2d z1)), (.double (FP.i2d z2)), (.double (FP.i2d z3)), (.double (FP.i2d z4)), (.double (FP.i2d z5)), (.double (FP.i2d z6)), (.double (FP.i2d z7)), (.double (FP.i2d z8))]) :: []) := H107
    refine own_astore K own_d7_291 rfl (Ls' := #[.val (.int sh), .val (.int ki), .val (.int rp), .val (.int cp), .val (.int cp2), .val (.long sd), .second, .val (.int nr), .val (.int nc), .val (.int (3 : Int32)), .val (.int cn), .val (.int (0 : Int32)), .val (.int (0 : Int32)), .val (.ref a3), .val (.ref a51), .val (.ref a74), .val (.ref a97)]) rfl ?_
    refine own_new K own_d7_293 (own_w11 hw) (own_w12 hw) (own_w13 hw) H107 (own_OP_F hw) (own_OP_P hw) (by decide) (by decide) ?_
    intro h108 a110 H109
    replace H109 : own_H Z h108 (own_OP a110 .null (.int (0 : Int32)) (.int (0 : Int32)) :: []) ((a97, .double, "[D", [(.double (4696837146684686336 : UInt64)), (.double (4696837146684686336 : UInt64)), (.double (4696837146684686336 : UInt64)), (.double (4696837146684686336 : UInt64)), (.double (4696837146684686336 : UInt64))]) :: (a74, .int, "[I", [(.int c0), (.int c1), (.int c2), (.int c3)]) :: (a51, .int, "[I", [(.int r0), (.int r1), (.int r2), (.int r3)]) :: (a3, .double, "[D", [(.double (FP.i2d z0)), (.double (FP.i2d z1)), (.double (FP.i2d z2)), (.double (FP.i2d z3)), (.double (FP.i2d z4)), (.double (FP.i2d z5)), (.double (FP.i2d z6)), (.double (FP.i2d z7)), (.double (FP.i2d z8))]) :: []) := H109
    refine own_dup K own_d7_296 rfl ?_
    refine own_aload K own_d7_297 rfl rfl ?_
    refine own_iload K own_d7_299 rfl ?_
    refine own_iload K own_d7_301 rfl ?_
    refine own_special K own_d7_303 rfl (own_w14 hw) (own_w15 hw) (own_w13 hw) (own_w16 hw) (a := a110) (argsL := [(.ref a3), (.int (0 : Int32)), (.int (0 : Int32))]) (rest := [(.ref a110)]) (own_init hw H109) own_pd3 rfl rfl rfl (by decide) (W := 1) (Nat.le_of_eq rfl) (by decide) (by decide) (by decide) (by decide) ?_
    intro v113 h111 q112
    obtain ⟨rfl, H114⟩ := q112
    replace H114 : own_H Z h111 (own_OP a110 (.ref a3) (.int (0 : Int32)) (.int (0 : Int32)) :: []) ((a97, .double, "[D", [(.double (4696837146684686336 : UInt64)), (.double (4696837146684686336 : UInt64)), (.double (4696837146684686336 : UInt64)), (.double (4696837146684686336 : UInt64)), (.double (4696837146684686336 : UInt64))]) :: (a74, .int, "[I", [(.int c0), (.int c1), (.int c2), (.int c3)]) :: (a51, .int, "[I", [(.int r0), (.int r1), (.int r2), (.int r3)]) :: (a3, .double, "[D", [(.double (FP.i2d z0)), (.double (FP.i2d z1)), (.double (FP.i2d z2)), (.double (FP.i2d z3)), (.double (FP.i2d z4)), (.double (FP.i2d z5)), (.double (FP.i2d z6)), (.double (FP.i2d z7)), (.double (FP.i2d z8))]) :: []) := H114
    refine own_aload K own_d7_306 rfl rfl ?_
    refine own_aload K own_d7_308 rfl rfl ?_
    refine own_iload K own_d7_310 rfl ?_
    refine own_aload K own_d7_312 rfl rfl ?_
    obtain ⟨vs, evs⟩ : ∃ z : List Value, z = [(.double (FP.i2d z0)), (.double (FP.i2d z1)), (.double (FP.i2d z2)), (.double (FP.i2d z3)), (.double (FP.i2d z4)), (.double (FP.i2d z5)), (.double (FP.i2d z6)), (.double (FP.i2d z7)), (.double (FP.i2d z8))] := ⟨_, rfl⟩
    have hvl : vs.length = 9 := by rw [evs]; rfl
    have hall : ∀ q : Nat, q < 9 → ∃ d : UInt64, vs[q]? = some (.double d) ∧ Fl.NoNaN64 d := by rw [evs]; exact own_nine
    obtain ⟨q0, hq0, hl0⟩ : ∃ q : Nat, (r0 * (0 : Int32) + c0 * (0 : Int32)).toInt = (q : Int) ∧ q < 9 := own_ix3 r0_0 r0_1 c0_0 c0_1 nr_0.2 nc_0
    obtain ⟨d0, hd0, hn0⟩ := hall q0 hl0
    obtain ⟨q1, hq1, hl1⟩ : ∃ q : Nat, (r1 * (0 : Int32) + c1 * (0 : Int32)).toInt = (q : Int) ∧ q < 9 := own_ix3 r1_0 r1_1 c1_0 c1_1 nr_0.2 nc_0
    obtain ⟨d1, hd1, hn1⟩ := hall q1 hl1
    obtain ⟨q2, hq2, hl2⟩ : ∃ q : Nat, (r2 * (0 : Int32) + c2 * (0 : Int32)).toInt = (q : Int) ∧ q < 9 := own_ix3 r2_0 r2_1 c2_0 c2_1 nr_0.2 nc_0
    obtain ⟨d2, hd2, hn2⟩ := hall q2 hl2
    obtain ⟨q3, hq3, hl3⟩ : ∃ q : Nat, (r3 * (0 : Int32) + c3 * (0 : Int32)).toInt = (q : Int) ∧ q < 9 := own_ix3 r3_0 r3_1 c3_0 c3_1 nr_0.2 nc_0
    obtain ⟨d3, hd3, hn3⟩ := hall q3 hl3
    have H115 := H114
    rw [← evs] at H115
    replace H115 : own_H Z h111 (own_OP a110 (.ref a3) (.int (0 : Int32)) (.int (0 : Int32)) :: []) ((a97, .double, "[D", [(.double (4696837146684686336 : UInt64)), (.double (4696837146684686336 : UInt64)), (.double (4696837146684686336 : UInt64)), (.double (4696837146684686336 : UInt64)), (.double (4696837146684686336 : UInt64))]) :: (a74, .int, "[I", [(.int c0), (.int c1), (.int c2), (.int c3)]) :: (a51, .int, "[I", [(.int r0), (.int r1), (.int r2), (.int r3)]) :: (a3, .double, "[D", vs) :: []) := H115
    have H116 := H115.frontA 3 rfl
    replace H116 : own_H Z h111 (own_OP a110 (.ref a3) (.int (0 : Int32)) (.int (0 : Int32)) :: []) ((a3, .double, "[D", vs) :: (a97, .double, "[D", [(.double (4696837146684686336 : UInt64)), (.double (4696837146684686336 : UInt64)), (.double (4696837146684686336 : UInt64)), (.double (4696837146684686336 : UInt64)), (.double (4696837146684686336 : UInt64))]) :: (a74, .int, "[I", [(.int c0), (.int c1), (.int c2), (.int c3)]) :: (a51, .int, "[I", [(.int r0), (.int r1), (.int r2), (.int r3)]) :: []) := H116
    have H117 := H116.frontA 1 rfl
    replace H117 : own_H Z h111 (own_OP a110 (.ref a3) (.int (0 : Int32)) (.int (0 : Int32)) :: []) ((a97, .double, "[D", [(.double (4696837146684686336 : UInt64)), (.double (4696837146684686336 : UInt64)), (.double (4696837146684686336 : UInt64)), (.double (4696837146684686336 : UInt64)), (.double (4696837146684686336 : UInt64))]) :: (a3, .double, "[D", vs) :: (a74, .int, "[I", [(.int c0), (.int c1), (.int c2), (.int c3)]) :: (a51, .int, "[I", [(.int r0), (.int r1), (.int r2), (.int r3)]) :: []) := H117
    have H118 := H117.frontA 2 rfl
    replace H118 : own_H Z h111 (own_OP a110 (.ref a3) (.int (0 : Int32)) (.int (0 : Int32)) :: []) ((a74, .int, "[I", [(.int c0), (.int c1), (.int c2), (.int c3)]) :: (a97, .double, "[D", [(.double (4696837146684686336 : UInt64)), (.double (4696837146684686336 : UInt64)), (.double (4696837146684686336 : UInt64)), (.double (4696837146684686336 : UInt64)), (.double (4696837146684686336 : UInt64))]) :: (a3, .double, "[D", vs) :: (a51, .int, "[I", [(.int r0), (.int r1), (.int r2), (.int r3)]) :: []) := H118
    have H119 := H118.frontA 3 rfl
    replace H119 : own_H Z h111 (own_OP a110 (.ref a3) (.int (0 : Int32)) (.int (0 : Int32)) :: []) ((a51, .int, "[I", [(.int r0), (.int r1), (.int r2), (.int r3)]) :: (a74, .int, "[I", [(.int c0), (.int c1), (.int c2), (.int c3)]) :: (a97, .double, "[D", [(.double (4696837146684686336 : UInt64)), (.double (4696837146684686336 : UInt64)), (.double (4696837146684686336 : UInt64)), (.double (4696837146684686336 : UInt64)), (.double (4696837146684686336 : UInt64))]) :: (a3, .double, "[D", vs) :: []) := H119
    refine own_virtual K own_d7_314 (own_w31 hw) (own_w32 hw) (own_w34 hw) (own_w33 hw) (own_w13 hw) (own_w35 hw) (H119.atO (i := 0) rfl) (a := a110) (argsL := [(.ref a51), (.ref a74), (.int cn), (.ref a97)]) (rest := []) (own_gather hw cn_0.1 cn_0.2 H119 hq0 hd0 hq1 hd1 hq2 hd2 hq3 hd3) own_pd4 rfl rfl rfl (by decide) (W := 0) (Nat.le_of_eq rfl) (by decide) (by decide) (by decide) (by decide) ?_
    intro v122 h120 q121
    obtain ⟨rfl, H123⟩ := q121
    replace H123 : own_H Z h120 (own_OP a110 (.ref a3) (.int (0 : Int32)) (.int (0 : Int32)) :: []) ((a51, .int, "[I", [(.int r0), (.int r1), (.int r2), (.int r3)]) :: (a74, .int, "[I", [(.int c0), (.int c1), (.int c2), (.int c3)]) :: (a97, .double, "[D", [(.double (if 0 < cn.toInt then d0 else (4696837146684686336 : UInt64))), (.double (if 1 < cn.toInt then d1 else (4696837146684686336 : UInt64))), (.double (if 2 < cn.toInt then d2 else (4696837146684686336 : UInt64))), (.double (if 3 < cn.toInt then d3 else (4696837146684686336 : UInt64))), (.double (4696837146684686336 : UInt64))]) :: (a3, .double, "[D", vs) :: []) := H123
    refine own_aload K own_d7_317 rfl rfl ?_
    refine own_iconst K own_d7_319 (v := (0 : Int32)) rfl ?_
    refine own_iload K own_d7_320 rfl ?_
    refine own_iload K own_d7_322 rfl ?_
    refine own_iload K own_d7_324 rfl ?_
    refine own_aload K own_d7_326 rfl rfl ?_
    refine own_aload K own_d7_328 rfl rfl ?_
    refine own_iconst K own_d7_330 (v := (0 : Int32)) rfl ?_
    refine own_iaload K own_d7_331 H123 (i := 0) rfl (q := 0) (by decide) (rfl) ?_
    refine own_aload K own_d7_332 rfl rfl ?_
    refine own_iconst K own_d7_334 (v := (0 : Int32)) rfl ?_
    refine own_iaload K own_d7_335 H123 (i := 1) rfl (q := 0) (by decide) (rfl) ?_
    have H124 := H123.frontA 3 rfl
    replace H124 : own_H Z h120 (own_OP a110 (.ref a3) (.int (0 : Int32)) (.int (0 : Int32)) :: []) ((a3, .double, "[D", vs) :: (a51, .int, "[I", [(.int r0), (.int r1), (.int r2), (.int r3)]) :: (a74, .int, "[I", [(.int c0), (.int c1), (.int c2), (.int c3)]) :: (a97, .double, "[D", [(.double (if 0 < cn.toInt then d0 else (4696837146684686336 : UInt64))), (.double (if 1 < cn.toInt then d1 else (4696837146684686336 : UInt64))), (.double (if 2 < cn.toInt then d2 else (4696837146684686336 : UInt64))), (.double (if 3 < cn.toInt then d3 else (4696837146684686336 : UInt64))), (.double (4696837146684686336 : UInt64))]) :: []) := H124
    refine own_static K own_d7_336 (own_w36 hw) (own_w37 hw) (own_w3 hw) (own_w38 hw) (argsL := [(.int (3 : Int32)), (.int nc), (.ref a3), (.int r0), (.int c0)]) (rest := [(.int cn), (.int (0 : Int32)), (.ref a97)]) (own_want3 hw H124 (q := q0) (by rw [← hq0, own_k3]) hd0) own_pd5 rfl rfl rfl (by decide) (W := 3) (Nat.le_of_eq rfl) (by decide) (by decide) (by decide) (by decide) ?_
    intro v127 h125 q126
    obtain ⟨rfl, rfl⟩ := q126
    have H128 := H124.frontA 3 rfl
    replace H128 : own_H Z h120 (own_OP a110 (.ref a3) (.int (0 : Int32)) (.int (0 : Int32)) :: []) ((a97, .double, "[D", [(.double (if 0 < cn.toInt then d0 else (4696837146684686336 : UInt64))), (.double (if 1 < cn.toInt then d1 else (4696837146684686336 : UInt64))), (.double (if 2 < cn.toInt then d2 else (4696837146684686336 : UInt64))), (.double (if 3 < cn.toInt then d3 else (4696837146684686336 : UInt64))), (.double (4696837146684686336 : UInt64))]) :: (a3, .double, "[D", vs) :: (a51, .int, "[I", [(.int r0), (.int r1), (.int r2), (.int r3)]) :: (a74, .int, "[I", [(.int c0), (.int c1), (.int c2), (.int c3)]) :: []) := H128
    refine own_static K own_d7_339 (own_w39 hw) (own_w40 hw) (own_w3 hw) (own_w41 hw) (argsL := [(.ref a97), (.int (0 : Int32)), (.int cn), (.double d0)]) (rest := []) (own_ok hw H128 (i := 0) rfl rfl (by rw [show (0 : Int32).toInt = 0 from rfl]) (by split <;> first | exact hn0 | decide)) own_pd6 rfl rfl rfl (by decide) (W := 0) (Nat.le_of_eq rfl) (by decide) (by decide) (by decide) (by decide) ?_
    intro v131 h129 q130
    obtain ⟨rfl, rfl⟩ := q130
    refine own_ifeq K own_d7_342 (fun q => absurd q (by decide)) (fun _ => ?_)
    refine own_aload K own_d7_345 rfl rfl ?_
    refine own_iconst K own_d7_347 (v := (1 : Int32)) rfl ?_
    refine own_iload K own_d7_348 rfl ?_
    refine own_iload K own_d7_350 rfl ?_
    refine own_iload K own_d7_352 rfl ?_
    refine own_aload K own_d7_354 rfl rfl ?_
    refine own_aload K own_d7_356 rfl rfl ?_
    refine own_iconst K own_d7_358 (v := (1 : Int32)) rfl ?_
    refine own_iaload K own_d7_359 H128 (i := 2) rfl (q := 1) (by decide) (rfl) ?_
    refine own_aload K own_d7_360 rfl rfl ?_
    refine own_iconst K own_d7_362 (v := (1 : Int32)) rfl ?_
    refine own_iaload K own_d7_363 H128 (i := 3) rfl (q := 1) (by decide) (rfl) ?_
    have H132 := H128.frontA 1 rfl
    replace H132 : own_H Z h120 (own_OP a110 (.ref a3) (.int (0 : Int32)) (.int (0 : Int32)) :: []) ((a3, .double, "[D", vs) :: (a97, .double, "[D", [(.double (if 0 < cn.toInt then d0 else (4696837146684686336 : UInt64))), (.double (if 1 < cn.toInt then d1 else (4696837146684686336 : UInt64))), (.double (if 2 < cn.toInt then d2 else (4696837146684686336 : UInt64))), (.double (if 3 < cn.toInt then d3 else (4696837146684686336 : UInt64))), (.double (4696837146684686336 : UInt64))]) :: (a51, .int, "[I", [(.int r0), (.int r1), (.int r2), (.int r3)]) :: (a74, .int, "[I", [(.int c0), (.int c1), (.int c2), (.int c3)]) :: []) := H132
    refine own_static K own_d7_364 (own_w36 hw) (own_w37 hw) (own_w3 hw) (own_w38 hw) (argsL := [(.int (3 : Int32)), (.int nc), (.ref a3), (.int r1), (.int c1)]) (rest := [(.int cn), (.int (1 : Int32)), (.ref a97)]) (own_want3 hw H132 (q := q1) (by rw [← hq1, own_k3]) hd1) own_pd5 rfl rfl rfl (by decide) (W := 3) (Nat.le_of_eq rfl) (by decide) (by decide) (by decide) (by decide) ?_
    intro v135 h133 q134
    obtain ⟨rfl, rfl⟩ := q134
    have H136 := H132.frontA 1 rfl
    replace H136 : own_H Z h120 (own_OP a110 (.ref a3) (.int (0 : Int32)) (.int (0 : Int32)) :: []) ((a97, .double, "[D", [(.double (if 0 < cn.toInt then d0 else (4696837146684686336 : UInt64))), (.double (if 1 < cn.toInt then d1 else (4696837146684686336 : UInt64))), (.double (if 2 < cn.toInt then d2 else (4696837146684686336 : UInt64))), (.double (if 3 < cn.toInt then d3 else (4696837146684686336 : UInt64))), (.double (4696837146684686336 : UInt64))]) :: (a3, .double, "[D", vs) :: (a51, .int, "[I", [(.int r0), (.int r1), (.int r2), (.int r3)]) :: (a74, .int, "[I", [(.int c0), (.int c1), (.int c2), (.int c3)]) :: []) := H136
    refine own_static K own_d7_367 (own_w39 hw) (own_w40 hw) (own_w3 hw) (own_w41 hw) (argsL := [(.ref a97), (.int (1 : Int32)), (.int cn), (.double d1)]) (rest := []) (own_ok hw H136 (i := 1) rfl rfl (by rw [show (1 : Int32).toInt = 1 from rfl]) (by split <;> first | exact hn1 | decide)) own_pd6 rfl rfl rfl (by decide) (W := 0) (Nat.le_of_eq rfl) (by decide) (by decide) (by decide) (by decide) ?_
    intro v139 h137 q138
    obtain ⟨rfl, rfl⟩ := q138
    refine own_ifeq K own_d7_370 (fun q => absurd q (by decide)) (fun _ => ?_)
    refine own_aload K own_d7_373 rfl rfl ?_
    refine own_iconst K own_d7_375 (v := (2 : Int32)) rfl ?_
    refine own_iload K own_d7_376 rfl ?_
    refine own_iload K own_d7_378 rfl ?_
    refine own_iload K own_d7_380 rfl ?_
    refine own_aload K own_d7_382 rfl rfl ?_
    refine own_aload K own_d7_384 rfl rfl ?_
    refine own_iconst K own_d7_386 (v := (2 : Int32)) rfl ?_
    refine own_iaload K own_d7_387 H136 (i := 2) rfl (q := 2) (by decide) (rfl) ?_
    refine own_aload K own_d7_388 rfl rfl ?_
    refine own_iconst K own_d7_390 (v := (2 : Int32)) rfl ?_
    refine own_iaload K own_d7_391 H136 (i := 3) rfl (q := 2) (by decide) (rfl) ?_
    have H140 := H136.frontA 1 rfl
    replace H140 : own_H Z h120 (own_OP a110 (.ref a3) (.int (0 : Int32)) (.int (0 : Int32)) :: []) ((a3, .double, "[D", vs) :: (a97, .double, "[D", [(.double (if 0 < cn.toInt then d0 else (4696837146684686336 : UInt64))), (.double (if 1 < cn.toInt then d1 else (4696837146684686336 : UInt64))), (.double (if 2 < cn.toInt then d2 else (4696837146684686336 : UInt64))), (.double (if 3 < cn.toInt then d3 else (4696837146684686336 : UInt64))), (.double (4696837146684686336 : UInt64))]) :: (a51, .int, "[I", [(.int r0), (.int r1), (.int r2), (.int r3)]) :: (a74, .int, "[I", [(.int c0), (.int c1), (.int c2), (.int c3)]) :: []) := H140
    refine own_static K own_d7_392 (own_w36 hw) (own_w37 hw) (own_w3 hw) (own_w38 hw) (argsL := [(.int (3 : Int32)), (.int nc), (.ref a3), (.int r2), (.int c2)]) (rest := [(.int cn), (.int (2 : Int32)), (.ref a97)]) (own_want3 hw H140 (q := q2) (by rw [← hq2, own_k3]) hd2) own_pd5 rfl rfl rfl (by decide) (W := 3) (Nat.le_of_eq rfl) (by decide) (by decide) (by decide) (by decide) ?_
    intro v143 h141 q142
    obtain ⟨rfl, rfl⟩ := q142
    have H144 := H140.frontA 1 rfl
    replace H144 : own_H Z h120 (own_OP a110 (.ref a3) (.int (0 : Int32)) (.int (0 : Int32)) :: []) ((a97, .double, "[D", [(.double (if 0 < cn.toInt then d0 else (4696837146684686336 : UInt64))), (.double (if 1 < cn.toInt then d1 else (4696837146684686336 : UInt64))), (.double (if 2 < cn.toInt then d2 else (4696837146684686336 : UInt64))), (.double (if 3 < cn.toInt then d3 else (4696837146684686336 : UInt64))), (.double (4696837146684686336 : UInt64))]) :: (a3, .double, "[D", vs) :: (a51, .int, "[I", [(.int r0), (.int r1), (.int r2), (.int r3)]) :: (a74, .int, "[I", [(.int c0), (.int c1), (.int c2), (.int c3)]) :: []) := H144
    refine own_static K own_d7_395 (own_w39 hw) (own_w40 hw) (own_w3 hw) (own_w41 hw) (argsL := [(.ref a97), (.int (2 : Int32)), (.int cn), (.double d2)]) (rest := []) (own_ok hw H144 (i := 2) rfl rfl (by rw [show (2 : Int32).toInt = 2 from rfl]) (by split <;> first | exact hn2 | decide)) own_pd6 rfl rfl rfl (by decide) (W := 0) (Nat.le_of_eq rfl) (by decide) (by decide) (by decide) (by decide) ?_
    intro v147 h145 q146
    obtain ⟨rfl, rfl⟩ := q146
    refine own_ifeq K own_d7_398 (fun q => absurd q (by decide)) (fun _ => ?_)
    refine own_aload K own_d7_401 rfl rfl ?_
    refine own_iconst K own_d7_403 (v := (3 : Int32)) rfl ?_
    refine own_iload K own_d7_404 rfl ?_
    refine own_iload K own_d7_406 rfl ?_
    refine own_iload K own_d7_408 rfl ?_
    refine own_aload K own_d7_410 rfl rfl ?_
    refine own_aload K own_d7_412 rfl rfl ?_
    refine own_iconst K own_d7_414 (v := (3 : Int32)) rfl ?_
    refine own_iaload K own_d7_415 H144 (i := 2) rfl (q := 3) (by decide) (rfl) ?_
    refine own_aload K own_d7_416 rfl rfl ?_
    refine own_iconst K own_d7_418 (v := (3 : Int32)) rfl ?_
    refine own_iaload K own_d7_419 H144 (i := 3) rfl (q := 3) (by decide) (rfl) ?_
    have H148 := H144.frontA 1 rfl
    replace H148 : own_H Z h120 (own_OP a110 (.ref a3) (.int (0 : Int32)) (.int (0 : Int32)) :: []) ((a3, .double, "[D", vs) :: (a97, .double, "[D", [(.double (if 0 < cn.toInt then d0 else (4696837146684686336 : UInt64))), (.double (if 1 < cn.toInt then d1 else (4696837146684686336 : UInt64))), (.double (if 2 < cn.toInt then d2 else (4696837146684686336 : UInt64))), (.double (if 3 < cn.toInt then d3 else (4696837146684686336 : UInt64))), (.double (4696837146684686336 : UInt64))]) :: (a51, .int, "[I", [(.int r0), (.int r1), (.int r2), (.int r3)]) :: (a74, .int, "[I", [(.int c0), (.int c1), (.int c2), (.int c3)]) :: []) := H148
    refine own_static K own_d7_420 (own_w36 hw) (own_w37 hw) (own_w3 hw) (own_w38 hw) (argsL := [(.int (3 : Int32)), (.int nc), (.ref a3), (.int r3), (.int c3)]) (rest := [(.int cn), (.int (3 : Int32)), (.ref a97)]) (own_want3 hw H148 (q := q3) (by rw [← hq3, own_k3]) hd3) own_pd5 rfl rfl rfl (by decide) (W := 3) (Nat.le_of_eq rfl) (by decide) (by decide) (by decide) (by decide) ?_
    intro v151 h149 q150
    obtain ⟨rfl, rfl⟩ := q150
    have H152 := H148.frontA 1 rfl
    replace H152 : own_H Z h120 (own_OP a110 (.ref a3) (.int (0 : Int32)) (.int (0 : Int32)) :: []) ((a97, .double, "[D", [(.double (if 0 < cn.toInt then d0 else (4696837146684686336 : UInt64))), (.double (if 1 < cn.toInt then d1 else (4696837146684686336 : UInt64))), (.double (if 2 < cn.toInt then d2 else (4696837146684686336 : UInt64))), (.double (if 3 < cn.toInt then d3 else (4696837146684686336 : UInt64))), (.double (4696837146684686336 : UInt64))]) :: (a3, .double, "[D", vs) :: (a51, .int, "[I", [(.int r0), (.int r1), (.int r2), (.int r3)]) :: (a74, .int, "[I", [(.int c0), (.int c1), (.int c2), (.int c3)]) :: []) := H152
    refine own_static K own_d7_423 (own_w39 hw) (own_w40 hw) (own_w3 hw) (own_w41 hw) (argsL := [(.ref a97), (.int (3 : Int32)), (.int cn), (.double d3)]) (rest := []) (own_ok hw H152 (i := 3) rfl rfl (by rw [show (3 : Int32).toInt = 3 from rfl]) (by split <;> first | exact hn3 | decide)) own_pd6 rfl rfl rfl (by decide) (W := 0) (Nat.le_of_eq rfl) (by decide) (by decide) (by decide) (by decide) ?_
    intro v155 h153 q154
    obtain ⟨rfl, rfl⟩ := q154
    refine own_ifeq K own_d7_426 (fun q => absurd q (by decide)) (fun _ => ?_)
    refine own_aload K own_d7_429 rfl rfl ?_
    refine own_iconst K own_d7_431 (v := (4 : Int32)) rfl ?_
    refine own_daload K own_d7_432 H152 (i := 0) rfl (q := 4) (by decide) (rfl) ?_
    refine own_ldc2D K own_d7_433 (own_w10 hw) ?_
    refine own_dcmp K own_d7_436 ?_
    refine own_topI (x' := (0 : Int32)) (by decide +kernel) ?_
    refine own_ifne K own_d7_437 (fun q => absurd q (by decide)) (fun _ => ?_)
    refine own_iconst K own_d7_440 (v := (1 : Int32)) rfl ?_
    refine own_goto K own_d7_441 ?_
    exact own_retZ K (by first | exact Or.inl rfl | exact Or.inr rfl | decide) own_d7_445 (by decide) (by decide) (rfl)
set_option maxRecDepth 65536 in
set_option maxHeartbeats 40000000 in
theorem comes_1 {Post : Tables → Env → Array Value → State → Outcome → State → Prop} (hpost : ∀ tb e args s v u, (limb_1_1.after args s (.returned v) u = true ∧ limb_1_2.after args s (.returned v) u = true ∧ True) → FrameEnd s (.returned v) u (Jvm.fieldLocs frame_1_writes args s ++ Jvm.arrayLocs frame_1_arrays args s ++ Jvm.staticLocs frame_1_statics s) 24 128 → Post tb e args s (.returned v) u) :
    ArmFor flags0 classFile x code maxLocals ret World_1 tables_1 room_1 Calls_1 rest_1 Pre_1 Post := by
  intro l hfl _ _ p e ha hc hk s m args below hf hA hF happ hP
  obtain ⟨hcalls, hrest, hpre⟩ := hP
  obtain ⟨-, -, -, hnamed, -, -, -, hat⟩ := (Spec.applies_iff hf).mp happ
  obtain ⟨hg, hn⟩ := and_e (Cond.before_iff.mp (show (Jvm.Cond.and given_1 narrow_1).before args s = true from hpre))
  obtain ⟨h1, hq0⟩ := and_e hg
  obtain ⟨hi0, hq1⟩ := and_e hq0
  obtain ⟨hi1, hq2⟩ := and_e hq1
  obtain ⟨hi2, hq3⟩ := and_e hq2
  obtain ⟨hi3, hq4⟩ := and_e hq3
  obtain ⟨hi4, hq5⟩ := and_e hq4
  have hi5 := hq5
  obtain ⟨w0, w1, w2, w3, w4, w5, rfl⟩ : ∃ w0 w1 w2 w3 w4 w5 : Value, args = #[w0, w1, w2, w3, w4, w5] := by
    have hs : args.size = 6 := by simpa [Cond.value, given_1] using h1
    obtain ⟨L⟩ := args
    match L, hs with
    | [w0, w1, w2, w3, w4, w5], _ => exact ⟨w0, w1, w2, w3, w4, w5, rfl⟩
  have hw : own_Z s #[w0, w1, w2, w3, w4, w5] := fun d (hd : d ∈ tables_1) => atoms_spec (ws := Jvm.Cond.code x code maxLocals ret :: tables_1) hat d (List.mem_cons_of_mem _ hd)
  obtain ⟨i0, e0⟩ := is_v hi0
  obtain rfl : w0 = (.int i0) := Option.some.inj e0
  obtain ⟨i1, e1⟩ := is_v hi1
  obtain rfl : w1 = (.int i1) := Option.some.inj e1
  obtain ⟨i2, e2⟩ := is_v hi2
  obtain rfl : w2 = (.int i2) := Option.some.inj e2
  obtain ⟨i3, e3⟩ := is_v hi3
  obtain rfl : w3 = (.int i3) := Option.some.inj e3
  obtain ⟨i4, e4⟩ := is_v hi4
  obtain rfl : w4 = (.int i4) := Option.some.inj e4
  obtain ⟨i5, e5⟩ := isL_v hi5
  obtain rfl : w5 = (.long i5) := Option.some.inj e5
  obtain ⟨n, o, h1, h2, h3, v, L, rfl, ⟨rfl, N, -⟩, hq⟩ := own_law hw p e ha hc hk s m _ below hf ((Spec.applies_iff_loose hf).mp happ).1 ⟨rfl, State.Warmed39.refl s, rfl⟩ trivial
  refine ⟨n, _, h1, h2, h3, hpost _ _ _ _ _ _ ⟨Cond.after_iff.mpr rfl, Cond.after_iff.mpr (eq_i res_at (Term.int_eval (1)) rfl), trivial⟩ ⟨hq.1, hq.2.1, (hq.2.2.sift fun y hy => Or.inr (N y hy)).mono (by decide) (by decide)⟩⟩
theorem main_1_1 : Claimed_1_1 := comes_1 fun _ _ _ _ _ _ h hF => ⟨h.1, hF⟩
theorem main_1_2 : Claimed_1_2 := comes_1 fun _ _ _ _ _ _ h hF => ⟨h.2.1, hF⟩
end Jvm.Pilot.@@N@@
namespace Jvm.Pilot.@@N@@
open Jvm Jvm.ClassFile Sem Op Lib Jvm.Free Jvm.Stand Jvm.Pilot.@@N@@.Jvm.D
/-! MADE BY PROGRAM (witnessworld.py) out of the Statement's table words and the real class files: 12 classes; the members and pool entries that the words name. The judged class is class 1, her method 1. -/
namespace start1
open Jvm.ClassFile
def u (s : String) : CpInfo := .utf8 (stringToUtf16 s)
/-- a pool by its gaps: so many unusable entries, then the entry; so many at the end -/
def gap : Nat → List CpInfo → List CpInfo
  | 0, r => r
  | n + 1, r => .unusable :: gap n r
def poolList (es : List (Nat × CpInfo)) (last : Nat) : List CpInfo := es.foldr (fun e r => gap e.1 (e.2 :: r)) (gap last [])
def pool (es : List (Nat × CpInfo)) (last : Nat) : Array CpInfo := ⟨poolList es last⟩
def fileOf (pool : Array CpInfo) (this : Nat) (attrs : Array Attribute := #[]) (ms : Array MethodInfo := #[]) (fl : Nat := 33) (sup : Nat := 0) (ifs : Array Nat := #[]) (fds : Array FieldInfo := #[]) : ClassFile where
  minorVersion := 0
  majorVersion := 65
  constantPool := pool
  accessFlags := fl
  thisClass := this
  superClass := sup
  interfaces := ifs
  fields := fds
  methods := ms
  attributes := attrs
def plain (name : String) (sup : Option ClassId) : Class where
  name := name
  kind := .ordinary
  loader := none
  accessFlags := 33
  super := sup
  interfaces := #[]
  cf := none
  fields := #[]
  methods := #[]
  instanceTypes := #[]
  staticTypes := #[]
  resolved := #[]
  callSites := []
  init := .initialized
  statics := none
  mirror := none

def pool0 : Array CpInfo := pool [(5, u "<init>"), (0, u "()V"), (1, .class_ 10), (1, u "java/lang/Object")] 113

def k0c0 : Code := { maxStack := 0, maxLocals := 1, code := object_method_1_code, exceptionTable := #[], attributes := #[] }
def k0m0 : Method := { name := "<init>", desc := "()V", sig := { parameters := [], returnType := none }, accessFlags := 1, code := some k0c0 }
/-- java/lang/Object -/
def k0 : Class := { plain "java/lang/Object" none with
  accessFlags := 33
  interfaces := #[]
  cf := some (fileOf pool0 8 #[] #[{ accessFlags := 1, nameIndex := 5, descriptorIndex := 6, attributes := #[] }] 33 0 #[] #[])
  fields := #[]
  methods := #[k0m0]
  instanceTypes := #[]
  staticTypes := #[]
  resolved := Array.replicate 124 none
  statics := none }

def pool1 : Array CpInfo := pool [(2, .class_ 4), (1, u "java/lang/Object"), (0, u "<init>"), (0, u "()V"), (0, .methodref 8 9), (0, .class_ 10), (0, .nameAndType 11 12), (0, u "com/example/fuseplan/fuseplan/runtime/OperandGatherPinLaw"), (0, u "v"), (0, u "(JI)D"), (0, .methodref 8 14), (0, .nameAndType 15 16), (0, u "pick"), (0, u "(III)I"), (0, .double 4696837146684686336), (1, .class_ 20), (0, u "com/example/fuseplan/fuseplan/runtime/Operand"), (0, .methodref 19 22), (0, .nameAndType 5 23), (0, u "([DII)V"), (0, .methodref 19 25), (0, .nameAndType 26 27), (0, u "gather"), (0, u "([I[II[D)V"), (0, .methodref 8 29), (0, .nameAndType 30 31), (0, u "want"), (0, u "(II[DII)D"), (0, .methodref 8 33), (0, .nameAndType 34 35), (0, u "ok"), (0, u "([DIID)Z"), (0, .long 15), (3, u "law"), (0, u "(IIIIIJ)Z")] 7

def k1m0 : Method := { name := "<init>", desc := "()V", sig := { parameters := [], returnType := none }, accessFlags := 1, code := none }
def k1c1 : Code := { maxStack := 9, maxLocals := 17, code := code, exceptionTable := #[], attributes := #[] }
def k1m1 : Method := { name := "law", desc := "(IIIIIJ)Z", sig := { parameters := [.int, .int, .int, .int, .int, .long], returnType := some .boolean }, accessFlags := 9, code := some k1c1 }
def k1c2 : Code := { maxStack := 3, maxLocals := 3, code := method_3_code, exceptionTable := #[], attributes := #[] }
def k1m2 : Method := { name := "pick", desc := "(III)I", sig := { parameters := [.int, .int, .int], returnType := some .int }, accessFlags := 10, code := some k1c2 }
def k1c3 : Code := { maxStack := 5, maxLocals := 3, code := method_4_code, exceptionTable := #[], attributes := #[] }
def k1m3 : Method := { name := "v", desc := "(JI)D", sig := { parameters := [.long, .int], returnType := some .double }, accessFlags := 10, code := some k1c3 }
def k1c4 : Code := { maxStack := 3, maxLocals := 5, code := method_5_code, exceptionTable := #[], attributes := #[] }
def k1m4 : Method := { name := "want", desc := "(II[DII)D", sig := { parameters := [.int, .int, (.array .double), .int, .int], returnType := some .double }, accessFlags := 10, code := some k1c4 }
def k1c5 : Code := { maxStack := 4, maxLocals := 5, code := method_6_code, exceptionTable := #[], attributes := #[] }
def k1m5 : Method := { name := "ok", desc := "([DIID)Z", sig := { parameters := [(.array .double), .int, .int, .double], returnType := some .boolean }, accessFlags := 10, code := some k1c5 }
/-- com/example/fuseplan/fuseplan/runtime/OperandGatherPinLaw -/
def k1 : Class := { plain "com/example/fuseplan/fuseplan/runtime/OperandGatherPinLaw" (some 0) with
  accessFlags := 49
  interfaces := #[]
  cf := some (fileOf pool1 8 #[] #[{ accessFlags := 1, nameIndex := 5, descriptorIndex := 6, attributes := #[] }, { accessFlags := 9, nameIndex := 40, descriptorIndex := 41, attributes := #[] }, { accessFlags := 10, nameIndex := 15, descriptorIndex := 16, attributes := #[] }, { accessFlags := 10, nameIndex := 11, descriptorIndex := 12, attributes := #[] }, { accessFlags := 10, nameIndex := 30, descriptorIndex := 31, attributes := #[] }, { accessFlags := 10, nameIndex := 34, descriptorIndex := 35, attributes := #[] }] 49 2 #[] #[])
  fields := #[]
  methods := #[k1m0, k1m1, k1m2, k1m3, k1m4, k1m5]
  instanceTypes := #[]
  staticTypes := #[]
  resolved := Array.replicate 49 none
  statics := none }

def pool2 : Array CpInfo := pool [(1, .methodref 2 3), (0, .class_ 4), (0, .nameAndType 5 6), (0, u "java/lang/Object"), (0, u "<init>"), (0, u "()V"), (0, .class_ 8), (0, u "java/lang/Record")] 13

def k2c0 : Code := { maxStack := 1, maxLocals := 1, code := jdk_30_method_1_code, exceptionTable := #[], attributes := #[] }
def k2m0 : Method := { name := "<init>", desc := "()V", sig := { parameters := [], returnType := none }, accessFlags := 4, code := some k2c0 }
/-- java/lang/Record -/
def k2 : Class := { plain "java/lang/Record" (some 0) with
  accessFlags := 1057
  interfaces := #[]
  cf := some (fileOf pool2 7 #[] #[{ accessFlags := 4, nameIndex := 5, descriptorIndex := 6, attributes := #[] }] 1057 2 #[] #[])
  fields := #[]
  methods := #[k2m0]
  instanceTypes := #[]
  staticTypes := #[]
  resolved := Array.replicate 22 none
  statics := none }

def pool3 : Array CpInfo := pool [(1, .methodref 2 3), (0, .class_ 4), (0, .nameAndType 5 6), (0, u "java/lang/Record"), (0, u "<init>"), (0, u "()V"), (0, .fieldref 8 9), (0, .class_ 10), (0, .nameAndType 11 12), (0, u "com/example/fuseplan/fuseplan/runtime/Operand"), (0, u "cells"), (0, u "[D"), (0, .fieldref 8 14), (0, .nameAndType 15 16), (0, u "rowStride"), (0, u "I"), (0, .fieldref 8 18), (0, .nameAndType 19 16), (0, u "colStride"), (14, u "([DII)V"), (43, u "gather"), (0, u "([I[II[D)V")] 24

def k3c0 : Code := { maxStack := 2, maxLocals := 4, code := prog_147_method_1_code, exceptionTable := #[], attributes := #[] }
def k3m0 : Method := { name := "<init>", desc := "([DII)V", sig := { parameters := [(.array .double), .int, .int], returnType := none }, accessFlags := 0, code := some k3c0 }
def k3c1 : Code := { maxStack := 6, maxLocals := 6, code := prog_147_method_5_code, exceptionTable := #[], attributes := #[] }
def k3m1 : Method := { name := "gather", desc := "([I[II[D)V", sig := { parameters := [(.array .int), (.array .int), .int, (.array .double)], returnType := none }, accessFlags := 0, code := some k3c1 }
/-- com/example/fuseplan/fuseplan/runtime/Operand -/
def k3 : Class := { plain "com/example/fuseplan/fuseplan/runtime/Operand" (some 2) with
  accessFlags := 48
  interfaces := #[]
  cf := some (fileOf pool3 8 #[] #[{ accessFlags := 0, nameIndex := 5, descriptorIndex := 34, attributes := #[] }, { accessFlags := 0, nameIndex := 78, descriptorIndex := 79, attributes := #[] }] 48 2 #[] #[{ accessFlags := 18, nameIndex := 11, descriptorIndex := 12, attributes := #[] }, { accessFlags := 18, nameIndex := 15, descriptorIndex := 16, attributes := #[] }, { accessFlags := 18, nameIndex := 19, descriptorIndex := 16, attributes := #[] }])
  fields := #[{ name := "cells", type := (.array .double), accessFlags := 18, slot := 0, constantValue := 0 }, { name := "rowStride", type := .int, accessFlags := 18, slot := 1, constantValue := 0 }, { name := "colStride", type := .int, accessFlags := 18, slot := 2, constantValue := 0 }]
  methods := #[k3m0, k3m1]
  instanceTypes := #[(.array .double), .int, .int]
  staticTypes := #[]
  resolved := Array.replicate 104 none
  statics := none }

def pool4 : Array CpInfo := pool [(1, u "java/lang/Cloneable"), (0, .class_ 1), (0, u "java/lang/Object"), (0, .class_ 3)] 3

/-- java/lang/Cloneable -/
def k4 : Class := { plain "java/lang/Cloneable" (some 0) with
  accessFlags := 1537
  interfaces := #[]
  cf := some (fileOf pool4 2 #[] #[] 1537 4 #[] #[])
  fields := #[]
  methods := #[]
  instanceTypes := #[]
  staticTypes := #[]
  resolved := Array.replicate 8 none
  statics := none }

def pool5 : Array CpInfo := pool [(1, u "java/io/Serializable"), (0, .class_ 1), (0, u "java/lang/Object"), (0, .class_ 3)] 3

/-- java/io/Serializable -/
def k5 : Class := { plain "java/io/Serializable" (some 0) with
  accessFlags := 1537
  interfaces := #[]
  cf := some (fileOf pool5 2 #[] #[] 1537 4 #[] #[])
  fields := #[]
  methods := #[]
  instanceTypes := #[]
  staticTypes := #[]
  resolved := Array.replicate 8 none
  statics := none }

/-- the primitive byte -/
def k6 : Class := { plain "byte" none with kind := .primitive 'B', accessFlags := 0x411 }
/-- [B -/
def k7 : Class := { plain "[B" (some 0) with kind := .array 6 .byte, interfaces := #[4, 5], accessFlags := 1041 }

/-- the primitive double -/
def k8 : Class := { plain "double" none with kind := .primitive 'D', accessFlags := 0x411 }
/-- [D -/
def k9 : Class := { plain "[D" (some 0) with kind := .array 8 .double, interfaces := #[4, 5], accessFlags := 1041 }

/-- the primitive int -/
def k10 : Class := { plain "int" none with kind := .primitive 'I', accessFlags := 0x411 }
/-- [I -/
def k11 : Class := { plain "[I" (some 0) with kind := .array 10 .int, interfaces := #[4, 5], accessFlags := 1041 }

def heap : Heap := #[]
def classes : Array Class := #[k0, k1, k2, k3, k4, k5, k6, k7, k8, k9, k10, k11]
def interned : List (Array UInt16 × Addr) := []
def slotsUsed : Nat := 0
def theMethod : MethodId := ⟨1, 1⟩
def args0 : Array Value := #[.int 5, .int 2, .int 5, .int 2, .int 5, .long 2]
def aboutOver (below : List Frame) : State where
  vm := { classes := classes, interned := interned.toArray }
  heap := heap
  slotsUsed := slotsUsed
  threads := #[{ frames := .invoking theMethod args0 :: below }]
def below0 : List Frame := [.native { method := ⟨0, 0⟩, args := #[] }]
def about1 : State := aboutOver below0
def p0 : Program := .bare "" "" ""
def e0 : Env := launch0.env 0 0 0
theorem w_frames : about1.frames = Frame.invoking theMethod args0 :: below0 := rfl
set_option maxRecDepth 65536 in
theorem w_args : argsFit about1.vm theMethod args0 = true := by decide +kernel
set_option maxRecDepth 65536 in
theorem w_heap : heapFits about1 = true := by decide +kernel
set_option maxRecDepth 65536 in
theorem w_runnable : about1.curStatus? = some .runnable := by decide +kernel
set_option maxRecDepth 65536 in
theorem w_alone : about1.alone = true := by decide +kernel
set_option maxRecDepth 65536 in
theorem w_named : about1.methodNamed? x = some theMethod := by decide +kernel
set_option maxRecDepth 65536 in
theorem w_hears : about1.hears theMethod below0 = true := by decide +kernel
set_option maxRecDepth 65536 in
theorem w_ripe : about1.ripe theMethod args0 below0 = true := by decide +kernel
theorem w_running : about1.status = .running := rfl
set_option maxRecDepth 65536 in
theorem w_room : about1.hasRoom e0.platform room_1 = true :=
  launch0.hasRoom_least _ room_1 (by decide +kernel) (by decide +kernel) (by decide +kernel) (by decide +kernel) (by decide +kernel) (by decide +kernel)
theorem allAtoms_all (ts : List Jvm.Cond) (a : Array Jvm.Value) (st : Jvm.State) : (allAtoms ts).before a st = ts.all (fun c => c.before a st) := by
  induction ts with
  | nil => rfl
  | cons c t ih =>
    show (Jvm.Cond.and c (allAtoms t)).before a st = _
    rw [Jvm.Cond.before_and, ih, List.all_cons]
def words1 : List Jvm.Cond := Jvm.Cond.code x code maxLocals ret :: tables_1
/-- a 'code' word, met by the world's own term for the bytes: nothing is compared byte by byte -/
theorem code_word {y : MethodName} {bytes : ByteArray} {mx : Nat} {rt : Option FieldType} {a : Array Value} {s : State} {m : MethodId} {meth : Method} {c : Code} (h1 : s.methodNamed? y = some m) (h2 : s.vm.method? m = some meth) (h3 : meth.code = some c) (h4 : c.code = bytes)
    (h5 : (c.maxLocals == mx && c.exceptionTable.isEmpty && decide (c.maxStack ≤ mostOperands) && decide (meth.sig.returnType = rt) && !meth.locks && decide (parseMethodDescriptor y.desc = some meth.sig)) = true) : (Jvm.Cond.code y bytes mx rt).before a s = true := by
  simp only [Bool.and_eq_true, beq_iff_eq, Bool.not_eq_true', decide_eq_true_eq] at h5
  obtain ⟨⟨⟨⟨⟨g1, g2⟩, g3⟩, g4⟩, g5⟩, g6⟩ := h5
  simp [Cond.before, Cond.holds, Cond.value, h1, h2, h3, h4, g1, g2, g3, g4, g5, g6]
def isCode : Jvm.Cond → Bool
  | .code _ _ _ _ => true
  | _ => false
theorem all_split {L : List Jvm.Cond} {P : Jvm.Cond → Bool} (h1 : L.all (fun c => isCode c || P c) = true) (h2 : ∀ c ∈ L.filter isCode, P c = true) : L.all P = true := by
  refine List.all_eq_true.mpr fun c hc => ?_
  have h := List.all_eq_true.mp h1 c hc
  rcases Bool.eq_false_or_eq_true (isCode c) with hi | hi
  · exact h2 c (List.mem_filter.mpr ⟨hc, hi⟩)
  · simpa [hi] using h
set_option maxRecDepth 65536 in
theorem w_c0 : (Jvm.Cond.code x code maxLocals ret).before args0 about1 = true := code_word (m := ⟨1, 1⟩) (meth := k1m1) (c := k1c1) (by decide +kernel) rfl rfl rfl (by decide +kernel)
set_option maxRecDepth 65536 in
theorem w_c1 : (Jvm.Cond.code ({ cls := "com/example/fuseplan/fuseplan/runtime/OperandGatherPinLaw", name := "v", desc := "(JI)D" } : Jvm.MethodName) method_4_code (3 : Nat) (Option.some Jvm.ClassFile.FieldType.double)).before args0 about1 = true := code_word (m := ⟨1, 3⟩) (meth := k1m3) (c := k1c3) (by decide +kernel) rfl rfl rfl (by decide +kernel)
set_option maxRecDepth 65536 in
theorem w_c2 : (Jvm.Cond.code ({ cls := "com/example/fuseplan/fuseplan/runtime/OperandGatherPinLaw", name := "pick", desc := "(III)I" } : Jvm.MethodName) method_3_code (3 : Nat) (Option.some Jvm.ClassFile.FieldType.int)).before args0 about1 = true := code_word (m := ⟨1, 2⟩) (meth := k1m2) (c := k1c2) (by decide +kernel) rfl rfl rfl (by decide +kernel)
set_option maxRecDepth 65536 in
theorem w_c3 : (Jvm.Cond.code ({ cls := "com/example/fuseplan/fuseplan/runtime/Operand", name := "<init>", desc := "([DII)V" } : Jvm.MethodName) prog_147_method_1_code (4 : Nat) (Option.none : Option Jvm.ClassFile.FieldType)).before args0 about1 = true := code_word (m := ⟨3, 0⟩) (meth := k3m0) (c := k3c0) (by decide +kernel) rfl rfl rfl (by decide +kernel)
set_option maxRecDepth 65536 in
theorem w_c4 : (Jvm.Cond.code ({ cls := "java/lang/Record", name := "<init>", desc := "()V" } : Jvm.MethodName) jdk_30_method_1_code (1 : Nat) (Option.none : Option Jvm.ClassFile.FieldType)).before args0 about1 = true := code_word (m := ⟨2, 0⟩) (meth := k2m0) (c := k2c0) (by decide +kernel) rfl rfl rfl (by decide +kernel)
set_option maxRecDepth 65536 in
theorem w_c5 : (Jvm.Cond.code ({ cls := "java/lang/Object", name := "<init>", desc := "()V" } : Jvm.MethodName) object_method_1_code (1 : Nat) (Option.none : Option Jvm.ClassFile.FieldType)).before args0 about1 = true := code_word (m := ⟨0, 0⟩) (meth := k0m0) (c := k0c0) (by decide +kernel) rfl rfl rfl (by decide +kernel)
set_option maxRecDepth 65536 in
theorem w_c6 : (Jvm.Cond.code ({ cls := "com/example/fuseplan/fuseplan/runtime/Operand", name := "gather", desc := "([I[II[D)V" } : Jvm.MethodName) prog_147_method_5_code (6 : Nat) (Option.none : Option Jvm.ClassFile.FieldType)).before args0 about1 = true := code_word (m := ⟨3, 1⟩) (meth := k3m1) (c := k3c1) (by decide +kernel) rfl rfl rfl (by decide +kernel)
set_option maxRecDepth 65536 in
theorem w_c7 : (Jvm.Cond.code ({ cls := "com/example/fuseplan/fuseplan/runtime/OperandGatherPinLaw", name := "want", desc := "(II[DII)D" } : Jvm.MethodName) method_5_code (5 : Nat) (Option.some Jvm.ClassFile.FieldType.double)).before args0 about1 = true := code_word (m := ⟨1, 4⟩) (meth := k1m4) (c := k1c4) (by decide +kernel) rfl rfl rfl (by decide +kernel)
set_option maxRecDepth 65536 in
theorem w_c8 : (Jvm.Cond.code ({ cls := "com/example/fuseplan/fuseplan/runtime/OperandGatherPinLaw", name := "ok", desc := "([DIID)Z" } : Jvm.MethodName) method_6_code (5 : Nat) (Option.some Jvm.ClassFile.FieldType.boolean)).before args0 about1 = true := code_word (m := ⟨1, 5⟩) (meth := k1m5) (c := k1c5) (by decide +kernel) rfl rfl rfl (by decide +kernel)
def codes1 : List Jvm.Cond := [Jvm.Cond.code x code maxLocals ret, Jvm.Cond.code ({ cls := "com/example/fuseplan/fuseplan/runtime/OperandGatherPinLaw", name := "v", desc := "(JI)D" } : Jvm.MethodName) method_4_code (3 : Nat) (Option.some Jvm.ClassFile.FieldType.double), Jvm.Cond.code ({ cls := "com/example/fuseplan/fuseplan/runtime/OperandGatherPinLaw", name := "pick", desc := "(III)I" } : Jvm.MethodName) method_3_code (3 : Nat) (Option.some Jvm.ClassFile.FieldType.int), Jvm.Cond.code ({ cls := "com/example/fuseplan/fuseplan/runtime/Operand", name := "<init>", desc := "([DII)V" } : Jvm.MethodName) prog_147_method_1_code (4 : Nat) (Option.none : Option Jvm.ClassFile.FieldType), Jvm.Cond.code ({ cls := "java/lang/Record", name := "<init>", desc := "()V" } : Jvm.MethodName) jdk_30_method_1_code (1 : Nat) (Option.none : Option Jvm.ClassFile.FieldType), Jvm.Cond.code ({ cls := "java/lang/Object", name := "<init>", desc := "()V" } : Jvm.MethodName) object_method_1_code (1 : Nat) (Option.none : Option Jvm.ClassFile.FieldType), Jvm.Cond.code ({ cls := "com/example/fuseplan/fuseplan/runtime/Operand", name := "gather", desc := "([I[II[D)V" } : Jvm.MethodName) prog_147_method_5_code (6 : Nat) (Option.none : Option Jvm.ClassFile.FieldType), Jvm.Cond.code ({ cls := "com/example/fuseplan/fuseplan/runtime/OperandGatherPinLaw", name := "want", desc := "(II[DII)D" } : Jvm.MethodName) method_5_code (5 : Nat) (Option.some Jvm.ClassFile.FieldType.double), Jvm.Cond.code ({ cls := "com/example/fuseplan/fuseplan/runtime/OperandGatherPinLaw", name := "ok", desc := "([DIID)Z" } : Jvm.MethodName) method_6_code (5 : Nat) (Option.some Jvm.ClassFile.FieldType.boolean)]
set_option maxRecDepth 65536 in
theorem codes_eq : words1.filter isCode = codes1 := rfl
theorem w_codes : ∀ c ∈ words1.filter isCode, c.before args0 about1 = true := by
  rw [codes_eq]
  intro c hc
  simp only [codes1, List.mem_cons, List.not_mem_nil, or_false] at hc
  rcases hc with rfl | rfl | rfl | rfl | rfl | rfl | rfl | rfl | rfl
  · exact w_c0
  · exact w_c1
  · exact w_c2
  · exact w_c3
  · exact w_c4
  · exact w_c5
  · exact w_c6
  · exact w_c7
  · exact w_c8
set_option maxRecDepth 65536 in
theorem w_t1 : (words1.take 24).all (fun c => isCode c || c.before args0 about1) = true := by decide +kernel
set_option maxRecDepth 65536 in
theorem w_t2 : (words1.drop 24).all (fun c => isCode c || c.before args0 about1) = true := by decide +kernel
theorem w_tables : (allAtoms (Jvm.Cond.code x code maxLocals ret :: tables_1)).before args0 about1 = true := by
  rw [allAtoms_all]
  show words1.all (fun c => c.before args0 about1) = true
  refine all_split ?_ w_codes
  rw [← List.take_append_drop 24 words1, List.all_append, w_t1, w_t2]
  rfl
set_option maxRecDepth 65536 in
theorem w_case : (Jvm.Cond.and given_1 narrow_1).before args0 about1 = true := by decide +kernel
theorem w_applies : (headSpec (Jvm.Cond.code x code maxLocals ret :: tables_1) room_1).applies x e0.platform about1 = true :=
  (Spec.applies_iff w_frames).mpr ⟨w_running, w_runnable, w_alone, w_named, w_hears, w_ripe, w_room, w_tables⟩
theorem atStart : AtStart classFile x code maxLocals ret World_1 tables_1 room_1 Calls_1 rest_1 Pre_1 launch0 p0 e0 about1 theMethod args0 below0 :=
  ⟨lists_1, trivial, launch0.admits_env _ _ _, launch0.least_env, fairChoices_fair.cas, fairChoices_fair.clock, w_frames, w_args, w_heap, w_applies, trivial, trivial, w_case⟩
end start1
theorem witness_1 : WitnessClaimed_1 := ⟨start1.p0, start1.e0, start1.about1, start1.theMethod, start1.args0, start1.below0, start1.atStart⟩
end Jvm.Pilot.@@N@@
