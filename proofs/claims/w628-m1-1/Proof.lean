import JvmDerived
import JvmDerived.Pilot.@@N@@Statement
import JvmDerived.Pilot.@@N@@Code
set_option linter.unusedVariables false
set_option linter.unusedSimpArgs false
@@BLOCK:NumsL.lean.txt@@
namespace Jvm.OwnKit
open Sem ClassFile Op Lib Jvm.Stand Jvm.Free Jvm.LawKit Jvm.RoadKit
/-! A small heap of our own: the cells made since the law began, in the order of their making: an array (its component type, its values) or an object (its class, its fields). -/
abbrev Cel := Sum (FieldType × List Value) (String × List (String × String × Value))
abbrev Cont := Nat → List Slot → List Value → List Cel → Nat → Nat → Prop
/-- the address of the i-th cell made -/
def ad (n i : Nat) : Nat := n + i
/-- every field of the list is laid in the class; one name, one descriptor -/
def LaidAll (Z : State) (C : String) (fs : List (String × String × Value)) : Prop := ∃ a0, ∀ f ∈ fs, Laid Z a0 C C f.1 f.2.1 ∧ (∃ ty, parseFieldDescriptor f.2.1 = some ty) ∧ ∀ f' ∈ fs, f'.1 = f.1 → f'.2.1 = f.2.1
def RepC (Z : State) (h : Heap) (a : Addr) : Cel → Prop
  | .inl (ty, vs) => ∃ cl : Cell, Arr Z h a cl ty ∧ cl.slots = vs.toArray
  | .inr (C, fs) => Exa Z h a C ∧ (∀ f ∈ fs, Fld Z h a C f.1 f.2.1 f.2.2) ∧ LaidAll Z C fs
def Rep (Z : State) (b h : Heap) (H : List Cel) : Prop := h.size = b.size + H.length ∧ ∀ i c, H[i]? = some c → RepC Z h (ad b.size i) c
theorem RepC.ext {Z : State} {h h' : Heap} {a : Addr} {c : Cel} (E : Ext h h') (r : RepC Z h a c) : RepC Z h' a c := by
  rcases c with ⟨ty, vs⟩ | ⟨C, fs⟩
  · obtain ⟨cl, A, e⟩ := r; exact ⟨cl, A.ext E, e⟩
  · exact ⟨r.1.ext E, fun f hf => (r.2.1 f hf).ext E, r.2.2⟩
theorem Rep.push {Z : State} {b h h' : Heap} {H : List Cel} {c : Cel} (r : Rep Z b h H) (E : Ext h h') (hs : h'.size = h.size + 1) (hc : RepC Z h' h.size c) : Rep Z b h' (H ++ [c]) := by
  refine ⟨by rw [hs, r.1]; simp [Nat.add_assoc], fun i c' hi => ?_⟩
  rcases Nat.lt_trichotomy i H.length with q | q | q
  · rw [List.getElem?_append_left q] at hi
    exact (r.2 i c' hi).ext E
  · subst q
    simp at hi; subst hi
    have e : ad b.size H.length = h.size := by rw [r.1]; rfl
    rw [e]; exact hc
  · rw [List.getElem?_eq_none (by simp; omega)] at hi; cases hi
theorem RepC.other {Z : State} {h h' : Heap} {a a' : Addr} {sl : Nat} {v : Value} {c : Cel} (W : Wr h h' a' sl v) (hne : a ≠ a') (r : RepC Z h a c) : RepC Z h' a c := by
  rcases c with ⟨ty, vs⟩ | ⟨C, fs⟩
  · obtain ⟨cl, A, e⟩ := r; exact ⟨cl, A.other W hne, e⟩
  · exact ⟨r.1.wr W, fun f hf => (r.2.1 f hf).other W (Or.inl hne), r.2.2⟩
theorem Rep.set {Z : State} {b h h' : Heap} {H : List Cel} {i : Nat} {c' : Cel} {sl : Nat} {v : Value} (r : Rep Z b h H) (W : Wr h h' (ad b.size i) sl v) (hc : RepC Z h' (ad b.size i) c') : Rep Z b h' (H.set i c') := by
  refine ⟨by rw [W.size, r.1]; simp, fun j c hj => ?_⟩
  by_cases e : j = i
  · subst e
    by_cases q : j < H.length
    · rw [List.getElem?_set_self q] at hj; cases hj; exact hc
    · rw [List.getElem?_eq_none (by simp; omega)] at hj; cases hj
  · rw [List.getElem?_set_ne (Ne.symm e)] at hj
    exact (r.2 j c hj).other W (by simp [ad]; omega)
theorem Rep.setArr {Z : State} {b h h' : Heap} {H : List Cel} {i : Nat} {ty : FieldType} {vs : List Value} {sl : Nat} {v : Value} (r : Rep Z b h H) (hi : H[i]? = some (.inl (ty, vs))) (W : Wr h h' (ad b.size i) sl v) : Rep Z b h' (H.set i (.inl (ty, vs.set sl v))) := by
  obtain ⟨cl, A, e⟩ := r.2 i _ hi
  exact r.set W ⟨_, A.same W, by simp [Cell.setSlot, e]⟩

/-! Where the walk stands, in plain words: from here the invocation ends, and what it returns and leaves fits K. -/
def G (code : ByteArray) (own nm : String) (maxL : Nat) (ret : Option FieldType) (R : Room) (W : List Jvm.Cond) (l : Launch) (Z : State) (b : Heap) (rc rs : Nat) (K : Option Value → List Cel → Prop)
    (pc : Nat) (ls : List Slot) (st : List Value) (H : List Cel) (cN sN : Nat) : Prop :=
  ∀ (p : Program) (e : Env) (s : State) (m : MethodId) (args : Array Value) (below : List Frame) (meth : Method) (c : Code) (T : State) (locs : List Loc) (a0 : Array Value),
    p.tables.exec = Jvm.exec → c.code = code → c.maxLocals = maxL → meth.sig.returnType = ret → meth.locks = false → meth.name = nm → Z.Warmed39 s.vm → s.vm.findClass own = some m.cls → (∀ d ∈ W, d.before a0 Z = true) →
    Stand p l e R s m args below meth c T locs cN sN → Fr b.size locs → Rep Z b T.heap H →
    ∃ s₂ o, Steps p.tables e below (T.setTop (mkF m pc ls.toArray st)) s₂ ∧ s₂.status = .running ∧ Ended s₂ below o ∧ ∃ v L, o = .returned v ∧ (Fr b.size L ∧ ∃ H', Rep Z b s₂.heap H' ∧ K v H') ∧ FrameEnd s o s₂ L rc rs
/-- what a method does, at these arguments and this heap -/
def Con (W : List Jvm.Cond) (l : Launch) (Z : State) (b : Heap) (y : MethodName) (bytes : ByteArray) (maxL : Nat) (ret : Option FieldType) (rm : Room) (as : List Value) (H : List Cel) (K : Option Value → List Cel → Prop) : Prop :=
  ∀ (a0 : Array Value) (h : Heap), (∀ d ∈ W, d.before a0 Z = true) → Rep Z b h H →
    MetFree l y (head1 [Jvm.Cond.code y bytes maxL ret] rm) (fun a U => a = as.toArray ∧ Z.Warmed39 U.vm ∧ U.heap = h) (fun _ _ _ _ _ => True)
      (fun _ U o U' => ∃ v L, o = .returned v ∧ (Fr b.size L ∧ ∃ H', Rep Z b U'.heap H' ∧ K v H') ∧ FrameEnd U o U' L rm.cells rm.slots)

section Steps
variable {code : ByteArray} {own nm : String} {maxL : Nat} {ret : Option FieldType} {R : Room} {W : List Jvm.Cond} {l : Launch} {Z : State} {b : Heap} {rc rs : Nat} {K : Option Value → List Cel → Prop}
variable {pc pc' : Nat} {ls ls' : List Slot} {st st' : List Value} {H H' : List Cel} {cN sN cN' sN' : Nat}
/-- a step that moves the frame alone -/
theorem G.pure (f : ∀ (p : Program) (e : Env) (s : State) (m : MethodId) (args : Array Value) (below : List Frame) (meth : Method) (c : Code) (T : State) (locs : List Loc) (a0 : Array Value),
      p.tables.exec = Jvm.exec → c.code = code → Z.Warmed39 s.vm → s.vm.findClass own = some m.cls → (∀ d ∈ W, d.before a0 Z = true) → Stand p l e R s m args below meth c T locs cN sN → Rep Z b T.heap H →
      ∀ target, Steps p.tables e below (T.setTop (mkF m pc' ls'.toArray st')) target → Steps p.tables e below (T.setTop (mkF m pc ls.toArray st)) target)
    (h : G code own nm maxL ret R W l Z b rc rs K pc' ls' st' H cN sN) : G code own nm maxL ret R W l Z b rc rs K pc ls st H cN sN := by
  intro p e s m args below meth c T locs a0 hx hc hm hr hk hn hZ ho hw X hF hR
  obtain ⟨s₂, o, h1, h2⟩ := h p e s m args below meth c T locs a0 hx hc hm hr hk hn hZ ho hw X hF hR
  exact ⟨s₂, o, f p e s m args below meth c T locs a0 hx hc hZ ho hw X hR _ h1, h2⟩
/-- a step that moves the heap too -/
theorem G.move (f : ∀ (p : Program) (e : Env) (s : State) (m : MethodId) (args : Array Value) (below : List Frame) (meth : Method) (c : Code) (T : State) (locs : List Loc) (a0 : Array Value),
      p.tables.exec = Jvm.exec → c.code = code → c.maxLocals = maxL → meth.name = nm → Z.Warmed39 s.vm → s.vm.findClass own = some m.cls → (∀ d ∈ W, d.before a0 Z = true) → Stand p l e R s m args below meth c T locs cN sN → Fr b.size locs → Rep Z b T.heap H →
      ∃ T' locs', Stand p l e R s m args below meth c T' locs' cN' sN' ∧ Fr b.size locs' ∧ Rep Z b T'.heap H' ∧
        ∀ target, Steps p.tables e below (T'.setTop (mkF m pc' ls'.toArray st')) target → Steps p.tables e below (T.setTop (mkF m pc ls.toArray st)) target)
    (h : G code own nm maxL ret R W l Z b rc rs K pc' ls' st' H' cN' sN') : G code own nm maxL ret R W l Z b rc rs K pc ls st H cN sN := by
  intro p e s m args below meth c T locs a0 hx hc hm hr hk hn hZ ho hw X hF hR
  obtain ⟨T', locs', X', hF', hR', st⟩ := f p e s m args below meth c T locs a0 hx hc hm hn hZ ho hw X hF hR
  obtain ⟨s₂, o, h1, h2⟩ := h p e s m args below meth c T' locs' a0 hx hc hm hr hk hn hZ ho hw X' hF' hR'
  exact ⟨s₂, o, st _ h1, h2⟩
/-- the return -/
theorem G.leave {v : Option Value} (hv : ret = none → v = none)
    (f : ∀ (p : Program) (e : Env) (s : State) (m : MethodId) (args : Array Value) (below : List Frame) (meth : Method) (c : Code) (T : State) (locs : List Loc),
      p.tables.exec = Jvm.exec → c.code = code → meth.sig.returnType = ret → Stand p l e R s m args below meth c T locs cN sN →
      ∀ fs, (∀ (f : JFrame) (acts : List Action), f.method = m → f.locked = none → f.entered = [] → (doReturn e (T.setTop f) acts v).1 = T.setFrames fs) →
      Steps p.tables e below (T.setTop (mkF m pc ls.toArray st)) (T.setFrames fs))
    (hc : cN ≤ rc) (hs : sN ≤ rs) (hK : K v H) : G code own nm maxL ret R W l Z b rc rs K pc ls st H cN sN := by
  intro p e s m args below meth c T locs a0 hx hcd hm hr hk hn hZ ho hw X hF hR
  obtain ⟨fs, hfs, hrun, hended, hW, hsame⟩ := X.leave (v := v) (fun q => hv (hr ▸ q)) hk
  exact ⟨_, _, f p e s m args below meth c T locs hx hcd hr X fs hfs, hrun, hended, v, locs, rfl, ⟨hF, H, hR, hK⟩, ⟨v, rfl⟩, hW, hsame.mono hc hs⟩
/-- a walk from the entry, as a free contract -/
theorem G.met {y : MethodName} {rm : Room} {as : List Value} {ws : List Jvm.Cond} (hy : plainFor y = true) (ef : ∀ m, entryFrame m as.toArray maxL = mkF m 0 ls.toArray [])
    (g : G code y.cls y.name maxL ret rm W l Z b rc rs K 0 ls [] H 0 0) (a0 : Array Value) (h : Heap) (hw : ∀ d ∈ W, d.before a0 Z = true) (hR : Rep Z b h H) :
    MetFree l y (head1 (Jvm.Cond.code y code maxL ret :: ws) rm) (fun a U => a = as.toArray ∧ Z.Warmed39 U.vm ∧ U.heap = h) (fun _ _ _ _ _ => True)
      (fun _ U o U' => ∃ v L, o = .returned v ∧ (Fr b.size L ∧ ∃ H', Rep Z b U'.heap H' ∧ K v H') ∧ FrameEnd U o U' L rc rs) := by
  refine MetFree.of_bodySF hy hisR ?_
  intro p e s m args below meth c s₁ Bd hml hP _
  obtain ⟨rfl, hZ, hh⟩ := hP
  have X0 : Stand p l e rm s m as.toArray below meth c s₁ [] 0 0 := Stand.of_body Bd
  have e0 : s₁.heap = h := by rw [← hh, Bd.state]; rfl
  obtain ⟨s₂, o, h1, h2, h3, v, L, h4, h5, h6⟩ := g p e s m _ below meth c s₁ [] a0 Bd.exec Bd.bytes hml Bd.returns Bd.notSynchronized (name_of_methodNamed Bd.named Bd.method).1 hZ (findClass_of_methodNamed Bd.named) hw X0 (Fr.nil _) (by rw [e0]; exact hR)
  exact ⟨s₂, o, castTop (ef m) h1, h2, h3, v, L, h4, h5, h6⟩
theorem G.con {y : MethodName} {rm : Room} {as : List Value} (hy : plainFor y = true) (ef : ∀ m, entryFrame m as.toArray maxL = mkF m 0 ls.toArray [])
    (g : G code y.cls y.name maxL ret rm W l Z b rm.cells rm.slots K 0 ls [] H 0 0) : Con W l Z b y code maxL ret rm as H K := fun a0 h hw hR => G.met hy ef g a0 h hw hR
/-- just this is returned, just this heap left -/
def is (v : Option Value) (H : List Cel) : Option Value → List Cel → Prop := fun v' H' => v' = v ∧ H' = H
/-- some byte is returned, the heap left as it was -/
def byt (H : List Cel) : Option Value → List Cel → Prop := fun v H' => ∃ y, v = some (.int y) ∧ nar .byte y = y ∧ H' = H
theorem is_self {v : Option Value} {H : List Cel} : is v H v H := ⟨rfl, rfl⟩
end Steps
end Jvm.OwnKit
namespace Jvm.OwnKit
open Sem ClassFile Op Lib Jvm.Stand Jvm.Free Jvm.LawKit Jvm.RoadKit
def popI (st : List Value) (f : Int32 → List Value → Prop) : Prop := match st with | .int x :: r => f x r | _ => False
def popJ (st : List Value) (f : Int64 → List Value → Prop) : Prop := match st with | .long x :: r => f x r | _ => False
def popR (st : List Value) (f : Nat → List Value → Prop) : Prop := match st with | .ref x :: r => f x r | _ => False
def pop1 (st : List Value) (f : Value → List Value → Prop) : Prop := match st with | .int x :: r => f (.int x) r | .ref x :: r => f (.ref x) r | .null :: r => f .null r | _ => False
def popA (st : List Value) (f : Value → List Value → Prop) : Prop := match st with | .ref x :: r => f (.ref x) r | .null :: r => f .null r | _ => False
theorem popI_c {x : Int32} {r : List Value} {f : Int32 → List Value → Prop} : popI (.int x :: r) f = f x r := propext Iff.rfl
theorem popJ_c {x : Int64} {r : List Value} {f : Int64 → List Value → Prop} : popJ (.long x :: r) f = f x r := propext Iff.rfl
theorem popR_c {x : Nat} {r : List Value} {f : Nat → List Value → Prop} : popR (.ref x :: r) f = f x r := propext Iff.rfl
theorem pop1_i {x : Int32} {r : List Value} {f : Value → List Value → Prop} : pop1 (.int x :: r) f = f (.int x) r := propext Iff.rfl
theorem pop1_r {x : Nat} {r : List Value} {f : Value → List Value → Prop} : pop1 (.ref x :: r) f = f (.ref x) r := propext Iff.rfl
theorem pop1_n {r : List Value} {f : Value → List Value → Prop} : pop1 (.null :: r) f = f .null r := propext Iff.rfl
theorem popA_r {x : Nat} {r : List Value} {f : Value → List Value → Prop} : popA (.ref x :: r) f = f (.ref x) r := propext Iff.rfl
theorem popA_n {r : List Value} {f : Value → List Value → Prop} : popA (.null :: r) f = f .null r := propext Iff.rfl
theorem popI_e {st : List Value} {f : Int32 → List Value → Prop} (h : popI st f) : ∃ x r, st = .int x :: r ∧ f x r := by unfold popI at h; split at h <;> first | exact ⟨_, _, rfl, h⟩ | exact h.elim
theorem popJ_e {st : List Value} {f : Int64 → List Value → Prop} (h : popJ st f) : ∃ x r, st = .long x :: r ∧ f x r := by unfold popJ at h; split at h <;> first | exact ⟨_, _, rfl, h⟩ | exact h.elim
theorem popR_e {st : List Value} {f : Nat → List Value → Prop} (h : popR st f) : ∃ x r, st = .ref x :: r ∧ f x r := by unfold popR at h; split at h <;> first | exact ⟨_, _, rfl, h⟩ | exact h.elim
theorem pop1_e {st : List Value} {f : Value → List Value → Prop} (h : pop1 st f) : ∃ x r, st = x :: r ∧ x.category = 1 ∧ f x r := by unfold pop1 at h; split at h <;> first | exact ⟨_, _, rfl, rfl, h⟩ | exact h.elim
theorem popA_e {st : List Value} {f : Value → List Value → Prop} (h : popA st f) : ∃ x r, st = x :: r ∧ x.isRef = true ∧ x.category = 1 ∧ f x r := by unfold popA at h; split at h <;> first | exact ⟨_, _, rfl, rfl, rfl, h⟩ | exact h.elim
/-! the local variables -/
def ldI (ls : List Slot) (k : Nat) (f : Int32 → Prop) : Prop := match ls[k]? with | some (.val (.int v)) => f v | _ => False
def ldJ (ls : List Slot) (k : Nat) (f : Int64 → Prop) : Prop := match ls[k]? with | some (.val (.long v)) => f v | _ => False
def ldA (ls : List Slot) (k : Nat) (f : Value → Prop) : Prop := match ls[k]? with | some (.val (.ref v)) => f (.ref v) | some (.val .null) => f .null | _ => False
theorem ldI_z {v : Int32} {r : List Slot} {f : Int32 → Prop} : ldI (.val (.int v) :: r) 0 f = f v := propext Iff.rfl
theorem ldJ_z {v : Int64} {r : List Slot} {f : Int64 → Prop} : ldJ (.val (.long v) :: r) 0 f = f v := propext Iff.rfl
theorem ldA_z {v : Nat} {r : List Slot} {f : Value → Prop} : ldA (.val (.ref v) :: r) 0 f = f (.ref v) := propext Iff.rfl
theorem ldA_n {r : List Slot} {f : Value → Prop} : ldA (.val .null :: r) 0 f = f .null := propext Iff.rfl
theorem ldI_s {x : Slot} {r : List Slot} {k : Nat} {f : Int32 → Prop} : ldI (x :: r) (k + 1) f = ldI r k f := propext Iff.rfl
theorem ldJ_s {x : Slot} {r : List Slot} {k : Nat} {f : Int64 → Prop} : ldJ (x :: r) (k + 1) f = ldJ r k f := propext Iff.rfl
theorem ldA_s {x : Slot} {r : List Slot} {k : Nat} {f : Value → Prop} : ldA (x :: r) (k + 1) f = ldA r k f := propext Iff.rfl
theorem ldI_e {ls : List Slot} {k : Nat} {f : Int32 → Prop} (h : ldI ls k f) : ∃ v, ls[k]? = some (.val (.int v)) ∧ f v := by unfold ldI at h; split at h <;> first | exact ⟨_, by assumption, h⟩ | exact h.elim
theorem ldJ_e {ls : List Slot} {k : Nat} {f : Int64 → Prop} (h : ldJ ls k f) : ∃ v, ls[k]? = some (.val (.long v)) ∧ f v := by unfold ldJ at h; split at h <;> first | exact ⟨_, by assumption, h⟩ | exact h.elim
theorem ldA_e {ls : List Slot} {k : Nat} {f : Value → Prop} (h : ldA ls k f) : ∃ v, ls[k]? = some (.val v) ∧ v.isRef = true ∧ f v := by unfold ldA at h; split at h <;> first | exact ⟨_, by assumption, rfl, h⟩ | exact h.elim
/-- a store of one word: where it falls into half of a long, the other half is unset -/
def sto1 (ls : List Slot) (k : Nat) (v : Value) (f : List Slot → Prop) : Prop := match ls[k]? with
  | some .unset => f (ls.set k (.val v))
  | some (.val (.int _)) => f (ls.set k (.val v))
  | some (.val (.ref _)) => f (ls.set k (.val v))
  | some (.val .null) => f (ls.set k (.val v))
  | _ => False
/-- a store of two words, over places that hold no half of another long; or over the very same long -/
def free1 (o : Option Slot) : Bool := match o with | some .unset => true | some (.val (.int _)) => true | some (.val (.ref _)) => true | some (.val .null) => true | _ => false
def sto2 (ls : List Slot) (k : Nat) (v : Value) (f : List Slot → Prop) : Prop := match ls[k]? with
  | some (.val (.long _)) => ls[k + 1]? = some .second ∧ f ((ls.set k (.val v)).set (k + 1) .second)
  | o => free1 o = true ∧ free1 ls[k + 1]? = true ∧ f ((ls.set k (.val v)).set (k + 1) .second)
theorem sto1_u {r : List Slot} {v : Value} {f : List Slot → Prop} : sto1 (.unset :: r) 0 v f = f (.val v :: r) := propext Iff.rfl
theorem sto1_i {x : Int32} {r : List Slot} {v : Value} {f : List Slot → Prop} : sto1 (.val (.int x) :: r) 0 v f = f (.val v :: r) := propext Iff.rfl
theorem sto1_r {x : Nat} {r : List Slot} {v : Value} {f : List Slot → Prop} : sto1 (.val (.ref x) :: r) 0 v f = f (.val v :: r) := propext Iff.rfl
theorem sto1_n {r : List Slot} {v : Value} {f : List Slot → Prop} : sto1 (.val .null :: r) 0 v f = f (.val v :: r) := propext Iff.rfl
theorem sto1_s {x : Slot} {r : List Slot} {k : Nat} {v : Value} {f : List Slot → Prop} : sto1 (x :: r) (k + 1) v f = sto1 r k v fun l => f (x :: l) := propext Iff.rfl
theorem sto2_u {r : List Slot} {v : Value} {f : List Slot → Prop} : sto2 (.unset :: .unset :: r) 0 v f = f (.val v :: .second :: r) := by simp [sto2, free1]
theorem sto2_l {x : Int64} {r : List Slot} {v : Value} {f : List Slot → Prop} : sto2 (.val (.long x) :: .second :: r) 0 v f = f (.val v :: .second :: r) := by simp [sto2]
theorem sto2_s {x : Slot} {r : List Slot} {k : Nat} {v : Value} {f : List Slot → Prop} : sto2 (x :: r) (k + 1) v f = sto2 r k v fun l => f (x :: l) := by simp [sto2]
theorem sto1_e {ls : List Slot} {k : Nat} {v : Value} {f : List Slot → Prop} (hv : v.category = 1) (h : sto1 ls k v f) : ∃ l', storeLocals ls.toArray k v = some l'.toArray ∧ f l' := by
  unfold sto1 at h
  split at h
  all_goals first
    | exact h.elim
    | (rename_i q
       refine ⟨_, ?_, h⟩
       rw [storeLocals_cat1 (by rw [List.getElem?_toArray]; exact q) hv (by first | exact trivial | rfl)]
       simp)
theorem free1_e {o : Option Slot} (h : free1 o = true) : ∃ x, o = some x ∧ (x = .unset ∨ ∃ w, x = .val w ∧ w.category = 1) := by
  unfold free1 at h
  split at h
  all_goals first
    | exact ⟨_, rfl, Or.inl rfl⟩
    | exact ⟨_, rfl, Or.inr ⟨_, rfl, rfl⟩⟩
    | cases h
theorem sto2_e {ls : List Slot} {k : Nat} {v : Value} {f : List Slot → Prop} (hv : v.category = 2) (h : sto2 ls k v f) : ∃ l', storeLocals ls.toArray k v = some l'.toArray ∧ f l' := by
  unfold sto2 at h
  split at h
  · rename_i w q
    obtain ⟨q1, h⟩ := h
    refine ⟨_, ?_, h⟩
    rw [Fl.storeLocals_cat2 (by rw [List.getElem?_toArray]; exact q) (by rw [List.getElem?_toArray]; exact q1) hv (Or.inr ⟨⟨_, rfl, rfl⟩, rfl⟩)]
    simp
  · rename_i o _
    obtain ⟨q, q1, h⟩ := h
    refine ⟨_, ?_, h⟩
    obtain ⟨x, q, hx⟩ := free1_e q
    obtain ⟨x1, q1, hx1⟩ := free1_e q1
    have px : Fl.Plain1 x := by rcases hx with rfl | ⟨w, rfl, hw⟩ <;> first | exact trivial | exact hw
    have px1 : Fl.Plain1 x1 := by rcases hx1 with rfl | ⟨w, rfl, hw⟩ <;> first | exact trivial | exact hw
    rw [Fl.storeLocals_cat2 (by rw [List.getElem?_toArray]; exact q) (by rw [List.getElem?_toArray]; exact q1) hv (Or.inl ⟨px, px1⟩)]
    simp
/-! the cells -/
def arrI (H : List Cel) (i : Nat) (f : FieldType → List Value → Prop) : Prop := match H[i]? with | some (.inl (ty, vs)) => f ty vs | _ => False
def arr (H : List Cel) (n a : Nat) (f : Nat → FieldType → List Value → Prop) : Prop := ∃ i, a = ad n i ∧ arrI H i (f i)
theorem arrI_z {ty : FieldType} {vs : List Value} {H : List Cel} {f : FieldType → List Value → Prop} : arrI (.inl (ty, vs) :: H) 0 f = f ty vs := propext Iff.rfl
theorem arrI_s {c : Cel} {H : List Cel} {i : Nat} {f : FieldType → List Value → Prop} : arrI (c :: H) (i + 1) f = arrI H i f := propext Iff.rfl
theorem arr_c {H : List Cel} {n i : Nat} {f : Nat → FieldType → List Value → Prop} : arr H n (ad n i) f = arrI H i (f i) :=
  propext ⟨fun ⟨j, e, h⟩ => by obtain rfl : i = j := by simp [ad] at e; exact e
                               exact h, fun h => ⟨i, rfl, h⟩⟩
theorem arr_e {H : List Cel} {n a : Nat} {f : Nat → FieldType → List Value → Prop} (h : arr H n a f) : ∃ i ty vs, a = ad n i ∧ H[i]? = some (.inl (ty, vs)) ∧ f i ty vs := by
  obtain ⟨i, e, h⟩ := h
  unfold arrI at h
  split at h
  · exact ⟨i, _, _, e, by assumption, h⟩
  · exact h.elim
def idxN (vs : List Value) (n : Nat) (f : Value → Prop) : Prop := match vs[n]? with | some v => f v | none => False
theorem idxN_z {v : Value} {vs : List Value} {f : Value → Prop} : idxN (v :: vs) 0 f = f v := propext Iff.rfl
theorem idxN_s {v : Value} {vs : List Value} {n : Nat} {f : Value → Prop} : idxN (v :: vs) (n + 1) f = idxN vs n f := propext Iff.rfl
theorem idxN_c {v : Value} {vs : List Value} {n : Nat} {f : Value → Prop} : idxN (v :: vs) n f = if n = 0 then f v else idxN vs (n - 1) f := by cases n <;> simp [idxN]
def idx (vs : List Value) (j : Int32) (f : Value → Prop) : Prop := if j < 0 then False else idxN vs j.toNatClampNeg f
theorem idx_c {vs : List Value} {j : Int32} {f : Value → Prop} : idx vs j f = if j < 0 then False else idxN vs j.toNatClampNeg f := propext Iff.rfl
theorem idx_e {vs : List Value} {j : Int32} {f : Value → Prop} (h : idx vs j f) : ¬ j < 0 ∧ ∃ v, vs[j.toNatClampNeg]? = some v ∧ f v := by
  unfold idx at h
  split at h
  · exact h.elim
  · rename_i h1
    unfold idxN at h
    split at h
    · exact ⟨h1, _, by assumption, h⟩
    · exact h.elim
/-- the list with its n-th place set -/
def setN (vs : List Value) (n : Nat) (v : Value) (f : List Value → Prop) : Prop := f (vs.set n v)
theorem setN_c {x v : Value} {vs : List Value} {n : Nat} {f : List Value → Prop} : setN (x :: vs) n v f = if n = 0 then f (v :: vs) else setN vs (n - 1) v fun l => f (x :: l) := by cases n <;> simp [setN]
def setL (vs : List Slot) (n : Nat) (v : Slot) (f : List Slot → Prop) : Prop := f (vs.set n v)
theorem setL_z {x v : Slot} {vs : List Slot} {f : List Slot → Prop} : setL (x :: vs) 0 v f = f (v :: vs) := propext Iff.rfl
theorem setL_s {x v : Slot} {vs : List Slot} {n : Nat} {f : List Slot → Prop} : setL (x :: vs) (n + 1) v f = setL vs n v fun l => f (x :: l) := propext Iff.rfl
def setH (H : List Cel) (n : Nat) (v : Cel) (f : List Cel → Prop) : Prop := f (H.set n v)
theorem setH_z {x v : Cel} {H : List Cel} {f : List Cel → Prop} : setH (x :: H) 0 v f = f (v :: H) := propext Iff.rfl
theorem setH_s {x v : Cel} {H : List Cel} {n : Nat} {f : List Cel → Prop} : setH (x :: H) (n + 1) v f = setH H n v fun l => f (x :: l) := propext Iff.rfl
def snoc (H : List Cel) (c : Cel) (f : List Cel → Prop) : Prop := f (H ++ [c])
theorem snoc_z {c : Cel} {f : List Cel → Prop} : snoc [] c f = f [c] := propext Iff.rfl
theorem snoc_s {x c : Cel} {H : List Cel} {f : List Cel → Prop} : snoc (x :: H) c f = snoc H c fun l => f (x :: l) := propext Iff.rfl
def onLen (H : List Cel) (f : Nat → Prop) : Prop := f H.length
theorem onLen_0 {f : Nat → Prop} : onLen [] f = f 0 := propext Iff.rfl
theorem onLen_1 {a : Cel} {f : Nat → Prop} : onLen [a] f = f 1 := propext Iff.rfl
theorem onLen_2 {a c : Cel} {f : Nat → Prop} : onLen [a, c] f = f 2 := propext Iff.rfl
theorem onLen_3 {a c d : Cel} {f : Nat → Prop} : onLen [a, c, d] f = f 3 := propext Iff.rfl
theorem onLen_4 {a c d e : Cel} {f : Nat → Prop} : onLen [a, c, d, e] f = f 4 := propext Iff.rfl
/-- a new array's values: n of them, all alike -/
def repN (n : Nat) (v : Value) (f : List Value → Prop) : Prop := f (List.replicate n v)
theorem repN_c {n : Nat} {v : Value} {f : List Value → Prop} : repN n v f = if n = 0 then f [] else repN (n - 1) v fun l => f (v :: l) := by cases n <;> simp [repN, List.replicate_succ]
def objI (H : List Cel) (i : Nat) (f : String → List (String × String × Value) → Prop) : Prop := match H[i]? with | some (.inr (C, fs)) => f C fs | _ => False
def obj (H : List Cel) (n a : Nat) (f : Nat → String → List (String × String × Value) → Prop) : Prop := ∃ i, a = ad n i ∧ objI H i (f i)
theorem objI_z {C : String} {fs : List (String × String × Value)} {H : List Cel} {f : String → List (String × String × Value) → Prop} : objI (.inr (C, fs) :: H) 0 f = f C fs := propext Iff.rfl
theorem objI_s {c : Cel} {H : List Cel} {i : Nat} {f : String → List (String × String × Value) → Prop} : objI (c :: H) (i + 1) f = objI H i f := propext Iff.rfl
theorem obj_c {H : List Cel} {n i : Nat} {f : Nat → String → List (String × String × Value) → Prop} : obj H n (ad n i) f = objI H i (f i) :=
  propext ⟨fun ⟨j, e, h⟩ => by obtain rfl : i = j := by simp [ad] at e; exact e
                               exact h, fun h => ⟨i, rfl, h⟩⟩
theorem obj_e {H : List Cel} {n a : Nat} {f : Nat → String → List (String × String × Value) → Prop} (h : obj H n a f) : ∃ i C fs, a = ad n i ∧ H[i]? = some (.inr (C, fs)) ∧ f i C fs := by
  obtain ⟨i, e, h⟩ := h
  unfold objI at h
  split at h
  · exact ⟨i, _, _, e, by assumption, h⟩
  · exact h.elim
theorem ifF_e {c : Prop} [Decidable c] {h : Prop} (q : if c then h else False) : c ∧ h := by split at q <;> first | exact ⟨by assumption, q⟩ | exact q.elim
/-- a branch's target -/
def tgt (pc : Nat) (o : Int) (f : Nat → Prop) : Prop := f ((pc : Int) + o).toNat
def look {α : Type} : List (Nat × α) → Nat → Option α
  | [], _ => none
  | (k, v) :: r, n => if n = k then some v else look r n
theorem look_z {α : Type} {k : Nat} {v : α} {r : List (Nat × α)} : look ((k, v) :: r) k = some v := by simp [look]
theorem look_s {α : Type} {k n : Nat} {v : α} {r : List (Nat × α)} (h : (n = k) = False) : look ((k, v) :: r) n = look r n := by simp [look, h]
theorem look_mem {α : Type} {L : List (Nat × α)} {n : Nat} {v : α} (h : look L n = some v) : (n, v) ∈ L := by
  induction L with
  | nil => cases h
  | cons x r ih =>
    obtain ⟨k, w⟩ := x
    unfold look at h
    split at h
    · rename_i e; cases h; subst e; exact List.mem_cons_self ..
    · exact List.mem_cons_of_mem _ (ih h)
def onSome {α : Type} (o : Option α) (f : α → Prop) : Prop := match o with | some v => f v | none => False
theorem onSome_c {α : Type} {v : α} {f : α → Prop} : onSome (some v) f = f v := propext Iff.rfl
theorem onSome_e {α : Type} {o : Option α} {f : α → Prop} (h : onSome o f) : ∃ v, o = some v ∧ f v := by unfold onSome at h; split at h <;> first | exact ⟨_, rfl, h⟩ | exact h.elim
/-- Java's int remainder, as the model spells it -/
def remI (x y : Int32) : Int32 := x - (x / y) * y
def remJ (x y : Int64) : Int64 := x - (x / y) * y
def retv (t : FieldType) (x : Int32) : Int32 := nar t x
def ilen : Instr → Nat
  | .aload _ | .astore _ | .iload _ | .istore _ | .lload _ | .lstore _ | .bipush _ | .ldc _ | .newarray _ => 2
  | .sipush _ | .ldc2_w _ | .ldc_w _ | .iinc _ _ | .goto _ | .ifCond _ _ | .if_icmp _ _ | .ifnull _ | .ifnonnull _ | .new _ | .getfield _ | .putfield _ | .invokestatic _ | .invokespecial _ | .invokevirtual _ | .checkcast _ | .anewarray _ => 3
  | _ => 1
def off : Instr → Int
  | .goto o | .ifCond _ o | .if_icmp _ o | .ifnull o | .ifnonnull o => o
  | _ => 0
def at1 (code : ByteArray) (pc : Nat) : Option Instr := match decode code pc with
  | .ok (i, n) => if n = ilen i ∧ 0 ≤ (pc : Int) + off i then some i else none
  | _ => none
theorem at1_of {code : ByteArray} {pc n : Nat} {i : Instr} (h : decode code pc = .ok (i, n)) (hn : n = ilen i) (ho : 0 ≤ (pc : Int) + off i) : at1 code pc = some i := by
  simp [at1, h, hn, ho]
theorem at1_o {code : ByteArray} {pc : Nat} {i : Instr} (h : at1 code pc = some i) : decode code pc = .ok (i, ilen i) ∧ 0 ≤ (pc : Int) + off i := by
  unfold at1 at h
  split at h
  · rename_i j n q
    split at h
    · rename_i e; cases h; rw [q, e.1]; exact ⟨rfl, e.2⟩
    · cases h
  · cases h
theorem at1_e {code : ByteArray} {pc : Nat} {i : Instr} (h : at1 code pc = some i) : decode code pc = .ok (i, ilen i) := (at1_o h).1

def fget (fs : List (String × String × Value)) (n d : String) : Option Value := match fs with
  | [] => none
  | (n', d', v) :: r => if n = n' ∧ d = d' then some v else fget r n d
theorem fget_mem {fs : List (String × String × Value)} {n d : String} {v : Value} (h : fget fs n d = some v) : (n, d, v) ∈ fs := by
  induction fs with
  | nil => cases h
  | cons x r ih =>
    obtain ⟨n', d', w⟩ := x
    unfold fget at h
    split at h
    · rename_i e; cases h; obtain ⟨rfl, rfl⟩ := e; exact List.mem_cons_self ..
    · exact List.mem_cons_of_mem _ (ih h)
def fgt (fs : List (String × String × Value)) (n d : String) (f : Value → Prop) : Prop := onSome (fget fs n d) f
theorem fgt_c {n n' d d' : String} {v : Value} {r : List (String × String × Value)} {f : Value → Prop} : fgt ((n', d', v) :: r) n d f = if n = n' ∧ d = d' then f v else fgt r n d f := by
  unfold fgt
  rw [fget]
  split <;> rfl
theorem nar_bb {x : Int32} : nar .byte (nar .byte x) = nar .byte x := by simp [nar]
theorem nar_cc {x : Int32} : nar .char (nar .char x) = nar .char x := by simp only [nar, UInt32.toUInt32_toInt32, UInt16.toUInt16_toUInt32]
theorem nar_b0 : nar .boolean 0 = 0 := by decide
theorem nar_b1 : nar .boolean 1 = 1 := by decide
theorem i32_nl {x y : Int32} (h : x < y) : (x = y) = False := eq_false fun e => by subst e; exact Int32.lt_irrefl h
theorem i32_ng {x y : Int32} (h : y < x) : (x = y) = False := eq_false fun e => by subst e; exact Int32.lt_irrefl h
theorem i64_nl {x y : Int64} (h : x < y) : (x = y) = False := eq_false fun e => by subst e; exact Int64.lt_irrefl h
theorem i64_ng {x y : Int64} (h : y < x) : (x = y) = False := eq_false fun e => by subst e; exact Int64.lt_irrefl h
theorem cmpL_lt {x y : Int64} : (XT.cmpL x y < 0) = (x < y) := by
  have h1 := @Int64.lt_iff_toInt_lt x y
  have h2 := @Int64.lt_iff_toInt_lt y x
  have h3 : x = y ↔ x.toInt = y.toInt := Int64.toInt_inj.symm
  unfold XT.cmpL
  split
  · rw [show ((1 : Int32) < 0) = False by decide]; simp only [h1, h2, h3] at *; exact propext ⟨False.elim, fun _ => by omega⟩
  · split
    · rw [show ((0 : Int32) < 0) = False by decide]; simp only [h1, h2, h3] at *; exact propext ⟨False.elim, fun _ => by omega⟩
    · rw [show ((-1 : Int32) < 0) = True by decide]; simp only [h1, h2, h3] at *; exact propext ⟨fun _ => by omega, fun _ => trivial⟩
theorem cmpL_gt {x y : Int64} : (0 < XT.cmpL x y) = (y < x) := by
  have h1 := @Int64.lt_iff_toInt_lt x y
  have h2 := @Int64.lt_iff_toInt_lt y x
  have h3 : x = y ↔ x.toInt = y.toInt := Int64.toInt_inj.symm
  unfold XT.cmpL
  split
  · rw [show ((0 : Int32) < 1) = True by decide]; simp only [h1, h2, h3] at *; exact propext ⟨fun _ => by omega, fun _ => trivial⟩
  · split
    · rw [show ((0 : Int32) < 0) = False by decide]; simp only [h1, h2, h3] at *; exact propext ⟨False.elim, fun _ => by omega⟩
    · rw [show ((0 : Int32) < -1) = False by decide]; simp only [h1, h2, h3] at *; exact propext ⟨False.elim, fun _ => by omega⟩
theorem cmpL_eq {x y : Int64} : (XT.cmpL x y = 0) = (x = y) := by
  have h1 := @Int64.lt_iff_toInt_lt x y
  have h2 := @Int64.lt_iff_toInt_lt y x
  have h3 : x = y ↔ x.toInt = y.toInt := Int64.toInt_inj.symm
  unfold XT.cmpL
  split
  · rw [show ((1 : Int32) = 0) = False by decide]; simp only [h1, h2, h3] at *; exact propext ⟨False.elim, fun _ => by omega⟩
  · split
    · rename_i q; rw [show ((0 : Int32) = 0) = True by decide]; exact propext ⟨fun _ => q, fun _ => trivial⟩
    · rename_i q; rw [show ((-1 : Int32) = 0) = False by decide]; exact propext ⟨False.elim, fun z => absurd z q⟩
def fset (fs : List (String × String × Value)) (n : String) (v : Value) : List (String × String × Value) := match fs with
  | [] => []
  | (n', d', w) :: r => if n' = n then (n', d', v) :: fset r n v else (n', d', w) :: fset r n v
theorem fset_mem {fs : List (String × String × Value)} {n : String} {v : Value} {f : String × String × Value} (h : f ∈ fset fs n v) : (f.1 = n ∧ f.2.2 = v ∧ ∃ w, (f.1, f.2.1, w) ∈ fs) ∨ (f.1 ≠ n ∧ f ∈ fs) := by
  induction fs with
  | nil => cases h
  | cons x r ih =>
    obtain ⟨n', d', w⟩ := x
    unfold fset at h
    split at h
    · rename_i e
      rcases List.mem_cons.mp h with rfl | h
      · exact Or.inl ⟨e, rfl, w, List.mem_cons_self ..⟩
      · rcases ih h with ⟨q1, q2, w', q3⟩ | ⟨q1, q2⟩
        · exact Or.inl ⟨q1, q2, w', List.mem_cons_of_mem _ q3⟩
        · exact Or.inr ⟨q1, List.mem_cons_of_mem _ q2⟩
    · rename_i e
      rcases List.mem_cons.mp h with rfl | h
      · exact Or.inr ⟨e, List.mem_cons_self ..⟩
      · rcases ih h with ⟨q1, q2, w', q3⟩ | ⟨q1, q2⟩
        · exact Or.inl ⟨q1, q2, w', List.mem_cons_of_mem _ q3⟩
        · exact Or.inr ⟨q1, List.mem_cons_of_mem _ q2⟩
def fst (fs : List (String × String × Value)) (n : String) (v : Value) (f : List (String × String × Value) → Prop) : Prop := f (fset fs n v)
theorem fst_n {n : String} {v : Value} {f : List (String × String × Value) → Prop} : fst [] n v f = f [] := propext Iff.rfl
theorem fst_c {n n' d : String} {v w : Value} {r : List (String × String × Value)} {f : List (String × String × Value) → Prop} : fst ((n', d, w) :: r) n v f = if n' = n then fst r n v fun l => f ((n', d, v) :: l) else fst r n v fun l => f ((n', d, w) :: l) := by
  unfold fst
  rw [fset]
  split <;> rfl
theorem LaidAll.set {Z : State} {C n : String} {v : Value} {fs : List (String × String × Value)} (h : LaidAll Z C fs) : LaidAll Z C (fset fs n v) := by
  obtain ⟨a0, h⟩ := h
  have key : ∀ f ∈ fset fs n v, ∃ w, (f.1, f.2.1, w) ∈ fs := fun f hf => by
    rcases fset_mem hf with ⟨-, -, w, q⟩ | ⟨-, q⟩
    · exact ⟨w, q⟩
    · exact ⟨f.2.2, q⟩
  refine ⟨a0, fun f hf => ?_⟩
  obtain ⟨w, q⟩ := key f hf
  obtain ⟨h1, h2, h3⟩ := h _ q
  refine ⟨h1, h2, fun g hg e => ?_⟩
  obtain ⟨w', q'⟩ := key g hg
  exact h3 (g.1, g.2.1, w') q' e
section Objs
variable {code : ByteArray} {own nm : String} {maxL : Nat} {ret : Option FieldType} {R : Room} {W : List Jvm.Cond} {l : Launch} {Z : State} {b : Heap} {rc rs : Nat} {K : Option Value → List Cel → Prop}
variable {pc : Nat} {ls : List Slot} {st : List Value} {H : List Cel} {cN sN : Nat}
/-- what the sheet's words say of a class that is made: its fields at their first values -/
def NewOk (W : List Jvm.Cond) (own : String) (idx : Nat) (C : String) (n : Nat) (fs : List (String × String × Value)) : Prop :=
  Jvm.Cond.classLink own idx C ∈ W ∧ Jvm.Cond.instantiable C n ∈ W ∧ Jvm.Cond.initialized C ∈ W ∧ ∀ f ∈ fs, (Jvm.Cond.lays C C f.1 f.2.1 ∈ W ∨ Jvm.Cond.laysFinal C C f.1 f.2.1 ∈ W) ∧ (∃ ty, parseFieldDescriptor f.2.1 = some ty ∧ f.2.2 = defaultValue ty) ∧ ∀ f' ∈ fs, f'.1 = f.1 → f'.2.1 = f.2.1
theorem G.new {idx n : Nat} {C : String} {fs : List (String × String × Value)} (hN : NewOk W own idx C n fs)
    (hd : decode code pc = .ok (.new idx, 3)) (hc1 : cN + 1 ≤ R.cells) (hs1 : sN + n ≤ R.slots)
    (k : G code own nm maxL ret R W l Z b rc rs K (pc + 3) ls (.ref (ad b.size H.length) :: st) (H ++ [.inr (C, fs)]) (cN + 1) (sN + n)) : G code own nm maxL ret R W l Z b rc rs K pc ls st H cN sN := by
  obtain ⟨w1, w2, w3, hfs⟩ := hN
  refine G.move (fun p e s m args below meth c T locs a0 hx hc hm hn hZ ho hw X hF hR => ?_) k
  obtain ⟨vm', cC, kC, h1, h2, h3, h4, X', sp⟩ := X.newCold hx ho (mv hZ (hw _ w1)) (mv hZ (hw _ w2)) (mv hZ (hw _ w3)) (g := mkF m pc ls.toArray st) rfl (hb hc hd) hc1 hs1
  have ea : ad b.size H.length = T.heap.size := by rw [hR.1]; rfl
  rw [hZ.alike.findClass] at h1
  obtain ⟨kZ, z1, -⟩ := Vm.findClass_spec h1
  obtain ⟨k', z2, z3⟩ := hZ.alike.2.2 _ _ z1
  cases h2.symm.trans z2
  have ei : kC.instanceTypes = kZ.instanceTypes := by rw [z3]
  have hN : (T.heap.push { cls := cC, slots := kC.instanceTypes.map defaultValue, vm := .none })[T.heap.size]? = some { cls := cC, slots := kC.instanceTypes.map defaultValue, vm := .none } := by simp
  refine ⟨_, _, X', hF, hR.push (h' := T.heap.push { cls := cC, slots := kC.instanceTypes.map defaultValue, vm := .none }) ⟨by simp, fun a c h => ?_⟩ (by simp) ⟨⟨_, kZ, hN, h1, z1, rfl, fun _ => by simp [ei]⟩, fun f hf => ?_, a0, fun f hf => ?_⟩, by rw [ea]; exact sp⟩
  · rw [Array.getElem?_push_lt (Array.getElem?_eq_some_iff.mp h).1]; exact (Array.getElem?_eq_getElem _).symm.trans h
  · obtain ⟨L, ⟨ty, ht, hv⟩, -⟩ := hfs f hf
    obtain ⟨c1, k1, cf, kf, i, fl, a1, a2, a3, a4, a5, a6, -⟩ := Laid.spec (a0 := a0) (L.imp (hw _) (hw _))
    cases h1.symm.trans a1
    cases z1.symm.trans a2
    rw [hv]
    exact ⟨_, cf, kf, i, fl, hN, a3, a4, by simp, rfl, a5, by simp [ei, a6, (State.fieldFound?_type a3 ht).2]⟩
  · obtain ⟨L, ⟨ty, ht, hv⟩, u⟩ := hfs f hf
    exact ⟨L.imp (hw _) (hw _), ⟨ty, ht⟩, u⟩
/-- what the sheet's words say of a field that is written here -/
def PutOk (W : List Jvm.Cond) (own nm : String) (idx : Nat) (C n d : String) (ty : FieldType) : Prop :=
  Jvm.Cond.fieldLink own idx C n d ∈ W ∧ (Jvm.Cond.lays C C n d ∈ W ∨ (Jvm.Cond.laysFinal C C n d ∈ W ∧ own = C ∧ nm = "<init>")) ∧ (∃ kk, Jvm.Cond.instantiable C kk ∈ W) ∧ parseFieldDescriptor d = some ty
theorem G.putf {idx i : Nat} {C n d : String} {ty : FieldType} {v v' old : Value} {fs : List (String × String × Value)} {rest : List Value} (hP : PutOk W own nm idx C n d ty) (hn : narrow ty v = v') (hft : fits ty v' = true)
    (hd : decode code pc = .ok (.putfield idx, 3)) (hi : H[i]? = some (.inr (C, fs))) (hg : fget fs n d = some old)
    (k : G code own nm maxL ret R W l Z b rc rs K (pc + 3) ls rest (H.set i (.inr (C, fset fs n v'))) cN sN) : G code own nm maxL ret R W l Z b rc rs K pc ls (v :: .ref (ad b.size i) :: rest) H cN sN := by
  obtain ⟨w1, wl, ⟨kk, wi⟩, hty⟩ := hP
  refine G.move (fun p e s m args below meth c T locs a0 hx hc hm hnm hZ ho hw X hF hR => ?_) k
  obtain ⟨E, F, LA⟩ := hR.2 _ _ hi
  obtain ⟨T', h', X', e2, Wt, sp⟩ := putFN X hx hZ ho (hw _ w1) Via.refl rfl (F _ (fget_mem hg)) E (wl.imp (hw _) fun q => ⟨hw _ q.1, q.2.1, hnm.trans q.2.2⟩) (hw _ wi) hty hn hft (g := mkF m pc ls.toArray (v :: .ref (ad b.size i) :: rest)) rfl rfl (hb hc hd)
  refine ⟨T', _, X', hF.app (fun y hy => by cases List.mem_singleton.mp hy; exact Nat.le_add_right _ _), ?_, sp⟩
  rw [e2]
  refine hR.set Wt ⟨E.wr Wt, fun f hf => ?_, LA.set⟩
  obtain ⟨a1, hall⟩ := LA
  obtain ⟨L2, -, un⟩ := hall _ (fget_mem hg)
  rcases fset_mem hf with ⟨q1, q2, w, q3⟩ | ⟨q1, q2⟩
  · have qd : f.2.1 = d := un (f.1, f.2.1, w) q3 q1
    have := F _ q3
    rw [q1, q2, qd]
    simp only [q1, qd] at this
    exact this.same Wt
  · obtain ⟨L1, ⟨ty1, t1⟩, -⟩ := hall _ q2
    exact (F _ q2).other Wt (Or.inr (slot_ne (a0 := a1) (C := C) L1 L2 q1 t1 hty))
end Objs
section New
variable {p : Program} {l : Launch} {e : Env} {R : Room} {s : State} {m : MethodId} {args : Array Value} {below : List Frame} {meth : Method} {c : Code} {T : State} {locs : List Loc} {cells slots : Nat}
theorem retI (X : Stand p l e R s m args below meth c T locs cells slots) (hx : p.tables.exec = Jvm.exec) {pc : Nat} {Ls : Array Slot} {z : Int32} {rest : List Value} (hret : meth.sig.returnType = some .int) (hd : decode c.code pc = .ok (.ireturn, 1)) {fs : List Frame}
    (hl : ∀ (f : JFrame) (acts : List Action), f.method = m → f.locked = none → f.entered = [] → (doReturn e (T.setTop f) acts (some (.int z))).1 = T.setFrames fs) : Steps p.tables e below (T.setTop (mkF m pc Ls (.int z :: rest))) (T.setFrames fs) :=
  retOut X hx hret rfl (Or.inl ⟨rfl, Or.inl rfl, _, rfl⟩) hd hl
theorem newA_step {Z : State} {b : Heap} {a0 : Array Value} {H : List Cel} {t : ArrayType} {pc : Nat} {ls : List Slot} {n : Int32} {r : List Value} (X : Stand p l e R s m args below meth c T locs cells slots) (hx : p.tables.exec = Jvm.exec) (hZ : Z.Warmed39 s.vm) (w : (Jvm.Cond.arrayClass (newarray.typeOf t)).before a0 Z = true) (hF : Fr b.size locs) (hR : Rep Z b T.heap H)
    (hd : decode c.code pc = .ok (.newarray t, 2)) (hn : ¬ n < 0) (hcap : n.toNatClampNeg ≤ 65536) (hc : cells + 1 ≤ R.cells) (hs : slots + n.toNatClampNeg ≤ R.slots) :
    ∃ T' locs', Stand p l e R s m args below meth c T' locs' (cells + 1) (slots + n.toNatClampNeg) ∧ Fr b.size locs' ∧ Rep Z b T'.heap (H ++ [.inl (newarray.typeOf t, List.replicate n.toNatClampNeg (defaultValue (newarray.typeOf t)))]) ∧
      ∀ target, Steps p.tables e below (T'.setTop (mkF m (pc + 2) ls.toArray (.ref (ad b.size H.length) :: r))) target → Steps p.tables e below (T.setTop (mkF m pc ls.toArray (.int n :: r))) target := by
  have hcb : componentBytes (newarray.typeOf t) ≤ 8 := by cases t <;> decide
  obtain ⟨cA, kA, comp, h1, h2, h3, X', sp⟩ := X.newarrayPrim hx (mvA hZ w) (g := mkF m pc ls.toArray (.int n :: r)) rfl hd rfl hn (Nat.le_trans (Nat.mul_le_mul hcap hcb) (by decide)) hc hs
  rw [hZ.alike.findClass] at h1
  obtain ⟨kZ, z1, -⟩ := Vm.findClass_spec h1
  obtain ⟨k', z2, z3⟩ := hZ.alike.2.2 _ _ z1
  cases h2.symm.trans z2
  have ea : ad b.size H.length = T.heap.size := by rw [hR.1]; rfl
  refine ⟨_, _, X', hF, hR.push (h' := T.heap.push _) ⟨by simp, fun a c h => ?_⟩ (by simp) ⟨_, ⟨by simp; rfl, ⟨by simp, kZ, z1, comp, by rw [← h3, z3]⟩, by simp⟩, by simp⟩, by rw [ea]; exact sp⟩
  rw [Array.getElem?_push_lt (Array.getElem?_eq_some_iff.mp h).1]; exact (Array.getElem?_eq_getElem _).symm.trans h
end New
set_option maxHeartbeats 4000000 in
def W1 (CI : List (Nat × Int32)) (CL : List (Nat × Int64)) (FL : List (Nat × String × String × String)) (AL : List FieldType) (PL : List (Nat × String × String × String × FieldType)) (NL : List (Nat × String × Nat × List (String × String × Value))) (ret : Option FieldType) (R : Room) (n0 rc rs : Nat) (K : Option Value → List Cel → Prop) (g : Cont) (i : Instr) (pc : Nat) (ls : List Slot) (st : List Value) (H : List Cel) (cN sN : Nat) (k : Cont) : Prop := match i with
  | .iload_n j => ldI ls j.val fun v => k (pc + 1) ls (.int v :: st) H cN sN
  | .iload j => ldI ls j fun v => k (pc + 2) ls (.int v :: st) H cN sN
  | .lload_n j => ldJ ls j.val fun v => k (pc + 1) ls (.long v :: st) H cN sN
  | .lload j => ldJ ls j fun v => k (pc + 2) ls (.long v :: st) H cN sN
  | .aload_n j => ldA ls j.val fun v => k (pc + 1) ls (v :: st) H cN sN
  | .aload j => ldA ls j fun v => k (pc + 2) ls (v :: st) H cN sN
  | .istore_n j => popI st fun v r => sto1 ls j.val (.int v) fun l' => k (pc + 1) l' r H cN sN
  | .istore j => popI st fun v r => sto1 ls j (.int v) fun l' => k (pc + 2) l' r H cN sN
  | .lstore_n j => popJ st fun v r => sto2 ls j.val (.long v) fun l' => k (pc + 1) l' r H cN sN
  | .lstore j => popJ st fun v r => sto2 ls j (.long v) fun l' => k (pc + 2) l' r H cN sN
  | .astore_n j => popA st fun v r => sto1 ls j.val v fun l' => k (pc + 1) l' r H cN sN
  | .astore j => popA st fun v r => sto1 ls j v fun l' => k (pc + 2) l' r H cN sN
  | .iconst i => k (pc + 1) ls (.int (Int32.ofInt i) :: st) H cN sN
  | .lconst i => k (pc + 1) ls (.long (Int64.ofNat i) :: st) H cN sN
  | .bipush i => k (pc + 2) ls (.int (Int8.ofInt i).toInt32 :: st) H cN sN
  | .sipush i => k (pc + 3) ls (.int (Int16.ofInt i).toInt32 :: st) H cN sN
  | .aconst_null => k (pc + 1) ls (.null :: st) H cN sN
  | .ldc i => onSome (look CI i) fun v => k (pc + 2) ls (.int v :: st) H cN sN
  | .ldc2_w i => onSome (look CL i) fun v => k (pc + 3) ls (.long v :: st) H cN sN
  | .iadd => popI st fun y r => popI r fun x r => k (pc + 1) ls (.int (x + y) :: r) H cN sN
  | .isub => popI st fun y r => popI r fun x r => k (pc + 1) ls (.int (x - y) :: r) H cN sN
  | .imul => popI st fun y r => popI r fun x r => k (pc + 1) ls (.int (x * y) :: r) H cN sN
  | .iand => popI st fun y r => popI r fun x r => k (pc + 1) ls (.int (x &&& y) :: r) H cN sN
  | .ior => popI st fun y r => popI r fun x r => k (pc + 1) ls (.int (x ||| y) :: r) H cN sN
  | .ixor => popI st fun y r => popI r fun x r => k (pc + 1) ls (.int (x ^^^ y) :: r) H cN sN
  | .ishl => popI st fun y r => popI r fun x r => k (pc + 1) ls (.int (x <<< (y &&& 31)) :: r) H cN sN
  | .ishr => popI st fun y r => popI r fun x r => k (pc + 1) ls (.int (x >>> (y &&& 31)) :: r) H cN sN
  | .iushr => popI st fun y r => popI r fun x r => k (pc + 1) ls (.int (XT.ushr x y) :: r) H cN sN
  | .idiv => popI st fun y r => popI r fun x r => y ≠ 0 ∧ k (pc + 1) ls (.int (x / y) :: r) H cN sN
  | .irem => popI st fun y r => popI r fun x r => y ≠ 0 ∧ k (pc + 1) ls (.int (remI x y) :: r) H cN sN
  | .ladd => popJ st fun y r => popJ r fun x r => k (pc + 1) ls (.long (x + y) :: r) H cN sN
  | .lsub => popJ st fun y r => popJ r fun x r => k (pc + 1) ls (.long (x - y) :: r) H cN sN
  | .lmul => popJ st fun y r => popJ r fun x r => k (pc + 1) ls (.long (x * y) :: r) H cN sN
  | .land => popJ st fun y r => popJ r fun x r => k (pc + 1) ls (.long (x &&& y) :: r) H cN sN
  | .lor => popJ st fun y r => popJ r fun x r => k (pc + 1) ls (.long (x ||| y) :: r) H cN sN
  | .lxor => popJ st fun y r => popJ r fun x r => k (pc + 1) ls (.long (x ^^^ y) :: r) H cN sN
  | .ldiv => popJ st fun y r => popJ r fun x r => y ≠ 0 ∧ k (pc + 1) ls (.long (x / y) :: r) H cN sN
  | .lrem => popJ st fun y r => popJ r fun x r => y ≠ 0 ∧ k (pc + 1) ls (.long (remJ x y) :: r) H cN sN
  | .lshl => popI st fun y r => popJ r fun x r => k (pc + 1) ls (.long (x <<< (y.toInt64 &&& 63)) :: r) H cN sN
  | .lshr => popI st fun y r => popJ r fun x r => k (pc + 1) ls (.long (x >>> (y.toInt64 &&& 63)) :: r) H cN sN
  | .lushr => popI st fun y r => popJ r fun x r => k (pc + 1) ls (.long (XT.ushrL x y) :: r) H cN sN
  | .lcmp => popJ st fun y r => popJ r fun x r => k (pc + 1) ls (.int (XT.cmpL x y) :: r) H cN sN
  | .i2l => popI st fun x r => k (pc + 1) ls (.long (x.toInt64) :: r) H cN sN
  | .l2i => popJ st fun x r => k (pc + 1) ls (.int (x.toInt32) :: r) H cN sN
  | .i2b => popI st fun x r => k (pc + 1) ls (.int (nar .byte x) :: r) H cN sN
  | .i2c => popI st fun x r => k (pc + 1) ls (.int (nar .char x) :: r) H cN sN
  | .i2s => popI st fun x r => k (pc + 1) ls (.int (nar .short x) :: r) H cN sN
  | .ineg => popI st fun x r => k (pc + 1) ls (.int (-x) :: r) H cN sN
  | .dup => pop1 st fun x r => k (pc + 1) ls (x :: x :: r) H cN sN
  | .pop => pop1 st fun x r => k (pc + 1) ls r H cN sN
  | .dup_x1 => pop1 st fun x r => pop1 r fun y r => k (pc + 1) ls (x :: y :: x :: r) H cN sN
  | .iinc j i => ldI ls j fun v => setL ls j (.val (.int (v + Int32.ofInt i))) fun l' => k (pc + 3) l' st H cN sN
  | .goto o => tgt pc o fun t => k (t) ls st H cN sN
  | .ifCond .eq o => popI st fun x r => if x = 0 then (tgt pc o fun t => k (t) ls r H cN sN) else (k (pc + 3) ls r H cN sN)
  | .ifCond .ne o => popI st fun x r => if x = 0 then (k (pc + 3) ls r H cN sN) else (tgt pc o fun t => k (t) ls r H cN sN)
  | .ifCond .lt o => popI st fun x r => if x < 0 then (tgt pc o fun t => k (t) ls r H cN sN) else (k (pc + 3) ls r H cN sN)
  | .ifCond .ge o => popI st fun x r => if x < 0 then (k (pc + 3) ls r H cN sN) else (tgt pc o fun t => k (t) ls r H cN sN)
  | .ifCond .gt o => popI st fun x r => if 0 < x then (tgt pc o fun t => k (t) ls r H cN sN) else (k (pc + 3) ls r H cN sN)
  | .ifCond .le o => popI st fun x r => if 0 < x then (k (pc + 3) ls r H cN sN) else (tgt pc o fun t => k (t) ls r H cN sN)
  | .if_icmp .eq o => popI st fun y r => popI r fun x r => if x = y then (tgt pc o fun t => k (t) ls r H cN sN) else (k (pc + 3) ls r H cN sN)
  | .if_icmp .ne o => popI st fun y r => popI r fun x r => if x = y then (k (pc + 3) ls r H cN sN) else (tgt pc o fun t => k (t) ls r H cN sN)
  | .if_icmp .lt o => popI st fun y r => popI r fun x r => if x < y then (tgt pc o fun t => k (t) ls r H cN sN) else (k (pc + 3) ls r H cN sN)
  | .if_icmp .ge o => popI st fun y r => popI r fun x r => if x < y then (k (pc + 3) ls r H cN sN) else (tgt pc o fun t => k (t) ls r H cN sN)
  | .if_icmp .gt o => popI st fun y r => popI r fun x r => if y < x then (tgt pc o fun t => k (t) ls r H cN sN) else (k (pc + 3) ls r H cN sN)
  | .if_icmp .le o => popI st fun y r => popI r fun x r => if y < x then (k (pc + 3) ls r H cN sN) else (tgt pc o fun t => k (t) ls r H cN sN)
  | .ifnull o => match st with | .null :: r => tgt pc o fun t => k (t) ls r H cN sN | .ref _ :: r => k (pc + 3) ls r H cN sN | _ => False
  | .ifnonnull o => match st with | .null :: r => k (pc + 3) ls r H cN sN | .ref _ :: r => tgt pc o fun t => k (t) ls r H cN sN | _ => False
  | .arraylength => popR st fun a r => arr H n0 a fun i ty vs => k (pc + 1) ls (.int (Int32.ofNat vs.length) :: r) H cN sN
  | .baload => popI st fun j r => popR r fun a r => arr H n0 a fun i ty vs => if ty = .byte then idx vs j fun v => k (pc + 1) ls (v :: r) H cN sN else False
  | .caload => popI st fun j r => popR r fun a r => arr H n0 a fun i ty vs => if ty = .char then idx vs j fun v => k (pc + 1) ls (v :: r) H cN sN else False
  | .iaload => popI st fun j r => popR r fun a r => arr H n0 a fun i ty vs => if ty = .int then idx vs j fun v => k (pc + 1) ls (v :: r) H cN sN else False
  | .laload => popI st fun j r => popR r fun a r => arr H n0 a fun i ty vs => if ty = .long then idx vs j fun v => k (pc + 1) ls (v :: r) H cN sN else False
  | .bastore => popI st fun x r => popI r fun j r => popR r fun a r => arr H n0 a fun i ty vs => if ty = .byte then idx vs j fun _ => setN vs j.toNatClampNeg (.int (nar .byte x)) fun vs' => setH H i (.inl (.byte, vs')) fun H' => k (pc + 1) ls r H' cN sN else False
  | .castore => popI st fun x r => popI r fun j r => popR r fun a r => arr H n0 a fun i ty vs => if ty = .char then idx vs j fun _ => setN vs j.toNatClampNeg (.int (nar .char x)) fun vs' => setH H i (.inl (.char, vs')) fun H' => k (pc + 1) ls r H' cN sN else False
  | .iastore => popI st fun x r => popI r fun j r => popR r fun a r => arr H n0 a fun i ty vs => if ty = .int then idx vs j fun _ => setN vs j.toNatClampNeg (.int x) fun vs' => setH H i (.inl (.int, vs')) fun H' => k (pc + 1) ls r H' cN sN else False
  | .lastore => popJ st fun x r => popI r fun j r => popR r fun a r => arr H n0 a fun i ty vs => if ty = .long then idx vs j fun _ => setN vs j.toNatClampNeg (.long x) fun vs' => setH H i (.inl (.long, vs')) fun H' => k (pc + 1) ls r H' cN sN else False
  | .newarray t => popI st fun n r => if ¬ n < 0 ∧ newarray.typeOf t ∈ AL ∧ n.toNatClampNeg ≤ 65536 ∧ cN + 1 ≤ R.cells ∧ sN + n.toNatClampNeg ≤ R.slots then onLen H fun i => repN n.toNatClampNeg (defaultValue (newarray.typeOf t)) fun vs => snoc H (.inl (newarray.typeOf t, vs)) fun H' => k (pc + 2) ls (.ref (ad n0 i) :: r) H' (cN + 1) (sN + n.toNatClampNeg) else False
  | .ireturn => popI st fun x r => if cN ≤ rc ∧ sN ≤ rs then (match ret with | some .int => K (some (.int x)) H | some .boolean => K (some (.int (nar .boolean x))) H | some .byte => K (some (.int (nar .byte x))) H | some .char => K (some (.int (nar .char x))) H | some .short => K (some (.int (nar .short x))) H | _ => False) else False
  | .lreturn => popJ st fun x r => if cN ≤ rc ∧ sN ≤ rs ∧ r = [] ∧ ret = some .long then K (some (.long x)) H else False
  | .areturn => popR st fun x r => if cN ≤ rc ∧ sN ≤ rs ∧ ret = some (.array .byte) then K (some (.ref x)) H else False
  | .return_ => if cN ≤ rc ∧ sN ≤ rs ∧ ret = none ∧ st = [] then K none H else False
  | .getfield j => popR st fun a r => onSome (look FL j) fun q => obj H n0 a fun i C fs => if C = q.1 then fgt fs q.2.1 q.2.2 fun v => k (pc + 3) ls (v :: r) H cN sN else False
  | .new j => onSome (look NL j) fun q => if cN + 1 ≤ R.cells ∧ sN + q.2.1 ≤ R.slots then onLen H fun i => snoc H (.inr (q.1, q.2.2)) fun H' => k (pc + 3) ls (.ref (ad n0 i) :: st) H' (cN + 1) (sN + q.2.1) else False
  | .putfield j => onSome (look PL j) fun q => match q.2.2.2 with | .long => popJ st fun x r => popR r fun a r => obj H n0 a fun i C fs => if C = q.1 then fgt fs q.2.1 q.2.2.1 fun _ => fst fs q.2.1 (.long x) fun fs' => setH H i (.inr (C, fs')) fun H' => k (pc + 3) ls r H' cN sN else False | .int => popI st fun x r => popR r fun a r => obj H n0 a fun i C fs => if C = q.1 then fgt fs q.2.1 q.2.2.1 fun _ => fst fs q.2.1 (.int x) fun fs' => setH H i (.inr (C, fs')) fun H' => k (pc + 3) ls r H' cN sN else False | .boolean => popI st fun x r => popR r fun a r => obj H n0 a fun i C fs => if C = q.1 then fgt fs q.2.1 q.2.2.1 fun _ => fst fs q.2.1 (.int (nar .boolean x)) fun fs' => setH H i (.inr (C, fs')) fun H' => k (pc + 3) ls r H' cN sN else False | .object _ => popA st fun x r => popR r fun a r => obj H n0 a fun i C fs => if C = q.1 then fgt fs q.2.1 q.2.2.1 fun _ => fst fs q.2.1 (x) fun fs' => setH H i (.inr (C, fs')) fun H' => k (pc + 3) ls r H' cN sN else False | .array _ => popA st fun x r => popR r fun a r => obj H n0 a fun i C fs => if C = q.1 then fgt fs q.2.1 q.2.2.1 fun _ => fst fs q.2.1 (x) fun fs' => setH H i (.inr (C, fs')) fun H' => k (pc + 3) ls r H' cN sN else False | _ => False
  | _ => g pc ls st H cN sN
/-- n steps from here -/
def Wn (S : List Nat) (code : ByteArray) (CI : List (Nat × Int32)) (CL : List (Nat × Int64)) (FL : List (Nat × String × String × String)) (AL : List FieldType) (PL : List (Nat × String × String × String × FieldType)) (NL : List (Nat × String × Nat × List (String × String × Value))) (ret : Option FieldType) (R : Room) (n0 rc rs : Nat) (K : Option Value → List Cel → Prop) (g : Cont) : Nat → Cont
  | 0 => g
  | n + 1 => fun pc ls st H cN sN => if pc ∈ S then g pc ls st H cN sN else onSome (at1 code pc) fun i => W1 CI CL FL AL PL NL ret R n0 rc rs K g i pc ls st H cN sN (Wn S code CI CL FL AL PL NL ret R n0 rc rs K g n)

section Sound
variable {code : ByteArray} {own nm : String} {maxL : Nat} {ret : Option FieldType} {R : Room} {W : List Jvm.Cond} {l : Launch} {Z : State} {b : Heap} {rc rs : Nat} {K : Option Value → List Cel → Prop}
variable {CI : List (Nat × Int32)} {CL : List (Nat × Int64)} {FL : List (Nat × String × String × String)} {AL : List FieldType} {PL : List (Nat × String × String × String × FieldType)} {NL : List (Nat × String × Nat × List (String × String × Value))}
set_option maxHeartbeats 40000000 in
theorem W1_sound (hCI : ∀ x ∈ CI, Jvm.Cond.constant own x.1 x.2 ∈ W) (hCL : ∀ x ∈ CL, Jvm.Cond.constantLong own x.1 x.2 ∈ W) (hFL : ∀ x ∈ FL, Jvm.Cond.fieldLink own x.1 x.2.1 x.2.2.1 x.2.2.2 ∈ W) (hAL : ∀ x ∈ AL, Jvm.Cond.arrayClass x ∈ W) (hPL : ∀ x ∈ PL, PutOk W own nm x.1 x.2.1 x.2.2.1 x.2.2.2.1 x.2.2.2.2) (hNL : ∀ x ∈ NL, NewOk W own x.1 x.2.1 x.2.2.1 x.2.2.2) {i : Instr} {pc : Nat} {ls : List Slot} {st : List Value} {H : List Cel} {cN sN : Nat} {k : Cont}
    (hd0 : decode code pc = .ok (i, ilen i)) (hoff : 0 ≤ (pc : Int) + off i) (hk : ∀ pc ls st H cN sN, k pc ls st H cN sN → G code own nm maxL ret R W l Z b rc rs K pc ls st H cN sN)
    (h : W1 CI CL FL AL PL NL ret R b.size rc rs K (G code own nm maxL ret R W l Z b rc rs K) i pc ls st H cN sN k) : G code own nm maxL ret R W l Z b rc rs K pc ls st H cN sN := by
  unfold W1 at h
  split at h
  · have hd := hd0; simp only [ilen] at hd; have hh := ldI_e h; clear h; obtain ⟨v, q, h⟩ := hh; exact G.pure (fun p e s m args below meth c T locs a0 hx hc hZ ho hw X hR tg hs => XS.iloadN X.here hx rfl (hb hc hd) (by simpa using q) hs) (hk _ _ _ _ _ _ h)
  · have hd := hd0; simp only [ilen] at hd; have hh := ldI_e h; clear h; obtain ⟨v, q, h⟩ := hh; exact G.pure (fun p e s m args below meth c T locs a0 hx hc hZ ho hw X hR tg hs => XS.iload X.here hx rfl (hb hc hd) (by simpa using q) hs) (hk _ _ _ _ _ _ h)
  · have hd := hd0; simp only [ilen] at hd; have hh := ldJ_e h; clear h; obtain ⟨v, q, h⟩ := hh; exact G.pure (fun p e s m args below meth c T locs a0 hx hc hZ ho hw X hR tg hs => XT.lloadN X.here hx rfl (hb hc hd) (by simpa using q) hs) (hk _ _ _ _ _ _ h)
  · have hd := hd0; simp only [ilen] at hd; have hh := ldJ_e h; clear h; obtain ⟨v, q, h⟩ := hh; exact G.pure (fun p e s m args below meth c T locs a0 hx hc hZ ho hw X hR tg hs => XT.lload X.here hx rfl (hb hc hd) (by simpa using q) hs) (hk _ _ _ _ _ _ h)
  · have hd := hd0; simp only [ilen] at hd; have hh := ldA_e h; clear h; obtain ⟨v, q, hv, h⟩ := hh; exact G.pure (fun p e s m args below meth c T locs a0 hx hc hZ ho hw X hR tg hs => XS.aloadN X.here hx rfl (hb hc hd) (by simpa using q) hv hs) (hk _ _ _ _ _ _ h)
  · have hd := hd0; simp only [ilen] at hd; have hh := ldA_e h; clear h; obtain ⟨v, q, hv, h⟩ := hh; exact G.pure (fun p e s m args below meth c T locs a0 hx hc hZ ho hw X hR tg hs => XS.aload X.here hx rfl (hb hc hd) (by simpa using q) hv hs) (hk _ _ _ _ _ _ h)
  · have hd := hd0; simp only [ilen] at hd; have hh := popI_e h; clear h; obtain ⟨v, r, rfl, h⟩ := hh; have hh := sto1_e rfl h; clear h; obtain ⟨l', q, h⟩ := hh; exact G.pure (fun p e s m args below meth c T locs a0 hx hc hZ ho hw X hR tg hs => XS.istoreN X.here hx rfl (hb hc hd) rfl q hs) (hk _ _ _ _ _ _ h)
  · have hd := hd0; simp only [ilen] at hd; have hh := popI_e h; clear h; obtain ⟨v, r, rfl, h⟩ := hh; have hh := sto1_e rfl h; clear h; obtain ⟨l', q, h⟩ := hh; exact G.pure (fun p e s m args below meth c T locs a0 hx hc hZ ho hw X hR tg hs => XS.istore X.here hx rfl (hb hc hd) rfl q hs) (hk _ _ _ _ _ _ h)
  · have hd := hd0; simp only [ilen] at hd; have hh := popJ_e h; clear h; obtain ⟨v, r, rfl, h⟩ := hh; have hh := sto2_e rfl h; clear h; obtain ⟨l', q, h⟩ := hh; exact G.pure (fun p e s m args below meth c T locs a0 hx hc hZ ho hw X hR tg hs => XT.lstoreN X.here hx rfl (hb hc hd) rfl q hs) (hk _ _ _ _ _ _ h)
  · have hd := hd0; simp only [ilen] at hd; have hh := popJ_e h; clear h; obtain ⟨v, r, rfl, h⟩ := hh; have hh := sto2_e rfl h; clear h; obtain ⟨l', q, h⟩ := hh; exact G.pure (fun p e s m args below meth c T locs a0 hx hc hZ ho hw X hR tg hs => XT.lstore X.here hx rfl (hb hc hd) rfl q hs) (hk _ _ _ _ _ _ h)
  · have hd := hd0; simp only [ilen] at hd; have hh := popA_e h; clear h; obtain ⟨v, r, rfl, hv, hv1, h⟩ := hh; have hh := sto1_e hv1 h; clear h; obtain ⟨l', q, h⟩ := hh; exact G.pure (fun p e s m args below meth c T locs a0 hx hc hZ ho hw X hR tg hs => XS.astoreN X.here hx rfl (hb hc hd) rfl hv q hs) (hk _ _ _ _ _ _ h)
  · have hd := hd0; simp only [ilen] at hd; have hh := popA_e h; clear h; obtain ⟨v, r, rfl, hv, hv1, h⟩ := hh; have hh := sto1_e hv1 h; clear h; obtain ⟨l', q, h⟩ := hh; exact G.pure (fun p e s m args below meth c T locs a0 hx hc hZ ho hw X hR tg hs => XS.astore X.here hx rfl (hb hc hd) rfl hv q hs) (hk _ _ _ _ _ _ h)
  · have hd := hd0; simp only [ilen] at hd; exact G.pure (fun p e s m args below meth c T locs a0 hx hc hZ ho hw X hR tg hs => XS.iconst X.here hx rfl (hb hc hd) hs) (hk _ _ _ _ _ _ h)
  · have hd := hd0; simp only [ilen] at hd; exact G.pure (fun p e s m args below meth c T locs a0 hx hc hZ ho hw X hR tg hs => XT.lconst X.here hx rfl (hb hc hd) hs) (hk _ _ _ _ _ _ h)
  · have hd := hd0; simp only [ilen] at hd; exact G.pure (fun p e s m args below meth c T locs a0 hx hc hZ ho hw X hR tg hs => XS.bipush X.here hx rfl (hb hc hd) hs) (hk _ _ _ _ _ _ h)
  · have hd := hd0; simp only [ilen] at hd; exact G.pure (fun p e s m args below meth c T locs a0 hx hc hZ ho hw X hR tg hs => XS.sipush X.here hx rfl (hb hc hd) hs) (hk _ _ _ _ _ _ h)
  · have hd := hd0; simp only [ilen] at hd; exact G.pure (fun p e s m args below meth c T locs a0 hx hc hZ ho hw X hR tg hs => XS.aconstNull X.here hx rfl (hb hc hd) hs) (hk _ _ _ _ _ _ h)
  · have hd := hd0; simp only [ilen] at hd; have hh := onSome_e h; clear h; obtain ⟨v, q, h⟩ := hh; exact G.pure (fun p e s m args below meth c T locs a0 hx hc hZ ho hw X hR tg hs => X.ldcInt hx ho (mvT hZ (hw _ (hCI _ (look_mem q)))) (g := mkF m pc ls.toArray st) rfl (hb hc hd) _ hs) (hk _ _ _ _ _ _ h)
  · have hd := hd0; simp only [ilen] at hd; have hh := onSome_e h; clear h; obtain ⟨v, q, h⟩ := hh; exact G.pure (fun p e s m args below meth c T locs a0 hx hc hZ ho hw X hR tg hs => X.ldc2Long hx ho (mvT hZ (hw _ (hCL _ (look_mem q)))) (g := mkF m pc ls.toArray st) rfl (hb hc hd) _ hs) (hk _ _ _ _ _ _ h)
  · have hd := hd0; simp only [ilen] at hd; have hh := popI_e h; clear h; obtain ⟨y, r, rfl, h⟩ := hh; have hh := popI_e h; clear h; obtain ⟨x, r, rfl, h⟩ := hh; exact G.pure (fun p e s m args below meth c T locs a0 hx hc hZ ho hw X hR tg hs => XS.iadd X.here hx rfl (hb hc hd) rfl hs) (hk _ _ _ _ _ _ h)
  · have hd := hd0; simp only [ilen] at hd; have hh := popI_e h; clear h; obtain ⟨y, r, rfl, h⟩ := hh; have hh := popI_e h; clear h; obtain ⟨x, r, rfl, h⟩ := hh; exact G.pure (fun p e s m args below meth c T locs a0 hx hc hZ ho hw X hR tg hs => XS.isub X.here hx rfl (hb hc hd) rfl hs) (hk _ _ _ _ _ _ h)
  · have hd := hd0; simp only [ilen] at hd; have hh := popI_e h; clear h; obtain ⟨y, r, rfl, h⟩ := hh; have hh := popI_e h; clear h; obtain ⟨x, r, rfl, h⟩ := hh; exact G.pure (fun p e s m args below meth c T locs a0 hx hc hZ ho hw X hR tg hs => XS.imul X.here hx rfl (hb hc hd) rfl hs) (hk _ _ _ _ _ _ h)
  · have hd := hd0; simp only [ilen] at hd; have hh := popI_e h; clear h; obtain ⟨y, r, rfl, h⟩ := hh; have hh := popI_e h; clear h; obtain ⟨x, r, rfl, h⟩ := hh; exact G.pure (fun p e s m args below meth c T locs a0 hx hc hZ ho hw X hR tg hs => XS.iand X.here hx rfl (hb hc hd) rfl hs) (hk _ _ _ _ _ _ h)
  · have hd := hd0; simp only [ilen] at hd; have hh := popI_e h; clear h; obtain ⟨y, r, rfl, h⟩ := hh; have hh := popI_e h; clear h; obtain ⟨x, r, rfl, h⟩ := hh; exact G.pure (fun p e s m args below meth c T locs a0 hx hc hZ ho hw X hR tg hs => XT.ior X.here hx rfl (hb hc hd) rfl hs) (hk _ _ _ _ _ _ h)
  · have hd := hd0; simp only [ilen] at hd; have hh := popI_e h; clear h; obtain ⟨y, r, rfl, h⟩ := hh; have hh := popI_e h; clear h; obtain ⟨x, r, rfl, h⟩ := hh; exact G.pure (fun p e s m args below meth c T locs a0 hx hc hZ ho hw X hR tg hs => XT.ixor X.here hx rfl (hb hc hd) rfl hs) (hk _ _ _ _ _ _ h)
  · have hd := hd0; simp only [ilen] at hd; have hh := popI_e h; clear h; obtain ⟨y, r, rfl, h⟩ := hh; have hh := popI_e h; clear h; obtain ⟨x, r, rfl, h⟩ := hh; exact G.pure (fun p e s m args below meth c T locs a0 hx hc hZ ho hw X hR tg hs => XT.ishl X.here hx rfl (hb hc hd) rfl hs) (hk _ _ _ _ _ _ h)
  · have hd := hd0; simp only [ilen] at hd; have hh := popI_e h; clear h; obtain ⟨y, r, rfl, h⟩ := hh; have hh := popI_e h; clear h; obtain ⟨x, r, rfl, h⟩ := hh; exact G.pure (fun p e s m args below meth c T locs a0 hx hc hZ ho hw X hR tg hs => XT.ishr X.here hx rfl (hb hc hd) rfl hs) (hk _ _ _ _ _ _ h)
  · have hd := hd0; simp only [ilen] at hd; have hh := popI_e h; clear h; obtain ⟨y, r, rfl, h⟩ := hh; have hh := popI_e h; clear h; obtain ⟨x, r, rfl, h⟩ := hh; exact G.pure (fun p e s m args below meth c T locs a0 hx hc hZ ho hw X hR tg hs => XT.iushr X.here hx rfl (hb hc hd) rfl hs) (hk _ _ _ _ _ _ h)
  · have hd := hd0; simp only [ilen] at hd; have hh := popI_e h; clear h; obtain ⟨y, r, rfl, h⟩ := hh; have hh := popI_e h; clear h; obtain ⟨x, r, rfl, h⟩ := hh; obtain ⟨hy, h⟩ := h; exact G.pure (fun p e s m args below meth c T locs a0 hx hc hZ ho hw X hR tg hs => XS.idiv X.here hx rfl (hb hc hd) rfl hy hs) (hk _ _ _ _ _ _ h)
  · have hd := hd0; simp only [ilen] at hd; have hh := popI_e h; clear h; obtain ⟨y, r, rfl, h⟩ := hh; have hh := popI_e h; clear h; obtain ⟨x, r, rfl, h⟩ := hh; obtain ⟨hy, h⟩ := h; exact G.pure (fun p e s m args below meth c T locs a0 hx hc hZ ho hw X hR tg hs => XS.irem X.here hx rfl (hb hc hd) rfl hy hs) (hk _ _ _ _ _ _ h)
  · have hd := hd0; simp only [ilen] at hd; have hh := popJ_e h; clear h; obtain ⟨y, r, rfl, h⟩ := hh; have hh := popJ_e h; clear h; obtain ⟨x, r, rfl, h⟩ := hh; exact G.pure (fun p e s m args below meth c T locs a0 hx hc hZ ho hw X hR tg hs => XT.ladd X.here hx rfl (hb hc hd) rfl hs) (hk _ _ _ _ _ _ h)
  · have hd := hd0; simp only [ilen] at hd; have hh := popJ_e h; clear h; obtain ⟨y, r, rfl, h⟩ := hh; have hh := popJ_e h; clear h; obtain ⟨x, r, rfl, h⟩ := hh; exact G.pure (fun p e s m args below meth c T locs a0 hx hc hZ ho hw X hR tg hs => XT.lsub X.here hx rfl (hb hc hd) rfl hs) (hk _ _ _ _ _ _ h)
  · have hd := hd0; simp only [ilen] at hd; have hh := popJ_e h; clear h; obtain ⟨y, r, rfl, h⟩ := hh; have hh := popJ_e h; clear h; obtain ⟨x, r, rfl, h⟩ := hh; exact G.pure (fun p e s m args below meth c T locs a0 hx hc hZ ho hw X hR tg hs => XT.lmul X.here hx rfl (hb hc hd) rfl hs) (hk _ _ _ _ _ _ h)
  · have hd := hd0; simp only [ilen] at hd; have hh := popJ_e h; clear h; obtain ⟨y, r, rfl, h⟩ := hh; have hh := popJ_e h; clear h; obtain ⟨x, r, rfl, h⟩ := hh; exact G.pure (fun p e s m args below meth c T locs a0 hx hc hZ ho hw X hR tg hs => XT.land X.here hx rfl (hb hc hd) rfl hs) (hk _ _ _ _ _ _ h)
  · have hd := hd0; simp only [ilen] at hd; have hh := popJ_e h; clear h; obtain ⟨y, r, rfl, h⟩ := hh; have hh := popJ_e h; clear h; obtain ⟨x, r, rfl, h⟩ := hh; exact G.pure (fun p e s m args below meth c T locs a0 hx hc hZ ho hw X hR tg hs => XT.lor X.here hx rfl (hb hc hd) rfl hs) (hk _ _ _ _ _ _ h)
  · have hd := hd0; simp only [ilen] at hd; have hh := popJ_e h; clear h; obtain ⟨y, r, rfl, h⟩ := hh; have hh := popJ_e h; clear h; obtain ⟨x, r, rfl, h⟩ := hh; exact G.pure (fun p e s m args below meth c T locs a0 hx hc hZ ho hw X hR tg hs => XT.lxor X.here hx rfl (hb hc hd) rfl hs) (hk _ _ _ _ _ _ h)
  · have hd := hd0; simp only [ilen] at hd; have hh := popJ_e h; clear h; obtain ⟨y, r, rfl, h⟩ := hh; have hh := popJ_e h; clear h; obtain ⟨x, r, rfl, h⟩ := hh; obtain ⟨hy, h⟩ := h; exact G.pure (fun p e s m args below meth c T locs a0 hx hc hZ ho hw X hR tg hs => XT.ldiv X.here hx rfl (hb hc hd) rfl hy hs) (hk _ _ _ _ _ _ h)
  · have hd := hd0; simp only [ilen] at hd; have hh := popJ_e h; clear h; obtain ⟨y, r, rfl, h⟩ := hh; have hh := popJ_e h; clear h; obtain ⟨x, r, rfl, h⟩ := hh; obtain ⟨hy, h⟩ := h; exact G.pure (fun p e s m args below meth c T locs a0 hx hc hZ ho hw X hR tg hs => XT.lrem X.here hx rfl (hb hc hd) rfl hy hs) (hk _ _ _ _ _ _ h)
  · have hd := hd0; simp only [ilen] at hd; have hh := popI_e h; clear h; obtain ⟨y, r, rfl, h⟩ := hh; have hh := popJ_e h; clear h; obtain ⟨x, r, rfl, h⟩ := hh; exact G.pure (fun p e s m args below meth c T locs a0 hx hc hZ ho hw X hR tg hs => XT.lshl X.here hx rfl (hb hc hd) rfl hs) (hk _ _ _ _ _ _ h)
  · have hd := hd0; simp only [ilen] at hd; have hh := popI_e h; clear h; obtain ⟨y, r, rfl, h⟩ := hh; have hh := popJ_e h; clear h; obtain ⟨x, r, rfl, h⟩ := hh; exact G.pure (fun p e s m args below meth c T locs a0 hx hc hZ ho hw X hR tg hs => XT.lshr X.here hx rfl (hb hc hd) rfl hs) (hk _ _ _ _ _ _ h)
  · have hd := hd0; simp only [ilen] at hd; have hh := popI_e h; clear h; obtain ⟨y, r, rfl, h⟩ := hh; have hh := popJ_e h; clear h; obtain ⟨x, r, rfl, h⟩ := hh; exact G.pure (fun p e s m args below meth c T locs a0 hx hc hZ ho hw X hR tg hs => XT.lushr X.here hx rfl (hb hc hd) rfl hs) (hk _ _ _ _ _ _ h)
  · have hd := hd0; simp only [ilen] at hd; have hh := popJ_e h; clear h; obtain ⟨y, r, rfl, h⟩ := hh; have hh := popJ_e h; clear h; obtain ⟨x, r, rfl, h⟩ := hh; exact G.pure (fun p e s m args below meth c T locs a0 hx hc hZ ho hw X hR tg hs => XT.lcmp X.here hx rfl (hb hc hd) rfl hs) (hk _ _ _ _ _ _ h)
  · have hd := hd0; simp only [ilen] at hd; have hh := popI_e h; clear h; obtain ⟨x, r, rfl, h⟩ := hh; exact G.pure (fun p e s m args below meth c T locs a0 hx hc hZ ho hw X hR tg hs => XT.i2l X.here hx rfl (hb hc hd) rfl hs) (hk _ _ _ _ _ _ h)
  · have hd := hd0; simp only [ilen] at hd; have hh := popJ_e h; clear h; obtain ⟨x, r, rfl, h⟩ := hh; exact G.pure (fun p e s m args below meth c T locs a0 hx hc hZ ho hw X hR tg hs => XT.l2i X.here hx rfl (hb hc hd) rfl hs) (hk _ _ _ _ _ _ h)
  · have hd := hd0; simp only [ilen] at hd; have hh := popI_e h; clear h; obtain ⟨x, r, rfl, h⟩ := hh; exact G.pure (fun p e s m args below meth c T locs a0 hx hc hZ ho hw X hR tg hs => XT.i2b X.here hx rfl (hb hc hd) rfl hs) (hk _ _ _ _ _ _ h)
  · have hd := hd0; simp only [ilen] at hd; have hh := popI_e h; clear h; obtain ⟨x, r, rfl, h⟩ := hh; exact G.pure (fun p e s m args below meth c T locs a0 hx hc hZ ho hw X hR tg hs => XT.i2c X.here hx rfl (hb hc hd) rfl hs) (hk _ _ _ _ _ _ h)
  · have hd := hd0; simp only [ilen] at hd; have hh := popI_e h; clear h; obtain ⟨x, r, rfl, h⟩ := hh; exact G.pure (fun p e s m args below meth c T locs a0 hx hc hZ ho hw X hR tg hs => XT.i2s X.here hx rfl (hb hc hd) rfl hs) (hk _ _ _ _ _ _ h)
  · have hd := hd0; simp only [ilen] at hd; have hh := popI_e h; clear h; obtain ⟨x, r, rfl, h⟩ := hh; exact G.pure (fun p e s m args below meth c T locs a0 hx hc hZ ho hw X hR tg hs => XS.ineg X.here hx rfl (hb hc hd) rfl hs) (hk _ _ _ _ _ _ h)
  · have hd := hd0; simp only [ilen] at hd; have hh := pop1_e h; clear h; obtain ⟨x, r, rfl, hx1, h⟩ := hh; exact G.pure (fun p e s m args below meth c T locs a0 hx hc hZ ho hw X hR tg hs => XS.dup X.here hx rfl (hb hc hd) rfl hx1 hs) (hk _ _ _ _ _ _ h)
  · have hd := hd0; simp only [ilen] at hd; have hh := pop1_e h; clear h; obtain ⟨x, r, rfl, hx1, h⟩ := hh; exact G.pure (fun p e s m args below meth c T locs a0 hx hc hZ ho hw X hR tg hs => XT.pop X.here hx rfl (hb hc hd) rfl hx1 hs) (hk _ _ _ _ _ _ h)
  · have hd := hd0; simp only [ilen] at hd; have hh := pop1_e h; clear h; obtain ⟨x, r, rfl, hx1, h⟩ := hh; have hh := pop1_e h; clear h; obtain ⟨y, r, rfl, hy1, h⟩ := hh; exact G.pure (fun p e s m args below meth c T locs a0 hx hc hZ ho hw X hR tg hs => XT.dupX1 X.here hx rfl (hb hc hd) rfl hx1 hy1 hs) (hk _ _ _ _ _ _ h)
  · have hd := hd0; simp only [ilen] at hd; have hh := ldI_e h; clear h; obtain ⟨v, q, h⟩ := hh; exact G.pure (fun p e s m args below meth c T locs a0 hx hc hZ ho hw X hR tg hs => XS.iinc X.here hx rfl (hb hc hd) (by simpa using q) (XS.store1 (by simpa using q) (Or.inr ⟨_, rfl, rfl⟩) rfl) (by simpa using hs)) (hk _ _ _ _ _ _ h)
  · have hd := hd0; simp only [ilen] at hd; have h1 := hoff; simp only [off] at h1; exact G.pure (fun p e s m args below meth c T locs a0 hx hc hZ ho hw X hR tg hs => XS.goto X.here hx rfl rfl (hb hc hd) h1 rfl hs) (hk _ _ _ _ _ _ h)
  · have hd := hd0; simp only [ilen] at hd; have hh := popI_e h; clear h; obtain ⟨x, r, rfl, h⟩ := hh; (try dsimp only at h); split at h <;> rename_i q <;> first | (have h1 := hoff; simp only [off] at h1; exact G.pure (fun p e s m args below meth c T locs a0 hx hc hZ ho hw X hR tg hs => XS.ifYes X.here hx rfl rfl (hb hc hd) rfl (XT.i0_eq_t q) h1 rfl hs) (hk _ _ _ _ _ _ h)) | (exact G.pure (fun p e s m args below meth c T locs a0 hx hc hZ ho hw X hR tg hs => XS.ifNo X.here hx rfl (hb hc hd) rfl (XT.i0_eq_f q) hs) (hk _ _ _ _ _ _ h))
  · have hd := hd0; simp only [ilen] at hd; have hh := popI_e h; clear h; obtain ⟨x, r, rfl, h⟩ := hh; (try dsimp only at h); split at h <;> rename_i q <;> first | (have h1 := hoff; simp only [off] at h1; exact G.pure (fun p e s m args below meth c T locs a0 hx hc hZ ho hw X hR tg hs => XS.ifYes X.here hx rfl rfl (hb hc hd) rfl (XT.i0_ne_t q) h1 rfl hs) (hk _ _ _ _ _ _ h)) | (exact G.pure (fun p e s m args below meth c T locs a0 hx hc hZ ho hw X hR tg hs => XS.ifNo X.here hx rfl (hb hc hd) rfl (XT.i0_ne_f q) hs) (hk _ _ _ _ _ _ h))
  · have hd := hd0; simp only [ilen] at hd; have hh := popI_e h; clear h; obtain ⟨x, r, rfl, h⟩ := hh; (try dsimp only at h); split at h <;> rename_i q <;> first | (have h1 := hoff; simp only [off] at h1; exact G.pure (fun p e s m args below meth c T locs a0 hx hc hZ ho hw X hR tg hs => XS.ifYes X.here hx rfl rfl (hb hc hd) rfl (XT.i0_lt_t q) h1 rfl hs) (hk _ _ _ _ _ _ h)) | (exact G.pure (fun p e s m args below meth c T locs a0 hx hc hZ ho hw X hR tg hs => XS.ifNo X.here hx rfl (hb hc hd) rfl (XT.i0_lt_f q) hs) (hk _ _ _ _ _ _ h))
  · have hd := hd0; simp only [ilen] at hd; have hh := popI_e h; clear h; obtain ⟨x, r, rfl, h⟩ := hh; (try dsimp only at h); split at h <;> rename_i q <;> first | (have h1 := hoff; simp only [off] at h1; exact G.pure (fun p e s m args below meth c T locs a0 hx hc hZ ho hw X hR tg hs => XS.ifYes X.here hx rfl rfl (hb hc hd) rfl (XT.i0_ge_t q) h1 rfl hs) (hk _ _ _ _ _ _ h)) | (exact G.pure (fun p e s m args below meth c T locs a0 hx hc hZ ho hw X hR tg hs => XS.ifNo X.here hx rfl (hb hc hd) rfl (XT.i0_ge_f q) hs) (hk _ _ _ _ _ _ h))
  · have hd := hd0; simp only [ilen] at hd; have hh := popI_e h; clear h; obtain ⟨x, r, rfl, h⟩ := hh; (try dsimp only at h); split at h <;> rename_i q <;> first | (have h1 := hoff; simp only [off] at h1; exact G.pure (fun p e s m args below meth c T locs a0 hx hc hZ ho hw X hR tg hs => XS.ifYes X.here hx rfl rfl (hb hc hd) rfl (XT.i0_gt_t q) h1 rfl hs) (hk _ _ _ _ _ _ h)) | (exact G.pure (fun p e s m args below meth c T locs a0 hx hc hZ ho hw X hR tg hs => XS.ifNo X.here hx rfl (hb hc hd) rfl (XT.i0_gt_f q) hs) (hk _ _ _ _ _ _ h))
  · have hd := hd0; simp only [ilen] at hd; have hh := popI_e h; clear h; obtain ⟨x, r, rfl, h⟩ := hh; (try dsimp only at h); split at h <;> rename_i q <;> first | (have h1 := hoff; simp only [off] at h1; exact G.pure (fun p e s m args below meth c T locs a0 hx hc hZ ho hw X hR tg hs => XS.ifYes X.here hx rfl rfl (hb hc hd) rfl (XT.i0_le_t q) h1 rfl hs) (hk _ _ _ _ _ _ h)) | (exact G.pure (fun p e s m args below meth c T locs a0 hx hc hZ ho hw X hR tg hs => XS.ifNo X.here hx rfl (hb hc hd) rfl (XT.i0_le_f q) hs) (hk _ _ _ _ _ _ h))
  · have hd := hd0; simp only [ilen] at hd; have hh := popI_e h; clear h; obtain ⟨y, r, rfl, h⟩ := hh; have hh := popI_e h; clear h; obtain ⟨x, r, rfl, h⟩ := hh; (try dsimp only at h); split at h <;> rename_i q <;> first | (have h1 := hoff; simp only [off] at h1; exact G.pure (fun p e s m args below meth c T locs a0 hx hc hZ ho hw X hR tg hs => XS.icmpYes X.here hx rfl rfl (hb hc hd) rfl (XT.ii_eq_t q) h1 rfl hs) (hk _ _ _ _ _ _ h)) | (exact G.pure (fun p e s m args below meth c T locs a0 hx hc hZ ho hw X hR tg hs => XS.icmpNo X.here hx rfl (hb hc hd) rfl (XT.ii_eq_f q) hs) (hk _ _ _ _ _ _ h))
  · have hd := hd0; simp only [ilen] at hd; have hh := popI_e h; clear h; obtain ⟨y, r, rfl, h⟩ := hh; have hh := popI_e h; clear h; obtain ⟨x, r, rfl, h⟩ := hh; (try dsimp only at h); split at h <;> rename_i q <;> first | (have h1 := hoff; simp only [off] at h1; exact G.pure (fun p e s m args below meth c T locs a0 hx hc hZ ho hw X hR tg hs => XS.icmpYes X.here hx rfl rfl (hb hc hd) rfl (XT.ii_ne_t q) h1 rfl hs) (hk _ _ _ _ _ _ h)) | (exact G.pure (fun p e s m args below meth c T locs a0 hx hc hZ ho hw X hR tg hs => XS.icmpNo X.here hx rfl (hb hc hd) rfl (XT.ii_ne_f q) hs) (hk _ _ _ _ _ _ h))
  · have hd := hd0; simp only [ilen] at hd; have hh := popI_e h; clear h; obtain ⟨y, r, rfl, h⟩ := hh; have hh := popI_e h; clear h; obtain ⟨x, r, rfl, h⟩ := hh; (try dsimp only at h); split at h <;> rename_i q <;> first | (have h1 := hoff; simp only [off] at h1; exact G.pure (fun p e s m args below meth c T locs a0 hx hc hZ ho hw X hR tg hs => XS.icmpYes X.here hx rfl rfl (hb hc hd) rfl (XT.ii_lt_t q) h1 rfl hs) (hk _ _ _ _ _ _ h)) | (exact G.pure (fun p e s m args below meth c T locs a0 hx hc hZ ho hw X hR tg hs => XS.icmpNo X.here hx rfl (hb hc hd) rfl (XT.ii_lt_f q) hs) (hk _ _ _ _ _ _ h))
  · have hd := hd0; simp only [ilen] at hd; have hh := popI_e h; clear h; obtain ⟨y, r, rfl, h⟩ := hh; have hh := popI_e h; clear h; obtain ⟨x, r, rfl, h⟩ := hh; (try dsimp only at h); split at h <;> rename_i q <;> first | (have h1 := hoff; simp only [off] at h1; exact G.pure (fun p e s m args below meth c T locs a0 hx hc hZ ho hw X hR tg hs => XS.icmpYes X.here hx rfl rfl (hb hc hd) rfl (XT.ii_ge_t q) h1 rfl hs) (hk _ _ _ _ _ _ h)) | (exact G.pure (fun p e s m args below meth c T locs a0 hx hc hZ ho hw X hR tg hs => XS.icmpNo X.here hx rfl (hb hc hd) rfl (XT.ii_ge_f q) hs) (hk _ _ _ _ _ _ h))
  · have hd := hd0; simp only [ilen] at hd; have hh := popI_e h; clear h; obtain ⟨y, r, rfl, h⟩ := hh; have hh := popI_e h; clear h; obtain ⟨x, r, rfl, h⟩ := hh; (try dsimp only at h); split at h <;> rename_i q <;> first | (have h1 := hoff; simp only [off] at h1; exact G.pure (fun p e s m args below meth c T locs a0 hx hc hZ ho hw X hR tg hs => XS.icmpYes X.here hx rfl rfl (hb hc hd) rfl (XT.ii_gt_t q) h1 rfl hs) (hk _ _ _ _ _ _ h)) | (exact G.pure (fun p e s m args below meth c T locs a0 hx hc hZ ho hw X hR tg hs => XS.icmpNo X.here hx rfl (hb hc hd) rfl (XT.ii_gt_f q) hs) (hk _ _ _ _ _ _ h))
  · have hd := hd0; simp only [ilen] at hd; have hh := popI_e h; clear h; obtain ⟨y, r, rfl, h⟩ := hh; have hh := popI_e h; clear h; obtain ⟨x, r, rfl, h⟩ := hh; (try dsimp only at h); split at h <;> rename_i q <;> first | (have h1 := hoff; simp only [off] at h1; exact G.pure (fun p e s m args below meth c T locs a0 hx hc hZ ho hw X hR tg hs => XS.icmpYes X.here hx rfl rfl (hb hc hd) rfl (XT.ii_le_t q) h1 rfl hs) (hk _ _ _ _ _ _ h)) | (exact G.pure (fun p e s m args below meth c T locs a0 hx hc hZ ho hw X hR tg hs => XS.icmpNo X.here hx rfl (hb hc hd) rfl (XT.ii_le_f q) hs) (hk _ _ _ _ _ _ h))
  · have hd := hd0; simp only [ilen] at hd; (try dsimp only at h); split at h
    · (have h1 := hoff; simp only [off] at h1; exact G.pure (fun p e s m args below meth c T locs a0 hx hc hZ ho hw X hR tg hs => XS.ifnullYes X.here hx rfl rfl (hb hc hd) rfl h1 rfl hs) (hk _ _ _ _ _ _ h))
    · exact G.pure (fun p e s m args below meth c T locs a0 hx hc hZ ho hw X hR tg hs => XS.ifnullNo X.here hx rfl (hb hc hd) rfl hs) (hk _ _ _ _ _ _ h)
    · exact h.elim
  · have hd := hd0; simp only [ilen] at hd; (try dsimp only at h); split at h
    · exact G.pure (fun p e s m args below meth c T locs a0 hx hc hZ ho hw X hR tg hs => XT.ifnonnullNo X.here hx rfl (hb hc hd) rfl hs) (hk _ _ _ _ _ _ h)
    · (have h1 := hoff; simp only [off] at h1; exact G.pure (fun p e s m args below meth c T locs a0 hx hc hZ ho hw X hR tg hs => XT.ifnonnullYes X.here hx rfl rfl (hb hc hd) rfl h1 rfl hs) (hk _ _ _ _ _ _ h))
    · exact h.elim
  · have hd := hd0; simp only [ilen] at hd; have hh := popR_e h; clear h; obtain ⟨a, r, rfl, h⟩ := hh; have hh := arr_e h; clear h; obtain ⟨i, ty, vs, rfl, q, h⟩ := hh; refine G.pure (fun p e s m args below meth c T locs a0 hx hc hZ ho hw X hR tg hs => ?_) (hk _ _ _ _ _ _ h); obtain ⟨cl, A, e1⟩ := hR.2 _ _ q; exact X.arraylength hx A.1 (State.isArrayOf_alike hZ.alike A.2.1) (g := mkF m pc ls.toArray (.ref (ad b.size i) :: r)) rfl rfl (hb hc hd) _ (by rw [e1]; exact hs)
  · have hd := hd0; simp only [ilen] at hd; have hh := popI_e h; clear h; obtain ⟨j, r, rfl, h⟩ := hh; have hh := popR_e h; clear h; obtain ⟨a, r, rfl, h⟩ := hh; have hh := arr_e h; clear h; obtain ⟨i, ty, vs, rfl, q, h⟩ := hh; have hh := ifF_e h; clear h; obtain ⟨rfl, h⟩ := hh; have hh := idx_e h; clear h; obtain ⟨hj, v, hv, h⟩ := hh; refine G.pure (fun p e s m args below meth c T locs a0 hx hc hZ ho hw X hR tg hs => ?_) (hk _ _ _ _ _ _ h); obtain ⟨cl, A, e1⟩ := hR.2 _ _ q; have hlt := (List.getElem?_eq_some_iff.mp hv).1; exact X.baloadBytes hx A.1 (State.isArrayOf_alike hZ.alike A.2.1) A.2.2 (fun z => z.elim hj (fun z => by rw [e1] at z; simp at z; omega)) (by rw [e1]; simpa using hv) (g := mkF m pc ls.toArray (.int j :: .ref (ad b.size i) :: r)) rfl rfl (hb hc hd) _ hs
  · have hd := hd0; simp only [ilen] at hd; have hh := popI_e h; clear h; obtain ⟨j, r, rfl, h⟩ := hh; have hh := popR_e h; clear h; obtain ⟨a, r, rfl, h⟩ := hh; have hh := arr_e h; clear h; obtain ⟨i, ty, vs, rfl, q, h⟩ := hh; have hh := ifF_e h; clear h; obtain ⟨rfl, h⟩ := hh; have hh := idx_e h; clear h; obtain ⟨hj, v, hv, h⟩ := hh; refine G.pure (fun p e s m args below meth c T locs a0 hx hc hZ ho hw X hR tg hs => ?_) (hk _ _ _ _ _ _ h); obtain ⟨cl, A, e1⟩ := hR.2 _ _ q; have hlt := (List.getElem?_eq_some_iff.mp hv).1; exact X.caload hx A.1 (State.isArrayOf_alike hZ.alike A.2.1) A.2.2 (fun z => z.elim hj (fun z => by rw [e1] at z; simp at z; omega)) (by rw [e1]; simpa using hv) (g := mkF m pc ls.toArray (.int j :: .ref (ad b.size i) :: r)) rfl rfl (hb hc hd) _ hs
  · have hd := hd0; simp only [ilen] at hd; have hh := popI_e h; clear h; obtain ⟨j, r, rfl, h⟩ := hh; have hh := popR_e h; clear h; obtain ⟨a, r, rfl, h⟩ := hh; have hh := arr_e h; clear h; obtain ⟨i, ty, vs, rfl, q, h⟩ := hh; have hh := ifF_e h; clear h; obtain ⟨rfl, h⟩ := hh; have hh := idx_e h; clear h; obtain ⟨hj, v, hv, h⟩ := hh; refine G.pure (fun p e s m args below meth c T locs a0 hx hc hZ ho hw X hR tg hs => ?_) (hk _ _ _ _ _ _ h); obtain ⟨cl, A, e1⟩ := hR.2 _ _ q; have hlt := (List.getElem?_eq_some_iff.mp hv).1; exact X.iaload hx A.1 (State.isArrayOf_alike hZ.alike A.2.1) A.2.2 (fun z => z.elim hj (fun z => by rw [e1] at z; simp at z; omega)) (by rw [e1]; simpa using hv) (g := mkF m pc ls.toArray (.int j :: .ref (ad b.size i) :: r)) rfl rfl (hb hc hd) _ hs
  · have hd := hd0; simp only [ilen] at hd; have hh := popI_e h; clear h; obtain ⟨j, r, rfl, h⟩ := hh; have hh := popR_e h; clear h; obtain ⟨a, r, rfl, h⟩ := hh; have hh := arr_e h; clear h; obtain ⟨i, ty, vs, rfl, q, h⟩ := hh; have hh := ifF_e h; clear h; obtain ⟨rfl, h⟩ := hh; have hh := idx_e h; clear h; obtain ⟨hj, v, hv, h⟩ := hh; refine G.pure (fun p e s m args below meth c T locs a0 hx hc hZ ho hw X hR tg hs => ?_) (hk _ _ _ _ _ _ h); obtain ⟨cl, A, e1⟩ := hR.2 _ _ q; have hlt := (List.getElem?_eq_some_iff.mp hv).1; exact X.laload hx A.1 (State.isArrayOf_alike hZ.alike A.2.1) A.2.2 (fun z => z.elim hj (fun z => by rw [e1] at z; simp at z; omega)) (by rw [e1]; simpa using hv) (g := mkF m pc ls.toArray (.int j :: .ref (ad b.size i) :: r)) rfl rfl (hb hc hd) _ hs
  · have hd := hd0; simp only [ilen] at hd; have hh := popI_e h; clear h; obtain ⟨x, r, rfl, h⟩ := hh; have hh := popI_e h; clear h; obtain ⟨j, r, rfl, h⟩ := hh; have hh := popR_e h; clear h; obtain ⟨a, r, rfl, h⟩ := hh; have hh := arr_e h; clear h; obtain ⟨i, ty, vs, rfl, q, h⟩ := hh; have hh := ifF_e h; clear h; obtain ⟨rfl, h⟩ := hh; have hh := idx_e h; clear h; obtain ⟨hj, v, hv, h⟩ := hh; refine G.move (fun p e s m args below meth c T locs a0 hx hc hm hn hZ ho hw X hF hR => ?_) (hk _ _ _ _ _ _ h); obtain ⟨cl, A, e1⟩ := hR.2 _ _ q; have hlt := (List.getElem?_eq_some_iff.mp hv).1; obtain ⟨T', h', X', e2, Wt, sp⟩ := stB X hx hZ rfl A (j := j) (x := x) (fun z => z.elim hj (fun z => by rw [e1] at z; simp at z; omega)) (g := mkF m pc ls.toArray (.int x :: .int j :: .ref (ad b.size i) :: r)) rfl rfl (hb hc hd); exact ⟨T', _, X', hF.app (fun y hy => by cases List.mem_singleton.mp hy; exact Nat.le_add_right _ _), by rw [e2]; exact hR.setArr q Wt, sp⟩
  · have hd := hd0; simp only [ilen] at hd; have hh := popI_e h; clear h; obtain ⟨x, r, rfl, h⟩ := hh; have hh := popI_e h; clear h; obtain ⟨j, r, rfl, h⟩ := hh; have hh := popR_e h; clear h; obtain ⟨a, r, rfl, h⟩ := hh; have hh := arr_e h; clear h; obtain ⟨i, ty, vs, rfl, q, h⟩ := hh; have hh := ifF_e h; clear h; obtain ⟨rfl, h⟩ := hh; have hh := idx_e h; clear h; obtain ⟨hj, v, hv, h⟩ := hh; refine G.move (fun p e s m args below meth c T locs a0 hx hc hm hn hZ ho hw X hF hR => ?_) (hk _ _ _ _ _ _ h); obtain ⟨cl, A, e1⟩ := hR.2 _ _ q; have hlt := (List.getElem?_eq_some_iff.mp hv).1; obtain ⟨T', h', X', e2, Wt, sp⟩ := stC X hx hZ rfl A (j := j) (x := x) (fun z => z.elim hj (fun z => by rw [e1] at z; simp at z; omega)) (g := mkF m pc ls.toArray (.int x :: .int j :: .ref (ad b.size i) :: r)) rfl rfl (hb hc hd); exact ⟨T', _, X', hF.app (fun y hy => by cases List.mem_singleton.mp hy; exact Nat.le_add_right _ _), by rw [e2]; exact hR.setArr q Wt, sp⟩
  · have hd := hd0; simp only [ilen] at hd; have hh := popI_e h; clear h; obtain ⟨x, r, rfl, h⟩ := hh; have hh := popI_e h; clear h; obtain ⟨j, r, rfl, h⟩ := hh; have hh := popR_e h; clear h; obtain ⟨a, r, rfl, h⟩ := hh; have hh := arr_e h; clear h; obtain ⟨i, ty, vs, rfl, q, h⟩ := hh; have hh := ifF_e h; clear h; obtain ⟨rfl, h⟩ := hh; have hh := idx_e h; clear h; obtain ⟨hj, v, hv, h⟩ := hh; refine G.move (fun p e s m args below meth c T locs a0 hx hc hm hn hZ ho hw X hF hR => ?_) (hk _ _ _ _ _ _ h); obtain ⟨cl, A, e1⟩ := hR.2 _ _ q; have hlt := (List.getElem?_eq_some_iff.mp hv).1; obtain ⟨T', h', X', e2, Wt, sp⟩ := stI X hx hZ rfl A (j := j) (x := x) (fun z => z.elim hj (fun z => by rw [e1] at z; simp at z; omega)) (g := mkF m pc ls.toArray (.int x :: .int j :: .ref (ad b.size i) :: r)) rfl rfl (hb hc hd); exact ⟨T', _, X', hF.app (fun y hy => by cases List.mem_singleton.mp hy; exact Nat.le_add_right _ _), by rw [e2]; exact hR.setArr q Wt, sp⟩
  · have hd := hd0; simp only [ilen] at hd; have hh := popJ_e h; clear h; obtain ⟨x, r, rfl, h⟩ := hh; have hh := popI_e h; clear h; obtain ⟨j, r, rfl, h⟩ := hh; have hh := popR_e h; clear h; obtain ⟨a, r, rfl, h⟩ := hh; have hh := arr_e h; clear h; obtain ⟨i, ty, vs, rfl, q, h⟩ := hh; have hh := ifF_e h; clear h; obtain ⟨rfl, h⟩ := hh; have hh := idx_e h; clear h; obtain ⟨hj, v, hv, h⟩ := hh; refine G.move (fun p e s m args below meth c T locs a0 hx hc hm hn hZ ho hw X hF hR => ?_) (hk _ _ _ _ _ _ h); obtain ⟨cl, A, e1⟩ := hR.2 _ _ q; have hlt := (List.getElem?_eq_some_iff.mp hv).1; obtain ⟨T', h', X', e2, Wt, sp⟩ := stJ X hx hZ rfl A (j := j) (x := x) (fun z => z.elim hj (fun z => by rw [e1] at z; simp at z; omega)) (g := mkF m pc ls.toArray (.long x :: .int j :: .ref (ad b.size i) :: r)) rfl rfl (hb hc hd); exact ⟨T', _, X', hF.app (fun y hy => by cases List.mem_singleton.mp hy; exact Nat.le_add_right _ _), by rw [e2]; exact hR.setArr q Wt, sp⟩
  · have hd := hd0; simp only [ilen] at hd; have hh := popI_e h; clear h; obtain ⟨n, r, rfl, h⟩ := hh; have hh := ifF_e h; clear h; obtain ⟨⟨hn0, hA, hcap, hc1, hs1⟩, h⟩ := hh; refine G.move (fun p e s m args below meth c T locs a0 hx hc hm hn hZ ho hw X hF hR => ?_) (hk _ _ _ _ _ _ h); exact newA_step X hx hZ (hw _ (hAL _ hA)) hF hR (hb hc hd) hn0 hcap hc1 hs1
  · have hd := hd0; simp only [ilen] at hd; have hh := popI_e h; clear h; obtain ⟨x, r, rfl, h⟩ := hh; have hh := ifF_e h; clear h; obtain ⟨⟨hc1, hs1⟩, hK⟩ := hh; (try dsimp only at hK); split at hK
    · exact G.leave (fun q => by cases q) (fun p e s m args below meth c T locs hx hc hr X fs hfs => retI X hx hr (hb hc hd) hfs) hc1 hs1 hK
    · exact G.leave (fun q => by cases q) (fun p e s m args below meth c T locs hx hc hr X fs hfs => retN X hx hr (by simp) (hb hc hd) hfs) hc1 hs1 hK
    · exact G.leave (fun q => by cases q) (fun p e s m args below meth c T locs hx hc hr X fs hfs => retN X hx hr (by simp) (hb hc hd) hfs) hc1 hs1 hK
    · exact G.leave (fun q => by cases q) (fun p e s m args below meth c T locs hx hc hr X fs hfs => retN X hx hr (by simp) (hb hc hd) hfs) hc1 hs1 hK
    · exact G.leave (fun q => by cases q) (fun p e s m args below meth c T locs hx hc hr X fs hfs => retN X hx hr (by simp) (hb hc hd) hfs) hc1 hs1 hK
    · exact hK.elim
  · have hd := hd0; simp only [ilen] at hd; have hh := popJ_e h; clear h; obtain ⟨x, r, rfl, h⟩ := hh; have hh := ifF_e h; clear h; obtain ⟨⟨hc1, hs1, rfl, rfl⟩, hK⟩ := hh; exact G.leave (fun q => by cases q) (fun p e s m args below meth c T locs hx hc hr X fs hfs => X.lreturnOut hx hr (hb hc hd) hfs) hc1 hs1 hK
  · have hd := hd0; simp only [ilen] at hd; have hh := popR_e h; clear h; obtain ⟨x, r, rfl, h⟩ := hh; have hh := ifF_e h; clear h; obtain ⟨⟨hc1, hs1, rfl⟩, hK⟩ := hh; exact G.leave (fun q => by cases q) (fun p e s m args below meth c T locs hx hc hr X fs hfs => retOut X hx hr rfl (Or.inr (Or.inr (Or.inr (Or.inr ⟨rfl, rfl, rfl⟩)))) (hb hc hd) hfs) hc1 hs1 hK
  · have hd := hd0; simp only [ilen] at hd; have hh := ifF_e h; clear h; obtain ⟨⟨hc1, hs1, rfl, rfl⟩, hK⟩ := hh; exact G.leave (fun _ => rfl) (fun p e s m args below meth c T locs hx hc hr X fs hfs => X.returnOut hx hr (hb hc hd) hfs) hc1 hs1 hK
  · have hd := hd0; simp only [ilen] at hd; have hh := popR_e h; clear h; obtain ⟨a, r, rfl, h⟩ := hh; have hh := onSome_e h; clear h; obtain ⟨⟨C0, n, d⟩, ql, h⟩ := hh; have hh := obj_e h; clear h; obtain ⟨i, C, fs, rfl, q, h⟩ := hh; have hh := ifF_e h; clear h; obtain ⟨rfl, h⟩ := hh; have hh := onSome_e h; clear h; obtain ⟨v, hv, h⟩ := hh; refine G.move (fun p e s m args below meth c T locs a0 hx hc hm hn hZ ho hw X hF hR => ?_) (hk _ _ _ _ _ _ h); obtain ⟨E, F, -⟩ := hR.2 _ _ q; obtain ⟨T', X', e1, sp⟩ := getF X hx hZ ho (host := "") (Or.inl (hw _ (hFL _ (look_mem ql)))) Via.refl rfl (F _ (fget_mem hv)) (g := mkF m pc ls.toArray (.ref (ad b.size i) :: r)) rfl rfl (hb hc hd); exact ⟨T', _, X', hF, by rw [e1]; exact hR, sp⟩
  · have hd := hd0; simp only [ilen] at hd; have hh := onSome_e h; clear h; obtain ⟨⟨C, n, fs⟩, ql, h⟩ := hh; have hh := ifF_e h; clear h; obtain ⟨⟨hc1, hs1⟩, h⟩ := hh; exact G.new (hNL _ (look_mem ql)) hd hc1 hs1 (hk _ _ _ _ _ _ h)
  · have hd := hd0; simp only [ilen] at hd; have hh := onSome_e h; clear h; obtain ⟨⟨C0, n, d, ty⟩, ql, h⟩ := hh; (try dsimp only at h); split at h
    · (have hh := popJ_e h; clear h; obtain ⟨x, r, rfl, h⟩ := hh; have hh := popR_e h; clear h; obtain ⟨a, r, rfl, h⟩ := hh; have hh := obj_e h; clear h; obtain ⟨i, C, fs, rfl, q, h⟩ := hh; have hh := ifF_e h; clear h; obtain ⟨rfl, h⟩ := hh; have hh := onSome_e h; clear h; obtain ⟨old, hv, h⟩ := hh; exact G.putf (hPL _ (look_mem ql)) rfl rfl hd q hv (hk _ _ _ _ _ _ h))
    · (have hh := popI_e h; clear h; obtain ⟨x, r, rfl, h⟩ := hh; have hh := popR_e h; clear h; obtain ⟨a, r, rfl, h⟩ := hh; have hh := obj_e h; clear h; obtain ⟨i, C, fs, rfl, q, h⟩ := hh; have hh := ifF_e h; clear h; obtain ⟨rfl, h⟩ := hh; have hh := onSome_e h; clear h; obtain ⟨old, hv, h⟩ := hh; exact G.putf (hPL _ (look_mem ql)) rfl rfl hd q hv (hk _ _ _ _ _ _ h))
    · (have hh := popI_e h; clear h; obtain ⟨x, r, rfl, h⟩ := hh; have hh := popR_e h; clear h; obtain ⟨a, r, rfl, h⟩ := hh; have hh := obj_e h; clear h; obtain ⟨i, C, fs, rfl, q, h⟩ := hh; have hh := ifF_e h; clear h; obtain ⟨rfl, h⟩ := hh; have hh := onSome_e h; clear h; obtain ⟨old, hv, h⟩ := hh; exact G.putf (hPL _ (look_mem ql)) rfl (fits_nar_bool x) hd q hv (hk _ _ _ _ _ _ h))
    · (have hh := popA_e h; clear h; obtain ⟨x, r, rfl, hv1, hv2, h⟩ := hh; have hh := popR_e h; clear h; obtain ⟨a, r, rfl, h⟩ := hh; have hh := obj_e h; clear h; obtain ⟨i, C, fs, rfl, q, h⟩ := hh; have hh := ifF_e h; clear h; obtain ⟨rfl, h⟩ := hh; have hh := onSome_e h; clear h; obtain ⟨old, hv, h⟩ := hh; exact G.putf (hPL _ (look_mem ql)) (by cases x <;> first | rfl | cases hv1) (by cases x <;> first | rfl | cases hv1) hd q hv (hk _ _ _ _ _ _ h))
    · (have hh := popA_e h; clear h; obtain ⟨x, r, rfl, hv1, hv2, h⟩ := hh; have hh := popR_e h; clear h; obtain ⟨a, r, rfl, h⟩ := hh; have hh := obj_e h; clear h; obtain ⟨i, C, fs, rfl, q, h⟩ := hh; have hh := ifF_e h; clear h; obtain ⟨rfl, h⟩ := hh; have hh := onSome_e h; clear h; obtain ⟨old, hv, h⟩ := hh; exact G.putf (hPL _ (look_mem ql)) (by cases x <;> first | rfl | cases hv1) (by cases x <;> first | rfl | cases hv1) hd q hv (hk _ _ _ _ _ _ h))
    · exact h.elim
  · exact h
theorem G.run {S : List Nat} (n : Nat) (hCI : ∀ x ∈ CI, Jvm.Cond.constant own x.1 x.2 ∈ W) (hCL : ∀ x ∈ CL, Jvm.Cond.constantLong own x.1 x.2 ∈ W) (hFL : ∀ x ∈ FL, Jvm.Cond.fieldLink own x.1 x.2.1 x.2.2.1 x.2.2.2 ∈ W) (hAL : ∀ x ∈ AL, Jvm.Cond.arrayClass x ∈ W) (hPL : ∀ x ∈ PL, PutOk W own nm x.1 x.2.1 x.2.2.1 x.2.2.2.1 x.2.2.2.2) (hNL : ∀ x ∈ NL, NewOk W own x.1 x.2.1 x.2.2.1 x.2.2.2) :
    ∀ {pc : Nat} {ls : List Slot} {st : List Value} {H : List Cel} {cN sN : Nat}, Wn S code CI CL FL AL PL NL ret R b.size rc rs K (G code own nm maxL ret R W l Z b rc rs K) n pc ls st H cN sN → G code own nm maxL ret R W l Z b rc rs K pc ls st H cN sN := by
  induction n with
  | zero => exact fun h => h
  | succ n ih =>
    intro pc ls st H cN sN h
    unfold Wn at h
    split at h
    · exact h
    · obtain ⟨i, hi, h⟩ := onSome_e h
      exact W1_sound hCI hCL hFL hAL hPL hNL (at1_o hi).1 (at1_o hi).2 (fun _ _ _ _ _ _ q => ih q) h
/-- one step from a place at which runs stop, then a run -/
theorem G.enter {S : List Nat} (n : Nat) (hCI : ∀ x ∈ CI, Jvm.Cond.constant own x.1 x.2 ∈ W) (hCL : ∀ x ∈ CL, Jvm.Cond.constantLong own x.1 x.2 ∈ W) (hFL : ∀ x ∈ FL, Jvm.Cond.fieldLink own x.1 x.2.1 x.2.2.1 x.2.2.2 ∈ W) (hAL : ∀ x ∈ AL, Jvm.Cond.arrayClass x ∈ W) (hPL : ∀ x ∈ PL, PutOk W own nm x.1 x.2.1 x.2.2.1 x.2.2.2.1 x.2.2.2.2) (hNL : ∀ x ∈ NL, NewOk W own x.1 x.2.1 x.2.2.1 x.2.2.2) {i : Instr} {pc : Nat} {ls : List Slot} {st : List Value} {H : List Cel} {cN sN : Nat} (hi : at1 code pc = some i)
    (h : W1 CI CL FL AL PL NL ret R b.size rc rs K (G code own nm maxL ret R W l Z b rc rs K) i pc ls st H cN sN (Wn S code CI CL FL AL PL NL ret R b.size rc rs K (G code own nm maxL ret R W l Z b rc rs K) n)) : G code own nm maxL ret R W l Z b rc rs K pc ls st H cN sN :=
  W1_sound hCI hCL hFL hAL hPL hNL (at1_o hi).1 (at1_o hi).2 (fun _ _ _ _ _ _ q => G.run n hCI hCL hFL hAL hPL hNL q) h
end Sound
section Eqs
variable {CI : List (Nat × Int32)} {CL : List (Nat × Int64)} {FL : List (Nat × String × String × String)} {AL : List FieldType} {PL : List (Nat × String × String × String × FieldType)} {NL : List (Nat × String × Nat × List (String × String × Value))} {ret : Option FieldType} {R : Room} {n0 rc rs : Nat} {K : Option Value → List Cel → Prop} {g k : Cont} {pc : Nat} {ls : List Slot} {st : List Value} {H : List Cel} {cN sN : Nat} {code : ByteArray}
theorem wn_s {S : List Nat} {n : Nat} (h : pc ∉ S) : Wn S code CI CL FL AL PL NL ret R n0 rc rs K g (n + 1) pc ls st H cN sN = onSome (at1 code pc) fun i => W1 CI CL FL AL PL NL ret R n0 rc rs K g i pc ls st H cN sN (Wn S code CI CL FL AL PL NL ret R n0 rc rs K g n) := if_neg h
theorem wn_p {S : List Nat} {n : Nat} (h : pc ∈ S) : Wn S code CI CL FL AL PL NL ret R n0 rc rs K g (n + 1) pc ls st H cN sN = g pc ls st H cN sN := if_pos h
end Eqs
end Jvm.OwnKit
namespace Jvm.OwnKit
open Sem ClassFile Op Lib Jvm.Stand Jvm.Free Jvm.LawKit Jvm.RoadKit
section Calls
variable {code : ByteArray} {own nm : String} {maxL : Nat} {ret : Option FieldType} {R : Room} {W : List Jvm.Cond} {l : Launch} {Z : State} {b : Heap} {rc rs : Nat} {K : Option Value → List Cel → Prop}
variable {pc : Nat} {ls : List Slot} {st : List Value} {H : List Cel} {cN sN : Nat}
def wt (rest : List Value) : Nat := (rest.map fun v => v.category).sum
theorem G.callS {idx : Nat} {y : MethodName} {bytes : ByteArray} {mL : Nat} {rt : Option FieldType} {rm : Room} {as rest : List Value} {K' : Option Value → List Cel → Prop} {ps : List FieldType} {r : Option FieldType}
    (w1 : Jvm.Cond.methodLink own idx y ∈ W) (w2 : Jvm.Cond.static y ∈ W) (w3 : Jvm.Cond.initialized y.cls ∈ W) (w4 : Jvm.Cond.code y bytes mL rt ∈ W) (hy : y.cls ≠ "java/lang/invoke/MethodHandle" ∧ y.cls ≠ "java/lang/invoke/VarHandle") (hds : parseMethodDescriptor y.desc = some ⟨ps, r⟩)
    (C : Con W l Z b y bytes mL rt rm as H K') (hd : at1 code pc = some (.invokestatic idx)) (hst : st = as.reverse ++ rest) (hlen : as.length = ps.length) (hls : ls.length = maxL)
    (hf : rm.frames + 1 ≤ R.frames) (hlo : wt rest + (mL + 11) + rm.locals ≤ R.locals) (hc : cN + rm.cells ≤ R.cells) (hs : sN + rm.slots ≤ R.slots)
    (k : ∀ v H', K' v H' → G code own nm maxL ret R W l Z b rc rs K (pc + 3) ls (v.toList ++ rest) H' (cN + rm.cells) (sN + rm.slots)) : G code own nm maxL ret R W l Z b rc rs K pc ls st H cN sN := by
  subst hst
  intro p e s m args below meth c T locs a0 hx hcd hm hr hk hn hZ ho hw X hF hR
  obtain ⟨v, vm₁, ⟨T', L', k', n'⟩, -, X', ⟨Lc, hQ, l1, y1, z1⟩, sp⟩ := Jvm.LawKit.callS X hx (y := y) ho (mvT hZ (hw _ w1)) (mvT hZ (hw _ w2)) (mvT hZ (hw _ w3)) (mvT hZ (hw _ w4)) hy
    (backOf (W := wt rest) (Q := fun v h L => Fr b.size L ∧ ∃ H', Rep Z b h H' ∧ K' v H') (C a0 T.heap hw hR) hZ (hw _ w4) (hw _ w3) hf hlo) (g := mkF m pc ls.toArray (as.reverse ++ rest)) rfl (by rw [hm]; simpa using hls) (argsL := as) (rest := rest) (lenOf hds hlen) rfl
    (by show 2 * 0 + _ ≤ _; exact Nat.le_of_eq (Nat.zero_add _)) (hb hcd (at1_e hd)) (fun _ _ => ⟨rfl, rfl, hc, hs⟩)
  dsimp only [Pt.U, Pt.locs, Pt.cells, Pt.slots] at X' l1 y1 z1 sp hQ
  subst l1 y1 z1
  obtain ⟨hF', H', hR', hK'⟩ := hQ
  obtain ⟨s₂, o, h1, h2⟩ := k v H' hK' p e s m args below meth c T' _ a0 hx hcd hm hr hk hn hZ ho hw X' (hF.app hF') hR'
  exact ⟨s₂, o, sp _ h1, h2⟩
/-- a constructor -/
theorem G.callI {idx : Nat} {y : MethodName} {bytes : ByteArray} {mL : Nat} {rm : Room} {a : Addr} {as rest : List Value} {K' : Option Value → List Cel → Prop} {ps : List FieldType} {r : Option FieldType}
    (hnm : y.name = "<init>") (w1 : Jvm.Cond.methodLink own idx y ∈ W) (w2 : Jvm.Cond.instanceMethod y ∈ W) (w3 : Jvm.Cond.initialized y.cls ∈ W) (w4 : Jvm.Cond.code y bytes mL none ∈ W) (hy : y.cls ≠ "java/lang/invoke/MethodHandle" ∧ y.cls ≠ "java/lang/invoke/VarHandle") (hds : parseMethodDescriptor y.desc = some ⟨ps, r⟩)
    (C : Con W l Z b y bytes mL none rm (.ref a :: as) H K') (hd : at1 code pc = some (.invokespecial idx)) (hst : st = as.reverse ++ .ref a :: rest) (hlen : as.length = ps.length) (hls : ls.length = maxL)
    (hf : rm.frames + 1 ≤ R.frames) (hlo : wt rest + (mL + 11) + rm.locals ≤ R.locals) (hc : cN + rm.cells ≤ R.cells) (hs : sN + rm.slots ≤ R.slots)
    (k : ∀ v H', K' v H' → G code own nm maxL ret R W l Z b rc rs K (pc + 3) ls (v.toList ++ rest) H' (cN + rm.cells) (sN + rm.slots)) : G code own nm maxL ret R W l Z b rc rs K pc ls st H cN sN := by
  subst hst
  intro p e s m args below meth c T locs a0 hx hcd hm hr hk hn hZ ho hw X hF hR
  obtain ⟨v, vm₁, ⟨T', L', k', n'⟩, -, X', ⟨Lc, hQ, l1, y1, z1⟩, sp⟩ := X.specialBack hx (y := y) hnm ho (mvT hZ (hw _ w1)) (mvT hZ (hw _ w2)) (mvT hZ (hw _ w4)) hy
    (backOf (W := wt rest) (Q := fun v h L => Fr b.size L ∧ ∃ H', Rep Z b h H' ∧ K' v H') (C a0 T.heap hw hR) hZ (hw _ w4) (hw _ w3) hf hlo) (g := mkF m pc ls.toArray (as.reverse ++ .ref a :: rest)) rfl (by rw [hm]; simpa using hls) (Steps.refl _) (a := a) (argsL := as) (rest := rest) (lenOf hds hlen) rfl
    (by show 2 * 0 + _ ≤ _; exact Nat.le_of_eq (Nat.zero_add _)) (hb hcd (at1_e hd)) (fun _ _ => ⟨rfl, rfl, hc, hs⟩)
  dsimp only [Pt.U, Pt.locs, Pt.cells, Pt.slots] at X' l1 y1 z1 sp hQ
  subst l1 y1 z1
  obtain ⟨hF', H', hR', hK'⟩ := hQ
  obtain ⟨s₂, o, h1, h2⟩ := k v H' hK' p e s m args below meth c T' _ a0 hx hcd hm hr hk hn hZ ho hw X' (hF.app hF') hR'
  exact ⟨s₂, o, sp.trans h1, h2⟩
/-- an instance method of an object of just that class -/
theorem G.callV {idx : Nat} {y : MethodName} {bytes : ByteArray} {mL : Nat} {rt : Option FieldType} {rm : Room} {i : Nat} {fs : List (String × String × Value)} {as rest : List Value} {K' : Option Value → List Cel → Prop} {ps : List FieldType} {r : Option FieldType}
    (w1 : Jvm.Cond.methodLink own idx y ∈ W) (w2 : Jvm.Cond.declares y ∈ W) (w3 : Jvm.Cond.selects y.cls y y ∈ W) (w4 : Jvm.Cond.instanceMethod y ∈ W) (w5 : Jvm.Cond.code y bytes mL rt ∈ W) (w6 : Jvm.Cond.initialized y.cls ∈ W) (hy : y.cls ≠ "java/lang/invoke/MethodHandle" ∧ y.cls ≠ "java/lang/invoke/VarHandle") (hds : parseMethodDescriptor y.desc = some ⟨ps, r⟩)
    (hi : H[i]? = some (.inr (y.cls, fs)))
    (C : Con W l Z b y bytes mL rt rm (.ref (ad b.size i) :: as) H K') (hd : at1 code pc = some (.invokevirtual idx)) (hst : st = as.reverse ++ .ref (ad b.size i) :: rest) (hlen : as.length = ps.length) (hls : ls.length = maxL)
    (hf : rm.frames + 1 ≤ R.frames) (hlo : wt rest + (mL + 11) + rm.locals ≤ R.locals) (hc : cN + rm.cells ≤ R.cells) (hs : sN + rm.slots ≤ R.slots)
    (k : ∀ v H', K' v H' → G code own nm maxL ret R W l Z b rc rs K (pc + 3) ls (v.toList ++ rest) H' (cN + rm.cells) (sN + rm.slots)) : G code own nm maxL ret R W l Z b rc rs K pc ls st H cN sN := by
  subst hst
  intro p e s m args below meth c T locs a0 hx hcd hm hr hk hn hZ ho hw X hF hR
  obtain ⟨cq, kq, qa, qb, qc⟩ := isOf (T := T) hZ rfl (hR.2 _ _ hi).1
  obtain ⟨v, vm₁, ⟨T', L', k', n'⟩, -, X', ⟨Lc, hQ, l1, y1, z1⟩, sp⟩ := X.virtualBack hx (y := y) (z := y) ho (mvT hZ (hw _ w1)) (mvT hZ (hw _ w2)) (notFace_of_selects (args := #[]) (mvT hZ (hw _ w3))) (mvT hZ (hw _ w3)) (mvT hZ (hw _ w4)) hy
    (backOf (W := wt rest) (Q := fun v h L => Fr b.size L ∧ ∃ H', Rep Z b h H' ∧ K' v H') (C a0 T.heap hw hR) hZ (hw _ w5) (hw _ w6) hf hlo) qa qc (g := mkF m pc ls.toArray (as.reverse ++ .ref (ad b.size i) :: rest)) rfl (by rw [hm]; simpa using hls) (Steps.refl _) (argsL := as) (rest := rest) (lenOf hds hlen) rfl
    (by show 2 * 0 + _ ≤ _; exact Nat.le_of_eq (Nat.zero_add _)) (hb hcd (at1_e hd)) (fun _ _ => ⟨rfl, rfl, hc, hs⟩)
  dsimp only [Pt.U, Pt.locs, Pt.cells, Pt.slots] at X' l1 y1 z1 sp hQ
  subst l1 y1 z1
  obtain ⟨hF', H', hR', hK'⟩ := hQ
  obtain ⟨s₂, o, h1, h2⟩ := k v H' hK' p e s m args below meth c T' _ a0 hx hcd hm hr hk hn hZ ho hw X' (hF.app hF') hR'
  exact ⟨s₂, o, sp.trans h1, h2⟩
/-- Object's constructor -/
theorem G.init0 {idx : Nat} {a : Addr} {rest : List Value} (w1 : Jvm.Cond.methodLink own idx Lib.objectInit ∈ W) (w2 : Jvm.Cond.instanceMethod Lib.objectInit ∈ W) (w3 : Jvm.Cond.code Lib.objectInit ⟨#[0xb1]⟩ 1 none ∈ W)
    (hd : at1 code pc = some (.invokespecial idx)) (hls : ls.length = maxL) (hf : 1 ≤ R.frames) (hlo : wt rest + 12 ≤ R.locals)
    (k : G code own nm maxL ret R W l Z b rc rs K (pc + 3) ls rest H cN sN) : G code own nm maxL ret R W l Z b rc rs K pc ls (.ref a :: rest) H cN sN := by
  refine G.move (fun p e s m args below meth c T locs a0 hx hc hm hn hZ ho hw X hF hR => ?_) k
  obtain ⟨T', X', e1, sp⟩ := initO X hx hZ ho (hw _ w1) (hw _ w2) (hw _ w3) rfl (g := mkF m pc ls.toArray (.ref a :: rest)) rfl (by rw [hm]; simpa using hls) rfl (hb hc (at1_e hd)) hf (W := wt rest) (by show 2 * 0 + _ ≤ _; exact Nat.le_of_eq (Nat.zero_add _)) hlo
  exact ⟨T', _, X', hF, by rw [e1]; exact hR, sp⟩
end Calls
end Jvm.OwnKit
namespace Jvm.OwnKit
open Sem ClassFile Op Lib Jvm.Stand Jvm.Free Jvm.LawKit Jvm.RoadKit
theorem rem_toInt (x y : Int32) : (remI x y).toInt = x.toInt.tmod y.toInt := by
  have hx1 := x.toInt_lt; have hx2 := x.le_toInt
  unfold remI
  rw [Int32.toInt_sub, Int32.toInt_mul, Int32.toInt_div, Int.bmod_mul_bmod, Int.sub_bmod_bmod]
  have e : x.toInt - x.toInt.tdiv y.toInt * y.toInt = x.toInt.tmod y.toInt := by
    have := Int.tmod_add_mul_tdiv x.toInt y.toInt
    rw [Int.mul_comm] at this; omega
  rw [e]
  have b1 := Int.natAbs_tmod x.toInt y.toInt
  have b2 := Nat.mod_le x.toInt.natAbs y.toInt.natAbs
  have b3 : x.toInt < 0 → x.toInt.tmod y.toInt ≤ 0 := fun h => by
    have q := Int.tmod_nonneg y.toInt (show 0 ≤ -x.toInt by omega)
    rw [Int.neg_tmod] at q; omega
  refine Int.bmod_eq_of_le ?_ ?_
  · omega
  · by_cases q : x.toInt < 0
    · have := b3 q; omega
    · omega
theorem rem_nn {x y : Int32} (h : 0 ≤ x.toInt) : (remI x y).toInt = x.toInt % y.toInt := by rw [rem_toInt, Int.tmod_eq_emod_of_nonneg h]
theorem remJ_nn {x y : Int64} (h : 0 ≤ x.toInt) : (remJ x y).toInt = x.toInt % y.toInt := Jvm.Kit.i64_rem_nonneg h
theorem cases2 {v : Int32} (h0 : 0 ≤ v.toInt) (h1 : v.toInt < 2) : v = 0 ∨ v = 1 := by
  have q : v.toInt = 0 ∨ v.toInt = 1 := by omega
  rcases q with h | h
  · exact (Or.inl (Int32.toInt_inj.mp (h.trans (by decide : (0 : Int) = (0 : Int32).toInt))))
  · exact (Or.inr (Int32.toInt_inj.mp (h.trans (by decide : (1 : Int) = (1 : Int32).toInt))))
theorem cases3 {v : Int32} (h0 : 0 ≤ v.toInt) (h1 : v.toInt < 3) : v = 0 ∨ v = 1 ∨ v = 2 := by
  have q : v.toInt = 0 ∨ v.toInt = 1 ∨ v.toInt = 2 := by omega
  rcases q with h | h | h
  · exact (Or.inl (Int32.toInt_inj.mp (h.trans (by decide : (0 : Int) = (0 : Int32).toInt))))
  · exact (Or.inr (Or.inl (Int32.toInt_inj.mp (h.trans (by decide : (1 : Int) = (1 : Int32).toInt)))))
  · exact (Or.inr (Or.inr (Int32.toInt_inj.mp (h.trans (by decide : (2 : Int) = (2 : Int32).toInt)))))
theorem cases4 {v : Int32} (h0 : 0 ≤ v.toInt) (h1 : v.toInt < 4) : v = 0 ∨ v = 1 ∨ v = 2 ∨ v = 3 := by
  have q : v.toInt = 0 ∨ v.toInt = 1 ∨ v.toInt = 2 ∨ v.toInt = 3 := by omega
  rcases q with h | h | h | h
  · exact (Or.inl (Int32.toInt_inj.mp (h.trans (by decide : (0 : Int) = (0 : Int32).toInt))))
  · exact (Or.inr (Or.inl (Int32.toInt_inj.mp (h.trans (by decide : (1 : Int) = (1 : Int32).toInt)))))
  · exact (Or.inr (Or.inr (Or.inl (Int32.toInt_inj.mp (h.trans (by decide : (2 : Int) = (2 : Int32).toInt))))))
  · exact (Or.inr (Or.inr (Or.inr (Int32.toInt_inj.mp (h.trans (by decide : (3 : Int) = (3 : Int32).toInt))))))
theorem cases5 {v : Int32} (h0 : 0 ≤ v.toInt) (h1 : v.toInt < 5) : v = 0 ∨ v = 1 ∨ v = 2 ∨ v = 3 ∨ v = 4 := by
  have q : v.toInt = 0 ∨ v.toInt = 1 ∨ v.toInt = 2 ∨ v.toInt = 3 ∨ v.toInt = 4 := by omega
  rcases q with h | h | h | h | h
  · exact (Or.inl (Int32.toInt_inj.mp (h.trans (by decide : (0 : Int) = (0 : Int32).toInt))))
  · exact (Or.inr (Or.inl (Int32.toInt_inj.mp (h.trans (by decide : (1 : Int) = (1 : Int32).toInt)))))
  · exact (Or.inr (Or.inr (Or.inl (Int32.toInt_inj.mp (h.trans (by decide : (2 : Int) = (2 : Int32).toInt))))))
  · exact (Or.inr (Or.inr (Or.inr (Or.inl (Int32.toInt_inj.mp (h.trans (by decide : (3 : Int) = (3 : Int32).toInt)))))))
  · exact (Or.inr (Or.inr (Or.inr (Or.inr (Int32.toInt_inj.mp (h.trans (by decide : (4 : Int) = (4 : Int32).toInt)))))))
theorem cases6 {v : Int32} (h0 : 0 ≤ v.toInt) (h1 : v.toInt < 6) : v = 0 ∨ v = 1 ∨ v = 2 ∨ v = 3 ∨ v = 4 ∨ v = 5 := by
  have q : v.toInt = 0 ∨ v.toInt = 1 ∨ v.toInt = 2 ∨ v.toInt = 3 ∨ v.toInt = 4 ∨ v.toInt = 5 := by omega
  rcases q with h | h | h | h | h | h
  · exact (Or.inl (Int32.toInt_inj.mp (h.trans (by decide : (0 : Int) = (0 : Int32).toInt))))
  · exact (Or.inr (Or.inl (Int32.toInt_inj.mp (h.trans (by decide : (1 : Int) = (1 : Int32).toInt)))))
  · exact (Or.inr (Or.inr (Or.inl (Int32.toInt_inj.mp (h.trans (by decide : (2 : Int) = (2 : Int32).toInt))))))
  · exact (Or.inr (Or.inr (Or.inr (Or.inl (Int32.toInt_inj.mp (h.trans (by decide : (3 : Int) = (3 : Int32).toInt)))))))
  · exact (Or.inr (Or.inr (Or.inr (Or.inr (Or.inl (Int32.toInt_inj.mp (h.trans (by decide : (4 : Int) = (4 : Int32).toInt))))))))
  · exact (Or.inr (Or.inr (Or.inr (Or.inr (Or.inr (Int32.toInt_inj.mp (h.trans (by decide : (5 : Int) = (5 : Int32).toInt))))))))
theorem cases7 {v : Int32} (h0 : 0 ≤ v.toInt) (h1 : v.toInt < 7) : v = 0 ∨ v = 1 ∨ v = 2 ∨ v = 3 ∨ v = 4 ∨ v = 5 ∨ v = 6 := by
  have q : v.toInt = 0 ∨ v.toInt = 1 ∨ v.toInt = 2 ∨ v.toInt = 3 ∨ v.toInt = 4 ∨ v.toInt = 5 ∨ v.toInt = 6 := by omega
  rcases q with h | h | h | h | h | h | h
  · exact (Or.inl (Int32.toInt_inj.mp (h.trans (by decide : (0 : Int) = (0 : Int32).toInt))))
  · exact (Or.inr (Or.inl (Int32.toInt_inj.mp (h.trans (by decide : (1 : Int) = (1 : Int32).toInt)))))
  · exact (Or.inr (Or.inr (Or.inl (Int32.toInt_inj.mp (h.trans (by decide : (2 : Int) = (2 : Int32).toInt))))))
  · exact (Or.inr (Or.inr (Or.inr (Or.inl (Int32.toInt_inj.mp (h.trans (by decide : (3 : Int) = (3 : Int32).toInt)))))))
  · exact (Or.inr (Or.inr (Or.inr (Or.inr (Or.inl (Int32.toInt_inj.mp (h.trans (by decide : (4 : Int) = (4 : Int32).toInt))))))))
  · exact (Or.inr (Or.inr (Or.inr (Or.inr (Or.inr (Or.inl (Int32.toInt_inj.mp (h.trans (by decide : (5 : Int) = (5 : Int32).toInt)))))))))
  · exact (Or.inr (Or.inr (Or.inr (Or.inr (Or.inr (Or.inr (Int32.toInt_inj.mp (h.trans (by decide : (6 : Int) = (6 : Int32).toInt)))))))))
theorem cases8 {v : Int32} (h0 : 0 ≤ v.toInt) (h1 : v.toInt < 8) : v = 0 ∨ v = 1 ∨ v = 2 ∨ v = 3 ∨ v = 4 ∨ v = 5 ∨ v = 6 ∨ v = 7 := by
  have q : v.toInt = 0 ∨ v.toInt = 1 ∨ v.toInt = 2 ∨ v.toInt = 3 ∨ v.toInt = 4 ∨ v.toInt = 5 ∨ v.toInt = 6 ∨ v.toInt = 7 := by omega
  rcases q with h | h | h | h | h | h | h | h
  · exact (Or.inl (Int32.toInt_inj.mp (h.trans (by decide : (0 : Int) = (0 : Int32).toInt))))
  · exact (Or.inr (Or.inl (Int32.toInt_inj.mp (h.trans (by decide : (1 : Int) = (1 : Int32).toInt)))))
  · exact (Or.inr (Or.inr (Or.inl (Int32.toInt_inj.mp (h.trans (by decide : (2 : Int) = (2 : Int32).toInt))))))
  · exact (Or.inr (Or.inr (Or.inr (Or.inl (Int32.toInt_inj.mp (h.trans (by decide : (3 : Int) = (3 : Int32).toInt)))))))
  · exact (Or.inr (Or.inr (Or.inr (Or.inr (Or.inl (Int32.toInt_inj.mp (h.trans (by decide : (4 : Int) = (4 : Int32).toInt))))))))
  · exact (Or.inr (Or.inr (Or.inr (Or.inr (Or.inr (Or.inl (Int32.toInt_inj.mp (h.trans (by decide : (5 : Int) = (5 : Int32).toInt)))))))))
  · exact (Or.inr (Or.inr (Or.inr (Or.inr (Or.inr (Or.inr (Or.inl (Int32.toInt_inj.mp (h.trans (by decide : (6 : Int) = (6 : Int32).toInt))))))))))
  · exact (Or.inr (Or.inr (Or.inr (Or.inr (Or.inr (Or.inr (Or.inr (Int32.toInt_inj.mp (h.trans (by decide : (7 : Int) = (7 : Int32).toInt))))))))))
theorem cases10 {v : Int32} (h0 : 0 ≤ v.toInt) (h1 : v.toInt < 10) : v = 0 ∨ v = 1 ∨ v = 2 ∨ v = 3 ∨ v = 4 ∨ v = 5 ∨ v = 6 ∨ v = 7 ∨ v = 8 ∨ v = 9 := by
  have q : v.toInt = 0 ∨ v.toInt = 1 ∨ v.toInt = 2 ∨ v.toInt = 3 ∨ v.toInt = 4 ∨ v.toInt = 5 ∨ v.toInt = 6 ∨ v.toInt = 7 ∨ v.toInt = 8 ∨ v.toInt = 9 := by omega
  rcases q with h | h | h | h | h | h | h | h | h | h
  · exact (Or.inl (Int32.toInt_inj.mp (h.trans (by decide : (0 : Int) = (0 : Int32).toInt))))
  · exact (Or.inr (Or.inl (Int32.toInt_inj.mp (h.trans (by decide : (1 : Int) = (1 : Int32).toInt)))))
  · exact (Or.inr (Or.inr (Or.inl (Int32.toInt_inj.mp (h.trans (by decide : (2 : Int) = (2 : Int32).toInt))))))
  · exact (Or.inr (Or.inr (Or.inr (Or.inl (Int32.toInt_inj.mp (h.trans (by decide : (3 : Int) = (3 : Int32).toInt)))))))
  · exact (Or.inr (Or.inr (Or.inr (Or.inr (Or.inl (Int32.toInt_inj.mp (h.trans (by decide : (4 : Int) = (4 : Int32).toInt))))))))
  · exact (Or.inr (Or.inr (Or.inr (Or.inr (Or.inr (Or.inl (Int32.toInt_inj.mp (h.trans (by decide : (5 : Int) = (5 : Int32).toInt)))))))))
  · exact (Or.inr (Or.inr (Or.inr (Or.inr (Or.inr (Or.inr (Or.inl (Int32.toInt_inj.mp (h.trans (by decide : (6 : Int) = (6 : Int32).toInt))))))))))
  · exact (Or.inr (Or.inr (Or.inr (Or.inr (Or.inr (Or.inr (Or.inr (Or.inl (Int32.toInt_inj.mp (h.trans (by decide : (7 : Int) = (7 : Int32).toInt)))))))))))
  · exact (Or.inr (Or.inr (Or.inr (Or.inr (Or.inr (Or.inr (Or.inr (Or.inr (Or.inl (Int32.toInt_inj.mp (h.trans (by decide : (8 : Int) = (8 : Int32).toInt))))))))))))
  · exact (Or.inr (Or.inr (Or.inr (Or.inr (Or.inr (Or.inr (Or.inr (Or.inr (Or.inr (Int32.toInt_inj.mp (h.trans (by decide : (9 : Int) = (9 : Int32).toInt))))))))))))
theorem cases16 {v : Int32} (h0 : 0 ≤ v.toInt) (h1 : v.toInt < 16) : v = 0 ∨ v = 1 ∨ v = 2 ∨ v = 3 ∨ v = 4 ∨ v = 5 ∨ v = 6 ∨ v = 7 ∨ v = 8 ∨ v = 9 ∨ v = 10 ∨ v = 11 ∨ v = 12 ∨ v = 13 ∨ v = 14 ∨ v = 15 := by
  have q : v.toInt = 0 ∨ v.toInt = 1 ∨ v.toInt = 2 ∨ v.toInt = 3 ∨ v.toInt = 4 ∨ v.toInt = 5 ∨ v.toInt = 6 ∨ v.toInt = 7 ∨ v.toInt = 8 ∨ v.toInt = 9 ∨ v.toInt = 10 ∨ v.toInt = 11 ∨ v.toInt = 12 ∨ v.toInt = 13 ∨ v.toInt = 14 ∨ v.toInt = 15 := by omega
  rcases q with h | h | h | h | h | h | h | h | h | h | h | h | h | h | h | h
  · exact (Or.inl (Int32.toInt_inj.mp (h.trans (by decide : (0 : Int) = (0 : Int32).toInt))))
  · exact (Or.inr (Or.inl (Int32.toInt_inj.mp (h.trans (by decide : (1 : Int) = (1 : Int32).toInt)))))
  · exact (Or.inr (Or.inr (Or.inl (Int32.toInt_inj.mp (h.trans (by decide : (2 : Int) = (2 : Int32).toInt))))))
  · exact (Or.inr (Or.inr (Or.inr (Or.inl (Int32.toInt_inj.mp (h.trans (by decide : (3 : Int) = (3 : Int32).toInt)))))))
  · exact (Or.inr (Or.inr (Or.inr (Or.inr (Or.inl (Int32.toInt_inj.mp (h.trans (by decide : (4 : Int) = (4 : Int32).toInt))))))))
  · exact (Or.inr (Or.inr (Or.inr (Or.inr (Or.inr (Or.inl (Int32.toInt_inj.mp (h.trans (by decide : (5 : Int) = (5 : Int32).toInt)))))))))
  · exact (Or.inr (Or.inr (Or.inr (Or.inr (Or.inr (Or.inr (Or.inl (Int32.toInt_inj.mp (h.trans (by decide : (6 : Int) = (6 : Int32).toInt))))))))))
  · exact (Or.inr (Or.inr (Or.inr (Or.inr (Or.inr (Or.inr (Or.inr (Or.inl (Int32.toInt_inj.mp (h.trans (by decide : (7 : Int) = (7 : Int32).toInt)))))))))))
  · exact (Or.inr (Or.inr (Or.inr (Or.inr (Or.inr (Or.inr (Or.inr (Or.inr (Or.inl (Int32.toInt_inj.mp (h.trans (by decide : (8 : Int) = (8 : Int32).toInt))))))))))))
  · exact (Or.inr (Or.inr (Or.inr (Or.inr (Or.inr (Or.inr (Or.inr (Or.inr (Or.inr (Or.inl (Int32.toInt_inj.mp (h.trans (by decide : (9 : Int) = (9 : Int32).toInt)))))))))))))
  · exact (Or.inr (Or.inr (Or.inr (Or.inr (Or.inr (Or.inr (Or.inr (Or.inr (Or.inr (Or.inr (Or.inl (Int32.toInt_inj.mp (h.trans (by decide : (10 : Int) = (10 : Int32).toInt))))))))))))))
  · exact (Or.inr (Or.inr (Or.inr (Or.inr (Or.inr (Or.inr (Or.inr (Or.inr (Or.inr (Or.inr (Or.inr (Or.inl (Int32.toInt_inj.mp (h.trans (by decide : (11 : Int) = (11 : Int32).toInt)))))))))))))))
  · exact (Or.inr (Or.inr (Or.inr (Or.inr (Or.inr (Or.inr (Or.inr (Or.inr (Or.inr (Or.inr (Or.inr (Or.inr (Or.inl (Int32.toInt_inj.mp (h.trans (by decide : (12 : Int) = (12 : Int32).toInt))))))))))))))))
  · exact (Or.inr (Or.inr (Or.inr (Or.inr (Or.inr (Or.inr (Or.inr (Or.inr (Or.inr (Or.inr (Or.inr (Or.inr (Or.inr (Or.inl (Int32.toInt_inj.mp (h.trans (by decide : (13 : Int) = (13 : Int32).toInt)))))))))))))))))
  · exact (Or.inr (Or.inr (Or.inr (Or.inr (Or.inr (Or.inr (Or.inr (Or.inr (Or.inr (Or.inr (Or.inr (Or.inr (Or.inr (Or.inr (Or.inl (Int32.toInt_inj.mp (h.trans (by decide : (14 : Int) = (14 : Int32).toInt))))))))))))))))))
  · exact (Or.inr (Or.inr (Or.inr (Or.inr (Or.inr (Or.inr (Or.inr (Or.inr (Or.inr (Or.inr (Or.inr (Or.inr (Or.inr (Or.inr (Or.inr (Int32.toInt_inj.mp (h.trans (by decide : (15 : Int) = (15 : Int32).toInt))))))))))))))))))
theorem onat {n : Nat} (h : n < 2147483648) : (Int32.ofNat n).toInt = n := Int32.toInt_ofNat_of_lt h
theorem onat_lt {n m : Nat} (hn : n < 2147483648) (hm : m < 2147483648) : (Int32.ofNat n < Int32.ofNat m) = (n < m) := by
  rw [Int32.lt_iff_toInt_lt, onat hn, onat hm]; exact propext ⟨fun h => by omega, fun h => by omega⟩
theorem onat_nn {n : Nat} (h : n < 2147483648) : (Int32.ofNat n < 0) = False := by
  have z : (0 : Int32).toInt = 0 := rfl
  rw [Int32.lt_iff_toInt_lt, onat h, z]; exact propext ⟨fun h => by omega, False.elim⟩
theorem onat_nat {n : Nat} (h : n < 2147483648) : (Int32.ofNat n).toNatClampNeg = n := by
  rw [Int32.toNatClampNeg, onat h]; rfl
theorem onat_succ (n : Nat) : Int32.ofNat n + 1 = Int32.ofNat (n + 1) := (Int32.ofNat_add n 1).symm
/-- an array of ints (or narrower): its n-th value -/
def ivs (xs : List Int32) : List Value := xs.map Value.int
theorem ivs_c {x : Int32} {xs : List Int32} : ivs (x :: xs) = .int x :: ivs xs := rfl
theorem ivs_n : ivs [] = [] := rfl
theorem ivs_len (xs : List Int32) : (ivs xs).length = xs.length := by simp [ivs]
theorem idx_at {pre suf : List Int32} {x : Int32} {f : Value → Prop} (h : pre.length < 2147483648) : idx (ivs (pre ++ x :: suf)) (Int32.ofNat pre.length) f = f (.int x) := by
  rw [idx_c, if_neg (by rw [onat_nn h]; exact id), onat_nat h]
  simp [idxN, ivs]
end Jvm.OwnKit
namespace Jvm.OwnKit
theorem a32 {x q : Int32} {c : Int} (hq : q.toInt = c) (h1 : -2 ^ 31 ≤ x.toInt + c) (h2 : x.toInt + c < 2 ^ 31) : (x + q).toInt = x.toInt + c := by subst hq; exact Jvm.Kit.i32_add h1 h2
theorem s32 {x q : Int32} {c : Int} (hq : q.toInt = c) (h1 : -2 ^ 31 ≤ x.toInt - c) (h2 : x.toInt - c < 2 ^ 31) : (x - q).toInt = x.toInt - c := by subst hq; exact Jvm.Kit.i32_sub h1 h2
theorem m32 {x q : Int32} {c : Int} (hq : q.toInt = c) (h1 : -2 ^ 31 ≤ x.toInt * c) (h2 : x.toInt * c < 2 ^ 31) : (x * q).toInt = x.toInt * c := by subst hq; exact Jvm.Kit.i32_mul h1 h2
theorem d32 {x q : Int32} {c : Int} (hq : q.toInt = c) (h1 : 0 ≤ x.toInt) (h2 : 0 < c) : (x / q).toInt = x.toInt / c := by
  subst hq; rw [Jvm.Kit.i32_div (by omega), Int.tdiv_eq_ediv_of_nonneg h1]
theorem a64 {x q : Int64} {c : Int} (hq : q.toInt = c) (h1 : -2 ^ 63 ≤ x.toInt + c) (h2 : x.toInt + c < 2 ^ 63) : (x + q).toInt = x.toInt + c := by subst hq; exact Jvm.Kit.i64_add h1 h2
theorem s64 {x q : Int64} {c : Int} (hq : q.toInt = c) (h1 : -2 ^ 63 ≤ x.toInt - c) (h2 : x.toInt - c < 2 ^ 63) : (x - q).toInt = x.toInt - c := by subst hq; exact Jvm.Kit.i64_sub h1 h2
theorem m64 {x q : Int64} {c : Int} (hq : q.toInt = c) (h1 : -2 ^ 63 ≤ x.toInt * c) (h2 : x.toInt * c < 2 ^ 63) : (x * q).toInt = x.toInt * c := by subst hq; exact Jvm.Kit.i64_mul h1 h2
theorem d64 {x q : Int64} {c : Int} (hq : q.toInt = c) (h1 : 0 ≤ x.toInt) (h2 : 0 < c) : (x / q).toInt = x.toInt / c := by
  subst hq; rw [Jvm.Kit.i64_div (by omega), Int.tdiv_eq_ediv_of_nonneg h1]
end Jvm.OwnKit
namespace Jvm.OwnKit
/-- a place of a list, by a natural index -/
theorem idx_lt {vs : List Value} {n : Nat} {v : Value} {f : Value → Prop} (h : n < 2147483648) (hv : vs[n]? = some v) : idx vs (Int32.ofNat n) f = f v := by
  rw [idx_c, if_neg (by rw [onat_nn h]; exact id), onat_nat h]
  simp [idxN, hv]
theorem idx_ig {vs : List Value} {n : Nat} {P : Prop} (h : n < 2147483648) (hv : n < vs.length) : idx vs (Int32.ofNat n) (fun _ => P) = P :=
  idx_lt h (List.getElem?_eq_getElem hv)
theorem setN_d {vs : List Value} {n : Nat} {v : Value} {f : List Value → Prop} : setN vs n v f = f (vs.set n v) := propext Iff.rfl
end Jvm.OwnKit
namespace Jvm.OwnKit
theorem ivs_set {xs : List Int32} {n : Nat} {x : Int32} : (ivs xs).set n (.int x) = ivs (xs.set n x) := by simp [ivs, List.map_set]
theorem idx_iv {xs : List Int32} {n : Nat} {P : Prop} (h : n < 2147483648) (hv : n < xs.length) : idx (ivs xs) (Int32.ofNat n) (fun _ => P) = P := idx_ig h (by rw [ivs_len]; exact hv)
theorem onat_add (n m : Nat) : Int32.ofNat n + Int32.ofNat m = Int32.ofNat (n + m) := (Int32.ofNat_add n m).symm
theorem onat_2 (n : Nat) : Int32.ofNat n + 2 = Int32.ofNat (n + 2) := (Int32.ofNat_add n 2).symm
/-- a small int is a natural -/
theorem to_onat {x : Int32} {m : Nat} (h0 : 0 ≤ x.toInt) (h1 : x.toInt < m) : ∃ n, n < m ∧ x = Int32.ofNat n := by
  have hl := x.toInt_lt
  exact ⟨x.toInt.toNat, by omega, Int32.toInt_inj.mp (by rw [onat (by omega)]; omega)⟩
end Jvm.OwnKit
namespace Jvm.Pilot.@@N@@
open Jvm Jvm.ClassFile Sem Op Lib Jvm.Free Jvm.Stand Jvm.LawKit Jvm.RoadKit Bundle Jvm.OwnKit Jvm.Pilot.@@N@@.Jvm.D
set_option maxRecDepth 65536
set_option maxHeartbeats 4000000
def G0 (l : Launch) (Z : State) (b : Heap) (K : Option Value → List Cel → Prop) : Cont := G code "com/example/rowkey/rowkey/EndedPartsWritePinLaw" "law" maxLocals ret room_1 tables_1 l Z b 16 128 K
def V0 (l : Launch) (Z : State) (b : Heap) (K : Option Value → List Cel → Prop) : Nat → Cont := Wn [34] code [] [] [] [.byte] [] [] ret room_1 b.size 16 128 K (G0 l Z b K)
section Body0
variable {l : Launch} {Z : State} {b : Heap} {K : Option Value → List Cel → Prop} {q : Nat} {ls : List Slot} {st : List Value} {H : List Cel} {cN sN : Nat}
theorem r0 (q : Nat) {pc : Nat} (h : V0 l Z b K q pc ls st H cN sN) : G0 l Z b K pc ls st H cN sN := G.run q (by intro x hx; cases hx) (by intro x hx; cases hx) (by intro x hx; cases hx) (by intro x hx; simp only [List.mem_cons, List.not_mem_nil, or_false] at hx; rcases hx with rfl <;> first | exact List.mem_of_getElem? (i := 4) rfl) (by intro x hx; cases hx) (by intro x hx; cases hx) h
theorem z0 {pc : Nat} : V0 l Z b K 0 pc ls st H cN sN = G0 l Z b K pc ls st H cN sN := propext Iff.rfl
theorem f0_0 : at1 code 0 = some (.iload_n 0) := at1_of at_0 rfl (by decide)
theorem s0_0 : V0 l Z b K (q + 1) 0 ls st H cN sN = (ldI ls 0 fun v => V0 l Z b K q 1 ls (.int v :: st) H cN sN) := by show Wn _ _ _ _ _ _ _ _ _ _ _ _ _ _ _ (q + 1) _ _ _ _ _ _ = _; rw [wn_s (by decide), f0_0]; rfl
theorem f0_1 : at1 code 1 = some (.iconst 3) := at1_of at_1 rfl (by decide)
theorem s0_1 : V0 l Z b K (q + 1) 1 ls st H cN sN = (V0 l Z b K q 2 ls (.int 3 :: st) H cN sN) := by show Wn _ _ _ _ _ _ _ _ _ _ _ _ _ _ _ (q + 1) _ _ _ _ _ _ = _; rw [wn_s (by decide), f0_1]; rfl
theorem f0_2 : at1 code 2 = some (.iand) := at1_of at_2 rfl (by decide)
theorem s0_2 : V0 l Z b K (q + 1) 2 ls st H cN sN = (popI st fun y r => popI r fun x r => V0 l Z b K q 3 ls (.int (x &&& y) :: r) H cN sN) := by show Wn _ _ _ _ _ _ _ _ _ _ _ _ _ _ _ (q + 1) _ _ _ _ _ _ = _; rw [wn_s (by decide), f0_2]; rfl
theorem f0_3 : at1 code 3 = some (.istore 6) := at1_of at_3 rfl (by decide)
theorem s0_3 : V0 l Z b K (q + 1) 3 ls st H cN sN = (popI st fun v r => sto1 ls 6 (.int v) fun l' => V0 l Z b K q 5 l' r H cN sN) := by show Wn _ _ _ _ _ _ _ _ _ _ _ _ _ _ _ (q + 1) _ _ _ _ _ _ = _; rw [wn_s (by decide), f0_3]; rfl
theorem f0_5 : at1 code 5 = some (.iload 4) := at1_of at_5 rfl (by decide)
theorem s0_5 : V0 l Z b K (q + 1) 5 ls st H cN sN = (ldI ls 4 fun v => V0 l Z b K q 7 ls (.int v :: st) H cN sN) := by show Wn _ _ _ _ _ _ _ _ _ _ _ _ _ _ _ (q + 1) _ _ _ _ _ _ = _; rw [wn_s (by decide), f0_5]; rfl
theorem f0_7 : at1 code 7 = some (.iconst 3) := at1_of at_7 rfl (by decide)
theorem s0_7 : V0 l Z b K (q + 1) 7 ls st H cN sN = (V0 l Z b K q 8 ls (.int 3 :: st) H cN sN) := by show Wn _ _ _ _ _ _ _ _ _ _ _ _ _ _ _ (q + 1) _ _ _ _ _ _ = _; rw [wn_s (by decide), f0_7]; rfl
theorem f0_8 : at1 code 8 = some (.iand) := at1_of at_8 rfl (by decide)
theorem s0_8 : V0 l Z b K (q + 1) 8 ls st H cN sN = (popI st fun y r => popI r fun x r => V0 l Z b K q 9 ls (.int (x &&& y) :: r) H cN sN) := by show Wn _ _ _ _ _ _ _ _ _ _ _ _ _ _ _ (q + 1) _ _ _ _ _ _ = _; rw [wn_s (by decide), f0_8]; rfl
theorem f0_9 : at1 code 9 = some (.istore 7) := at1_of at_9 rfl (by decide)
theorem s0_9 : V0 l Z b K (q + 1) 9 ls st H cN sN = (popI st fun v r => sto1 ls 7 (.int v) fun l' => V0 l Z b K q 11 l' r H cN sN) := by show Wn _ _ _ _ _ _ _ _ _ _ _ _ _ _ _ (q + 1) _ _ _ _ _ _ = _; rw [wn_s (by decide), f0_9]; rfl
theorem f0_11 : at1 code 11 = some (.iload 5) := at1_of at_11 rfl (by decide)
theorem s0_11 : V0 l Z b K (q + 1) 11 ls st H cN sN = (ldI ls 5 fun v => V0 l Z b K q 13 ls (.int v :: st) H cN sN) := by show Wn _ _ _ _ _ _ _ _ _ _ _ _ _ _ _ (q + 1) _ _ _ _ _ _ = _; rw [wn_s (by decide), f0_11]; rfl
theorem f0_13 : at1 code 13 = some (.i2b) := at1_of at_13 rfl (by decide)
theorem s0_13 : V0 l Z b K (q + 1) 13 ls st H cN sN = (popI st fun x r => V0 l Z b K q 14 ls (.int (nar .byte x) :: r) H cN sN) := by show Wn _ _ _ _ _ _ _ _ _ _ _ _ _ _ _ (q + 1) _ _ _ _ _ _ = _; rw [wn_s (by decide), f0_13]; rfl
theorem f0_14 : at1 code 14 = some (.istore 8) := at1_of at_14 rfl (by decide)
theorem s0_14 : V0 l Z b K (q + 1) 14 ls st H cN sN = (popI st fun v r => sto1 ls 8 (.int v) fun l' => V0 l Z b K q 16 l' r H cN sN) := by show Wn _ _ _ _ _ _ _ _ _ _ _ _ _ _ _ (q + 1) _ _ _ _ _ _ = _; rw [wn_s (by decide), f0_14]; rfl
theorem f0_16 : at1 code 16 = some (.iload_n 1) := at1_of at_16 rfl (by decide)
theorem s0_16 : V0 l Z b K (q + 1) 16 ls st H cN sN = (ldI ls 1 fun v => V0 l Z b K q 17 ls (.int v :: st) H cN sN) := by show Wn _ _ _ _ _ _ _ _ _ _ _ _ _ _ _ (q + 1) _ _ _ _ _ _ = _; rw [wn_s (by decide), f0_16]; rfl
theorem f0_17 : at1 code 17 = some (.invokestatic 7) := at1_of at_17 rfl (by decide)
theorem s0_17 : V0 l Z b K (q + 1) 17 ls st H cN sN = (G0 l Z b K 17 ls st H cN sN) := by show Wn _ _ _ _ _ _ _ _ _ _ _ _ _ _ _ (q + 1) _ _ _ _ _ _ = _; rw [wn_s (by decide), f0_17]; rfl
theorem f0_20 : at1 code 20 = some (.istore 9) := at1_of at_20 rfl (by decide)
theorem s0_20 : V0 l Z b K (q + 1) 20 ls st H cN sN = (popI st fun v r => sto1 ls 9 (.int v) fun l' => V0 l Z b K q 22 l' r H cN sN) := by show Wn _ _ _ _ _ _ _ _ _ _ _ _ _ _ _ (q + 1) _ _ _ _ _ _ = _; rw [wn_s (by decide), f0_20]; rfl
theorem f0_22 : at1 code 22 = some (.iload_n 2) := at1_of at_22 rfl (by decide)
theorem s0_22 : V0 l Z b K (q + 1) 22 ls st H cN sN = (ldI ls 2 fun v => V0 l Z b K q 23 ls (.int v :: st) H cN sN) := by show Wn _ _ _ _ _ _ _ _ _ _ _ _ _ _ _ (q + 1) _ _ _ _ _ _ = _; rw [wn_s (by decide), f0_22]; rfl
theorem f0_23 : at1 code 23 = some (.invokestatic 7) := at1_of at_23 rfl (by decide)
theorem s0_23 : V0 l Z b K (q + 1) 23 ls st H cN sN = (G0 l Z b K 23 ls st H cN sN) := by show Wn _ _ _ _ _ _ _ _ _ _ _ _ _ _ _ (q + 1) _ _ _ _ _ _ = _; rw [wn_s (by decide), f0_23]; rfl
theorem f0_26 : at1 code 26 = some (.istore 10) := at1_of at_26 rfl (by decide)
theorem s0_26 : V0 l Z b K (q + 1) 26 ls st H cN sN = (popI st fun v r => sto1 ls 10 (.int v) fun l' => V0 l Z b K q 28 l' r H cN sN) := by show Wn _ _ _ _ _ _ _ _ _ _ _ _ _ _ _ (q + 1) _ _ _ _ _ _ = _; rw [wn_s (by decide), f0_26]; rfl
theorem f0_28 : at1 code 28 = some (.iload_n 3) := at1_of at_28 rfl (by decide)
theorem s0_28 : V0 l Z b K (q + 1) 28 ls st H cN sN = (ldI ls 3 fun v => V0 l Z b K q 29 ls (.int v :: st) H cN sN) := by show Wn _ _ _ _ _ _ _ _ _ _ _ _ _ _ _ (q + 1) _ _ _ _ _ _ = _; rw [wn_s (by decide), f0_28]; rfl
theorem f0_29 : at1 code 29 = some (.invokestatic 7) := at1_of at_29 rfl (by decide)
theorem s0_29 : V0 l Z b K (q + 1) 29 ls st H cN sN = (G0 l Z b K 29 ls st H cN sN) := by show Wn _ _ _ _ _ _ _ _ _ _ _ _ _ _ _ (q + 1) _ _ _ _ _ _ = _; rw [wn_s (by decide), f0_29]; rfl
theorem f0_32 : at1 code 32 = some (.istore 11) := at1_of at_32 rfl (by decide)
theorem s0_32 : V0 l Z b K (q + 1) 32 ls st H cN sN = (popI st fun v r => sto1 ls 11 (.int v) fun l' => V0 l Z b K q 34 l' r H cN sN) := by show Wn _ _ _ _ _ _ _ _ _ _ _ _ _ _ _ (q + 1) _ _ _ _ _ _ = _; rw [wn_s (by decide), f0_32]; rfl
theorem f0_34 : at1 code 34 = some (.iload 6) := at1_of at_34 rfl (by decide)
theorem s0_34 : V0 l Z b K (q + 1) 34 ls st H cN sN = G0 l Z b K 34 ls st H cN sN := wn_p (by decide)
theorem e0_34 (q : Nat) (h : ldI ls 6 fun v => V0 l Z b K q 36 ls (.int v :: st) H cN sN) : G0 l Z b K 34 ls st H cN sN := G.enter (S := [34]) (CI := []) (CL := []) (FL := []) (AL := [.byte]) (PL := []) (NL := []) q (by intro x hx; cases hx) (by intro x hx; cases hx) (by intro x hx; cases hx) (by intro x hx; simp only [List.mem_cons, List.not_mem_nil, or_false] at hx; rcases hx with rfl <;> first | exact List.mem_of_getElem? (i := 4) rfl) (by intro x hx; cases hx) (by intro x hx; cases hx) f0_34 h
theorem f0_36 : at1 code 36 = some (.ifCond .ne 11) := at1_of at_36 rfl (by decide)
theorem s0_36 : V0 l Z b K (q + 1) 36 ls st H cN sN = (popI st fun x r => if x = 0 then V0 l Z b K q 39 ls r H cN sN else V0 l Z b K q 47 ls r H cN sN) := by show Wn _ _ _ _ _ _ _ _ _ _ _ _ _ _ _ (q + 1) _ _ _ _ _ _ = _; rw [wn_s (by decide), f0_36]; rfl
theorem f0_39 : at1 code 39 = some (.iconst 0) := at1_of at_39 rfl (by decide)
theorem s0_39 : V0 l Z b K (q + 1) 39 ls st H cN sN = (V0 l Z b K q 40 ls (.int 0 :: st) H cN sN) := by show Wn _ _ _ _ _ _ _ _ _ _ _ _ _ _ _ (q + 1) _ _ _ _ _ _ = _; rw [wn_s (by decide), f0_39]; rfl
theorem f0_40 : at1 code 40 = some (.newarray .byte) := at1_of at_40 rfl (by decide)
theorem s0_40 : V0 l Z b K (q + 1) 40 ls st H cN sN = (popI st fun n r => if ¬ n < 0 ∧ .byte ∈ ([.byte] : List FieldType) ∧ n.toNatClampNeg ≤ 65536 ∧ cN + 1 ≤ room_1.cells ∧ sN + n.toNatClampNeg ≤ room_1.slots then onLen H fun i => repN n.toNatClampNeg (.int 0) fun vs => snoc H (.inl (.byte, vs)) fun H' => V0 l Z b K q 42 ls (.ref (ad b.size i) :: r) H' (cN + 1) (sN + n.toNatClampNeg) else False) := by show Wn _ _ _ _ _ _ _ _ _ _ _ _ _ _ _ (q + 1) _ _ _ _ _ _ = _; rw [wn_s (by decide), f0_40]; rfl
theorem f0_42 : at1 code 42 = some (.astore 12) := at1_of at_42 rfl (by decide)
theorem s0_42 : V0 l Z b K (q + 1) 42 ls st H cN sN = (popA st fun v r => sto1 ls 12 v fun l' => V0 l Z b K q 44 l' r H cN sN) := by show Wn _ _ _ _ _ _ _ _ _ _ _ _ _ _ _ (q + 1) _ _ _ _ _ _ = _; rw [wn_s (by decide), f0_42]; rfl
theorem f0_44 : at1 code 44 = some (.goto 66) := at1_of at_44 rfl (by decide)
theorem s0_44 : V0 l Z b K (q + 1) 44 ls st H cN sN = (V0 l Z b K q 110 ls st H cN sN) := by show Wn _ _ _ _ _ _ _ _ _ _ _ _ _ _ _ (q + 1) _ _ _ _ _ _ = _; rw [wn_s (by decide), f0_44]; rfl
theorem f0_47 : at1 code 47 = some (.iload 6) := at1_of at_47 rfl (by decide)
theorem s0_47 : V0 l Z b K (q + 1) 47 ls st H cN sN = (ldI ls 6 fun v => V0 l Z b K q 49 ls (.int v :: st) H cN sN) := by show Wn _ _ _ _ _ _ _ _ _ _ _ _ _ _ _ (q + 1) _ _ _ _ _ _ = _; rw [wn_s (by decide), f0_47]; rfl
theorem f0_49 : at1 code 49 = some (.iconst 1) := at1_of at_49 rfl (by decide)
theorem s0_49 : V0 l Z b K (q + 1) 49 ls st H cN sN = (V0 l Z b K q 50 ls (.int 1 :: st) H cN sN) := by show Wn _ _ _ _ _ _ _ _ _ _ _ _ _ _ _ (q + 1) _ _ _ _ _ _ = _; rw [wn_s (by decide), f0_49]; rfl
theorem f0_50 : at1 code 50 = some (.if_icmp .ne 16) := at1_of at_50 rfl (by decide)
theorem s0_50 : V0 l Z b K (q + 1) 50 ls st H cN sN = (popI st fun y r => popI r fun x r => if x = y then V0 l Z b K q 53 ls r H cN sN else V0 l Z b K q 66 ls r H cN sN) := by show Wn _ _ _ _ _ _ _ _ _ _ _ _ _ _ _ (q + 1) _ _ _ _ _ _ = _; rw [wn_s (by decide), f0_50]; rfl
theorem f0_53 : at1 code 53 = some (.iconst 1) := at1_of at_53 rfl (by decide)
theorem s0_53 : V0 l Z b K (q + 1) 53 ls st H cN sN = (V0 l Z b K q 54 ls (.int 1 :: st) H cN sN) := by show Wn _ _ _ _ _ _ _ _ _ _ _ _ _ _ _ (q + 1) _ _ _ _ _ _ = _; rw [wn_s (by decide), f0_53]; rfl
theorem f0_54 : at1 code 54 = some (.newarray .byte) := at1_of at_54 rfl (by decide)
theorem s0_54 : V0 l Z b K (q + 1) 54 ls st H cN sN = (popI st fun n r => if ¬ n < 0 ∧ .byte ∈ ([.byte] : List FieldType) ∧ n.toNatClampNeg ≤ 65536 ∧ cN + 1 ≤ room_1.cells ∧ sN + n.toNatClampNeg ≤ room_1.slots then onLen H fun i => repN n.toNatClampNeg (.int 0) fun vs => snoc H (.inl (.byte, vs)) fun H' => V0 l Z b K q 56 ls (.ref (ad b.size i) :: r) H' (cN + 1) (sN + n.toNatClampNeg) else False) := by show Wn _ _ _ _ _ _ _ _ _ _ _ _ _ _ _ (q + 1) _ _ _ _ _ _ = _; rw [wn_s (by decide), f0_54]; rfl
theorem f0_56 : at1 code 56 = some (.dup) := at1_of at_56 rfl (by decide)
theorem s0_56 : V0 l Z b K (q + 1) 56 ls st H cN sN = (pop1 st fun x r => V0 l Z b K q 57 ls (x :: x :: r) H cN sN) := by show Wn _ _ _ _ _ _ _ _ _ _ _ _ _ _ _ (q + 1) _ _ _ _ _ _ = _; rw [wn_s (by decide), f0_56]; rfl
theorem f0_57 : at1 code 57 = some (.iconst 0) := at1_of at_57 rfl (by decide)
theorem s0_57 : V0 l Z b K (q + 1) 57 ls st H cN sN = (V0 l Z b K q 58 ls (.int 0 :: st) H cN sN) := by show Wn _ _ _ _ _ _ _ _ _ _ _ _ _ _ _ (q + 1) _ _ _ _ _ _ = _; rw [wn_s (by decide), f0_57]; rfl
theorem f0_58 : at1 code 58 = some (.iload 9) := at1_of at_58 rfl (by decide)
theorem s0_58 : V0 l Z b K (q + 1) 58 ls st H cN sN = (ldI ls 9 fun v => V0 l Z b K q 60 ls (.int v :: st) H cN sN) := by show Wn _ _ _ _ _ _ _ _ _ _ _ _ _ _ _ (q + 1) _ _ _ _ _ _ = _; rw [wn_s (by decide), f0_58]; rfl
theorem f0_60 : at1 code 60 = some (.bastore) := at1_of at_60 rfl (by decide)
theorem s0_60 : V0 l Z b K (q + 1) 60 ls st H cN sN = (popI st fun x r => popI r fun j r => popR r fun a r => arr H b.size a fun i ty vs => if ty = .byte then idx vs j fun _ => setN vs j.toNatClampNeg (.int (nar .byte x)) fun vs' => setH H i (.inl (.byte, vs')) fun H' => V0 l Z b K q 61 ls r H' cN sN else False) := by show Wn _ _ _ _ _ _ _ _ _ _ _ _ _ _ _ (q + 1) _ _ _ _ _ _ = _; rw [wn_s (by decide), f0_60]; rfl
theorem f0_61 : at1 code 61 = some (.astore 12) := at1_of at_61 rfl (by decide)
theorem s0_61 : V0 l Z b K (q + 1) 61 ls st H cN sN = (popA st fun v r => sto1 ls 12 v fun l' => V0 l Z b K q 63 l' r H cN sN) := by show Wn _ _ _ _ _ _ _ _ _ _ _ _ _ _ _ (q + 1) _ _ _ _ _ _ = _; rw [wn_s (by decide), f0_61]; rfl
theorem f0_63 : at1 code 63 = some (.goto 47) := at1_of at_63 rfl (by decide)
theorem s0_63 : V0 l Z b K (q + 1) 63 ls st H cN sN = (V0 l Z b K q 110 ls st H cN sN) := by show Wn _ _ _ _ _ _ _ _ _ _ _ _ _ _ _ (q + 1) _ _ _ _ _ _ = _; rw [wn_s (by decide), f0_63]; rfl
theorem f0_66 : at1 code 66 = some (.iload 6) := at1_of at_66 rfl (by decide)
theorem s0_66 : V0 l Z b K (q + 1) 66 ls st H cN sN = (ldI ls 6 fun v => V0 l Z b K q 68 ls (.int v :: st) H cN sN) := by show Wn _ _ _ _ _ _ _ _ _ _ _ _ _ _ _ (q + 1) _ _ _ _ _ _ = _; rw [wn_s (by decide), f0_66]; rfl
theorem f0_68 : at1 code 68 = some (.iconst 2) := at1_of at_68 rfl (by decide)
theorem s0_68 : V0 l Z b K (q + 1) 68 ls st H cN sN = (V0 l Z b K q 69 ls (.int 2 :: st) H cN sN) := by show Wn _ _ _ _ _ _ _ _ _ _ _ _ _ _ _ (q + 1) _ _ _ _ _ _ = _; rw [wn_s (by decide), f0_68]; rfl
theorem f0_69 : at1 code 69 = some (.if_icmp .ne 21) := at1_of at_69 rfl (by decide)
theorem s0_69 : V0 l Z b K (q + 1) 69 ls st H cN sN = (popI st fun y r => popI r fun x r => if x = y then V0 l Z b K q 72 ls r H cN sN else V0 l Z b K q 90 ls r H cN sN) := by show Wn _ _ _ _ _ _ _ _ _ _ _ _ _ _ _ (q + 1) _ _ _ _ _ _ = _; rw [wn_s (by decide), f0_69]; rfl
theorem f0_72 : at1 code 72 = some (.iconst 2) := at1_of at_72 rfl (by decide)
theorem s0_72 : V0 l Z b K (q + 1) 72 ls st H cN sN = (V0 l Z b K q 73 ls (.int 2 :: st) H cN sN) := by show Wn _ _ _ _ _ _ _ _ _ _ _ _ _ _ _ (q + 1) _ _ _ _ _ _ = _; rw [wn_s (by decide), f0_72]; rfl
theorem f0_73 : at1 code 73 = some (.newarray .byte) := at1_of at_73 rfl (by decide)
theorem s0_73 : V0 l Z b K (q + 1) 73 ls st H cN sN = (popI st fun n r => if ¬ n < 0 ∧ .byte ∈ ([.byte] : List FieldType) ∧ n.toNatClampNeg ≤ 65536 ∧ cN + 1 ≤ room_1.cells ∧ sN + n.toNatClampNeg ≤ room_1.slots then onLen H fun i => repN n.toNatClampNeg (.int 0) fun vs => snoc H (.inl (.byte, vs)) fun H' => V0 l Z b K q 75 ls (.ref (ad b.size i) :: r) H' (cN + 1) (sN + n.toNatClampNeg) else False) := by show Wn _ _ _ _ _ _ _ _ _ _ _ _ _ _ _ (q + 1) _ _ _ _ _ _ = _; rw [wn_s (by decide), f0_73]; rfl
theorem f0_75 : at1 code 75 = some (.dup) := at1_of at_75 rfl (by decide)
theorem s0_75 : V0 l Z b K (q + 1) 75 ls st H cN sN = (pop1 st fun x r => V0 l Z b K q 76 ls (x :: x :: r) H cN sN) := by show Wn _ _ _ _ _ _ _ _ _ _ _ _ _ _ _ (q + 1) _ _ _ _ _ _ = _; rw [wn_s (by decide), f0_75]; rfl
theorem f0_76 : at1 code 76 = some (.iconst 0) := at1_of at_76 rfl (by decide)
theorem s0_76 : V0 l Z b K (q + 1) 76 ls st H cN sN = (V0 l Z b K q 77 ls (.int 0 :: st) H cN sN) := by show Wn _ _ _ _ _ _ _ _ _ _ _ _ _ _ _ (q + 1) _ _ _ _ _ _ = _; rw [wn_s (by decide), f0_76]; rfl
theorem f0_77 : at1 code 77 = some (.iload 9) := at1_of at_77 rfl (by decide)
theorem s0_77 : V0 l Z b K (q + 1) 77 ls st H cN sN = (ldI ls 9 fun v => V0 l Z b K q 79 ls (.int v :: st) H cN sN) := by show Wn _ _ _ _ _ _ _ _ _ _ _ _ _ _ _ (q + 1) _ _ _ _ _ _ = _; rw [wn_s (by decide), f0_77]; rfl
theorem f0_79 : at1 code 79 = some (.bastore) := at1_of at_79 rfl (by decide)
theorem s0_79 : V0 l Z b K (q + 1) 79 ls st H cN sN = (popI st fun x r => popI r fun j r => popR r fun a r => arr H b.size a fun i ty vs => if ty = .byte then idx vs j fun _ => setN vs j.toNatClampNeg (.int (nar .byte x)) fun vs' => setH H i (.inl (.byte, vs')) fun H' => V0 l Z b K q 80 ls r H' cN sN else False) := by show Wn _ _ _ _ _ _ _ _ _ _ _ _ _ _ _ (q + 1) _ _ _ _ _ _ = _; rw [wn_s (by decide), f0_79]; rfl
theorem f0_80 : at1 code 80 = some (.dup) := at1_of at_80 rfl (by decide)
theorem s0_80 : V0 l Z b K (q + 1) 80 ls st H cN sN = (pop1 st fun x r => V0 l Z b K q 81 ls (x :: x :: r) H cN sN) := by show Wn _ _ _ _ _ _ _ _ _ _ _ _ _ _ _ (q + 1) _ _ _ _ _ _ = _; rw [wn_s (by decide), f0_80]; rfl
theorem f0_81 : at1 code 81 = some (.iconst 1) := at1_of at_81 rfl (by decide)
theorem s0_81 : V0 l Z b K (q + 1) 81 ls st H cN sN = (V0 l Z b K q 82 ls (.int 1 :: st) H cN sN) := by show Wn _ _ _ _ _ _ _ _ _ _ _ _ _ _ _ (q + 1) _ _ _ _ _ _ = _; rw [wn_s (by decide), f0_81]; rfl
theorem f0_82 : at1 code 82 = some (.iload 10) := at1_of at_82 rfl (by decide)
theorem s0_82 : V0 l Z b K (q + 1) 82 ls st H cN sN = (ldI ls 10 fun v => V0 l Z b K q 84 ls (.int v :: st) H cN sN) := by show Wn _ _ _ _ _ _ _ _ _ _ _ _ _ _ _ (q + 1) _ _ _ _ _ _ = _; rw [wn_s (by decide), f0_82]; rfl
theorem f0_84 : at1 code 84 = some (.bastore) := at1_of at_84 rfl (by decide)
theorem s0_84 : V0 l Z b K (q + 1) 84 ls st H cN sN = (popI st fun x r => popI r fun j r => popR r fun a r => arr H b.size a fun i ty vs => if ty = .byte then idx vs j fun _ => setN vs j.toNatClampNeg (.int (nar .byte x)) fun vs' => setH H i (.inl (.byte, vs')) fun H' => V0 l Z b K q 85 ls r H' cN sN else False) := by show Wn _ _ _ _ _ _ _ _ _ _ _ _ _ _ _ (q + 1) _ _ _ _ _ _ = _; rw [wn_s (by decide), f0_84]; rfl
theorem f0_85 : at1 code 85 = some (.astore 12) := at1_of at_85 rfl (by decide)
theorem s0_85 : V0 l Z b K (q + 1) 85 ls st H cN sN = (popA st fun v r => sto1 ls 12 v fun l' => V0 l Z b K q 87 l' r H cN sN) := by show Wn _ _ _ _ _ _ _ _ _ _ _ _ _ _ _ (q + 1) _ _ _ _ _ _ = _; rw [wn_s (by decide), f0_85]; rfl
theorem f0_87 : at1 code 87 = some (.goto 23) := at1_of at_87 rfl (by decide)
theorem s0_87 : V0 l Z b K (q + 1) 87 ls st H cN sN = (V0 l Z b K q 110 ls st H cN sN) := by show Wn _ _ _ _ _ _ _ _ _ _ _ _ _ _ _ (q + 1) _ _ _ _ _ _ = _; rw [wn_s (by decide), f0_87]; rfl
theorem f0_90 : at1 code 90 = some (.iconst 3) := at1_of at_90 rfl (by decide)
theorem s0_90 : V0 l Z b K (q + 1) 90 ls st H cN sN = (V0 l Z b K q 91 ls (.int 3 :: st) H cN sN) := by show Wn _ _ _ _ _ _ _ _ _ _ _ _ _ _ _ (q + 1) _ _ _ _ _ _ = _; rw [wn_s (by decide), f0_90]; rfl
theorem f0_91 : at1 code 91 = some (.newarray .byte) := at1_of at_91 rfl (by decide)
theorem s0_91 : V0 l Z b K (q + 1) 91 ls st H cN sN = (popI st fun n r => if ¬ n < 0 ∧ .byte ∈ ([.byte] : List FieldType) ∧ n.toNatClampNeg ≤ 65536 ∧ cN + 1 ≤ room_1.cells ∧ sN + n.toNatClampNeg ≤ room_1.slots then onLen H fun i => repN n.toNatClampNeg (.int 0) fun vs => snoc H (.inl (.byte, vs)) fun H' => V0 l Z b K q 93 ls (.ref (ad b.size i) :: r) H' (cN + 1) (sN + n.toNatClampNeg) else False) := by show Wn _ _ _ _ _ _ _ _ _ _ _ _ _ _ _ (q + 1) _ _ _ _ _ _ = _; rw [wn_s (by decide), f0_91]; rfl
theorem f0_93 : at1 code 93 = some (.dup) := at1_of at_93 rfl (by decide)
theorem s0_93 : V0 l Z b K (q + 1) 93 ls st H cN sN = (pop1 st fun x r => V0 l Z b K q 94 ls (x :: x :: r) H cN sN) := by show Wn _ _ _ _ _ _ _ _ _ _ _ _ _ _ _ (q + 1) _ _ _ _ _ _ = _; rw [wn_s (by decide), f0_93]; rfl
theorem f0_94 : at1 code 94 = some (.iconst 0) := at1_of at_94 rfl (by decide)
theorem s0_94 : V0 l Z b K (q + 1) 94 ls st H cN sN = (V0 l Z b K q 95 ls (.int 0 :: st) H cN sN) := by show Wn _ _ _ _ _ _ _ _ _ _ _ _ _ _ _ (q + 1) _ _ _ _ _ _ = _; rw [wn_s (by decide), f0_94]; rfl
theorem f0_95 : at1 code 95 = some (.iload 9) := at1_of at_95 rfl (by decide)
theorem s0_95 : V0 l Z b K (q + 1) 95 ls st H cN sN = (ldI ls 9 fun v => V0 l Z b K q 97 ls (.int v :: st) H cN sN) := by show Wn _ _ _ _ _ _ _ _ _ _ _ _ _ _ _ (q + 1) _ _ _ _ _ _ = _; rw [wn_s (by decide), f0_95]; rfl
theorem f0_97 : at1 code 97 = some (.bastore) := at1_of at_97 rfl (by decide)
theorem s0_97 : V0 l Z b K (q + 1) 97 ls st H cN sN = (popI st fun x r => popI r fun j r => popR r fun a r => arr H b.size a fun i ty vs => if ty = .byte then idx vs j fun _ => setN vs j.toNatClampNeg (.int (nar .byte x)) fun vs' => setH H i (.inl (.byte, vs')) fun H' => V0 l Z b K q 98 ls r H' cN sN else False) := by show Wn _ _ _ _ _ _ _ _ _ _ _ _ _ _ _ (q + 1) _ _ _ _ _ _ = _; rw [wn_s (by decide), f0_97]; rfl
theorem f0_98 : at1 code 98 = some (.dup) := at1_of at_98 rfl (by decide)
theorem s0_98 : V0 l Z b K (q + 1) 98 ls st H cN sN = (pop1 st fun x r => V0 l Z b K q 99 ls (x :: x :: r) H cN sN) := by show Wn _ _ _ _ _ _ _ _ _ _ _ _ _ _ _ (q + 1) _ _ _ _ _ _ = _; rw [wn_s (by decide), f0_98]; rfl
theorem f0_99 : at1 code 99 = some (.iconst 1) := at1_of at_99 rfl (by decide)
theorem s0_99 : V0 l Z b K (q + 1) 99 ls st H cN sN = (V0 l Z b K q 100 ls (.int 1 :: st) H cN sN) := by show Wn _ _ _ _ _ _ _ _ _ _ _ _ _ _ _ (q + 1) _ _ _ _ _ _ = _; rw [wn_s (by decide), f0_99]; rfl
theorem f0_100 : at1 code 100 = some (.iload 10) := at1_of at_100 rfl (by decide)
theorem s0_100 : V0 l Z b K (q + 1) 100 ls st H cN sN = (ldI ls 10 fun v => V0 l Z b K q 102 ls (.int v :: st) H cN sN) := by show Wn _ _ _ _ _ _ _ _ _ _ _ _ _ _ _ (q + 1) _ _ _ _ _ _ = _; rw [wn_s (by decide), f0_100]; rfl
theorem f0_102 : at1 code 102 = some (.bastore) := at1_of at_102 rfl (by decide)
theorem s0_102 : V0 l Z b K (q + 1) 102 ls st H cN sN = (popI st fun x r => popI r fun j r => popR r fun a r => arr H b.size a fun i ty vs => if ty = .byte then idx vs j fun _ => setN vs j.toNatClampNeg (.int (nar .byte x)) fun vs' => setH H i (.inl (.byte, vs')) fun H' => V0 l Z b K q 103 ls r H' cN sN else False) := by show Wn _ _ _ _ _ _ _ _ _ _ _ _ _ _ _ (q + 1) _ _ _ _ _ _ = _; rw [wn_s (by decide), f0_102]; rfl
theorem f0_103 : at1 code 103 = some (.dup) := at1_of at_103 rfl (by decide)
theorem s0_103 : V0 l Z b K (q + 1) 103 ls st H cN sN = (pop1 st fun x r => V0 l Z b K q 104 ls (x :: x :: r) H cN sN) := by show Wn _ _ _ _ _ _ _ _ _ _ _ _ _ _ _ (q + 1) _ _ _ _ _ _ = _; rw [wn_s (by decide), f0_103]; rfl
theorem f0_104 : at1 code 104 = some (.iconst 2) := at1_of at_104 rfl (by decide)
theorem s0_104 : V0 l Z b K (q + 1) 104 ls st H cN sN = (V0 l Z b K q 105 ls (.int 2 :: st) H cN sN) := by show Wn _ _ _ _ _ _ _ _ _ _ _ _ _ _ _ (q + 1) _ _ _ _ _ _ = _; rw [wn_s (by decide), f0_104]; rfl
theorem f0_105 : at1 code 105 = some (.iload 11) := at1_of at_105 rfl (by decide)
theorem s0_105 : V0 l Z b K (q + 1) 105 ls st H cN sN = (ldI ls 11 fun v => V0 l Z b K q 107 ls (.int v :: st) H cN sN) := by show Wn _ _ _ _ _ _ _ _ _ _ _ _ _ _ _ (q + 1) _ _ _ _ _ _ = _; rw [wn_s (by decide), f0_105]; rfl
theorem f0_107 : at1 code 107 = some (.bastore) := at1_of at_107 rfl (by decide)
theorem s0_107 : V0 l Z b K (q + 1) 107 ls st H cN sN = (popI st fun x r => popI r fun j r => popR r fun a r => arr H b.size a fun i ty vs => if ty = .byte then idx vs j fun _ => setN vs j.toNatClampNeg (.int (nar .byte x)) fun vs' => setH H i (.inl (.byte, vs')) fun H' => V0 l Z b K q 108 ls r H' cN sN else False) := by show Wn _ _ _ _ _ _ _ _ _ _ _ _ _ _ _ (q + 1) _ _ _ _ _ _ = _; rw [wn_s (by decide), f0_107]; rfl
theorem f0_108 : at1 code 108 = some (.astore 12) := at1_of at_108 rfl (by decide)
theorem s0_108 : V0 l Z b K (q + 1) 108 ls st H cN sN = (popA st fun v r => sto1 ls 12 v fun l' => V0 l Z b K q 110 l' r H cN sN) := by show Wn _ _ _ _ _ _ _ _ _ _ _ _ _ _ _ (q + 1) _ _ _ _ _ _ = _; rw [wn_s (by decide), f0_108]; rfl
theorem f0_110 : at1 code 110 = some (.iload 8) := at1_of at_110 rfl (by decide)
theorem s0_110 : V0 l Z b K (q + 1) 110 ls st H cN sN = (ldI ls 8 fun v => V0 l Z b K q 112 ls (.int v :: st) H cN sN) := by show Wn _ _ _ _ _ _ _ _ _ _ _ _ _ _ _ (q + 1) _ _ _ _ _ _ = _; rw [wn_s (by decide), f0_110]; rfl
theorem f0_112 : at1 code 112 = some (.invokestatic 13) := at1_of at_112 rfl (by decide)
theorem s0_112 : V0 l Z b K (q + 1) 112 ls st H cN sN = (G0 l Z b K 112 ls st H cN sN) := by show Wn _ _ _ _ _ _ _ _ _ _ _ _ _ _ _ (q + 1) _ _ _ _ _ _ = _; rw [wn_s (by decide), f0_112]; rfl
theorem f0_115 : at1 code 115 = some (.astore 13) := at1_of at_115 rfl (by decide)
theorem s0_115 : V0 l Z b K (q + 1) 115 ls st H cN sN = (popA st fun v r => sto1 ls 13 v fun l' => V0 l Z b K q 117 l' r H cN sN) := by show Wn _ _ _ _ _ _ _ _ _ _ _ _ _ _ _ (q + 1) _ _ _ _ _ _ = _; rw [wn_s (by decide), f0_115]; rfl
theorem f0_117 : at1 code 117 = some (.iload 8) := at1_of at_117 rfl (by decide)
theorem s0_117 : V0 l Z b K (q + 1) 117 ls st H cN sN = (ldI ls 8 fun v => V0 l Z b K q 119 ls (.int v :: st) H cN sN) := by show Wn _ _ _ _ _ _ _ _ _ _ _ _ _ _ _ (q + 1) _ _ _ _ _ _ = _; rw [wn_s (by decide), f0_117]; rfl
theorem f0_119 : at1 code 119 = some (.invokestatic 13) := at1_of at_119 rfl (by decide)
theorem s0_119 : V0 l Z b K (q + 1) 119 ls st H cN sN = (G0 l Z b K 119 ls st H cN sN) := by show Wn _ _ _ _ _ _ _ _ _ _ _ _ _ _ _ (q + 1) _ _ _ _ _ _ = _; rw [wn_s (by decide), f0_119]; rfl
theorem f0_122 : at1 code 122 = some (.astore 14) := at1_of at_122 rfl (by decide)
theorem s0_122 : V0 l Z b K (q + 1) 122 ls st H cN sN = (popA st fun v r => sto1 ls 14 v fun l' => V0 l Z b K q 124 l' r H cN sN) := by show Wn _ _ _ _ _ _ _ _ _ _ _ _ _ _ _ (q + 1) _ _ _ _ _ _ = _; rw [wn_s (by decide), f0_122]; rfl
theorem f0_124 : at1 code 124 = some (.iload 7) := at1_of at_124 rfl (by decide)
theorem s0_124 : V0 l Z b K (q + 1) 124 ls st H cN sN = (ldI ls 7 fun v => V0 l Z b K q 126 ls (.int v :: st) H cN sN) := by show Wn _ _ _ _ _ _ _ _ _ _ _ _ _ _ _ (q + 1) _ _ _ _ _ _ = _; rw [wn_s (by decide), f0_124]; rfl
theorem f0_126 : at1 code 126 = some (.istore 15) := at1_of at_126 rfl (by decide)
theorem s0_126 : V0 l Z b K (q + 1) 126 ls st H cN sN = (popI st fun v r => sto1 ls 15 (.int v) fun l' => V0 l Z b K q 128 l' r H cN sN) := by show Wn _ _ _ _ _ _ _ _ _ _ _ _ _ _ _ (q + 1) _ _ _ _ _ _ = _; rw [wn_s (by decide), f0_126]; rfl
theorem f0_128 : at1 code 128 = some (.iload 6) := at1_of at_128 rfl (by decide)
theorem s0_128 : V0 l Z b K (q + 1) 128 ls st H cN sN = (ldI ls 6 fun v => V0 l Z b K q 130 ls (.int v :: st) H cN sN) := by show Wn _ _ _ _ _ _ _ _ _ _ _ _ _ _ _ (q + 1) _ _ _ _ _ _ = _; rw [wn_s (by decide), f0_128]; rfl
theorem f0_130 : at1 code 130 = some (.ifCond .le 14) := at1_of at_130 rfl (by decide)
theorem s0_130 : V0 l Z b K (q + 1) 130 ls st H cN sN = (popI st fun x r => if 0 < x then V0 l Z b K q 133 ls r H cN sN else V0 l Z b K q 144 ls r H cN sN) := by show Wn _ _ _ _ _ _ _ _ _ _ _ _ _ _ _ (q + 1) _ _ _ _ _ _ = _; rw [wn_s (by decide), f0_130]; rfl
theorem f0_133 : at1 code 133 = some (.aload 14) := at1_of at_133 rfl (by decide)
theorem s0_133 : V0 l Z b K (q + 1) 133 ls st H cN sN = (ldA ls 14 fun v => V0 l Z b K q 135 ls (v :: st) H cN sN) := by show Wn _ _ _ _ _ _ _ _ _ _ _ _ _ _ _ (q + 1) _ _ _ _ _ _ = _; rw [wn_s (by decide), f0_133]; rfl
theorem f0_135 : at1 code 135 = some (.iload 15) := at1_of at_135 rfl (by decide)
theorem s0_135 : V0 l Z b K (q + 1) 135 ls st H cN sN = (ldI ls 15 fun v => V0 l Z b K q 137 ls (.int v :: st) H cN sN) := by show Wn _ _ _ _ _ _ _ _ _ _ _ _ _ _ _ (q + 1) _ _ _ _ _ _ = _; rw [wn_s (by decide), f0_135]; rfl
theorem f0_137 : at1 code 137 = some (.iload 9) := at1_of at_137 rfl (by decide)
theorem s0_137 : V0 l Z b K (q + 1) 137 ls st H cN sN = (ldI ls 9 fun v => V0 l Z b K q 139 ls (.int v :: st) H cN sN) := by show Wn _ _ _ _ _ _ _ _ _ _ _ _ _ _ _ (q + 1) _ _ _ _ _ _ = _; rw [wn_s (by decide), f0_137]; rfl
theorem f0_139 : at1 code 139 = some (.invokestatic 17) := at1_of at_139 rfl (by decide)
theorem s0_139 : V0 l Z b K (q + 1) 139 ls st H cN sN = (G0 l Z b K 139 ls st H cN sN) := by show Wn _ _ _ _ _ _ _ _ _ _ _ _ _ _ _ (q + 1) _ _ _ _ _ _ = _; rw [wn_s (by decide), f0_139]; rfl
theorem f0_142 : at1 code 142 = some (.istore 15) := at1_of at_142 rfl (by decide)
theorem s0_142 : V0 l Z b K (q + 1) 142 ls st H cN sN = (popI st fun v r => sto1 ls 15 (.int v) fun l' => V0 l Z b K q 144 l' r H cN sN) := by show Wn _ _ _ _ _ _ _ _ _ _ _ _ _ _ _ (q + 1) _ _ _ _ _ _ = _; rw [wn_s (by decide), f0_142]; rfl
theorem f0_144 : at1 code 144 = some (.iload 6) := at1_of at_144 rfl (by decide)
theorem s0_144 : V0 l Z b K (q + 1) 144 ls st H cN sN = (ldI ls 6 fun v => V0 l Z b K q 146 ls (.int v :: st) H cN sN) := by show Wn _ _ _ _ _ _ _ _ _ _ _ _ _ _ _ (q + 1) _ _ _ _ _ _ = _; rw [wn_s (by decide), f0_144]; rfl
theorem f0_146 : at1 code 146 = some (.iconst 1) := at1_of at_146 rfl (by decide)
theorem s0_146 : V0 l Z b K (q + 1) 146 ls st H cN sN = (V0 l Z b K q 147 ls (.int 1 :: st) H cN sN) := by show Wn _ _ _ _ _ _ _ _ _ _ _ _ _ _ _ (q + 1) _ _ _ _ _ _ = _; rw [wn_s (by decide), f0_146]; rfl
theorem f0_147 : at1 code 147 = some (.if_icmp .le 14) := at1_of at_147 rfl (by decide)
theorem s0_147 : V0 l Z b K (q + 1) 147 ls st H cN sN = (popI st fun y r => popI r fun x r => if y < x then V0 l Z b K q 150 ls r H cN sN else V0 l Z b K q 161 ls r H cN sN) := by show Wn _ _ _ _ _ _ _ _ _ _ _ _ _ _ _ (q + 1) _ _ _ _ _ _ = _; rw [wn_s (by decide), f0_147]; rfl
theorem f0_150 : at1 code 150 = some (.aload 14) := at1_of at_150 rfl (by decide)
theorem s0_150 : V0 l Z b K (q + 1) 150 ls st H cN sN = (ldA ls 14 fun v => V0 l Z b K q 152 ls (v :: st) H cN sN) := by show Wn _ _ _ _ _ _ _ _ _ _ _ _ _ _ _ (q + 1) _ _ _ _ _ _ = _; rw [wn_s (by decide), f0_150]; rfl
theorem f0_152 : at1 code 152 = some (.iload 15) := at1_of at_152 rfl (by decide)
theorem s0_152 : V0 l Z b K (q + 1) 152 ls st H cN sN = (ldI ls 15 fun v => V0 l Z b K q 154 ls (.int v :: st) H cN sN) := by show Wn _ _ _ _ _ _ _ _ _ _ _ _ _ _ _ (q + 1) _ _ _ _ _ _ = _; rw [wn_s (by decide), f0_152]; rfl
theorem f0_154 : at1 code 154 = some (.iload 10) := at1_of at_154 rfl (by decide)
theorem s0_154 : V0 l Z b K (q + 1) 154 ls st H cN sN = (ldI ls 10 fun v => V0 l Z b K q 156 ls (.int v :: st) H cN sN) := by show Wn _ _ _ _ _ _ _ _ _ _ _ _ _ _ _ (q + 1) _ _ _ _ _ _ = _; rw [wn_s (by decide), f0_154]; rfl
theorem f0_156 : at1 code 156 = some (.invokestatic 17) := at1_of at_156 rfl (by decide)
theorem s0_156 : V0 l Z b K (q + 1) 156 ls st H cN sN = (G0 l Z b K 156 ls st H cN sN) := by show Wn _ _ _ _ _ _ _ _ _ _ _ _ _ _ _ (q + 1) _ _ _ _ _ _ = _; rw [wn_s (by decide), f0_156]; rfl
theorem f0_159 : at1 code 159 = some (.istore 15) := at1_of at_159 rfl (by decide)
theorem s0_159 : V0 l Z b K (q + 1) 159 ls st H cN sN = (popI st fun v r => sto1 ls 15 (.int v) fun l' => V0 l Z b K q 161 l' r H cN sN) := by show Wn _ _ _ _ _ _ _ _ _ _ _ _ _ _ _ (q + 1) _ _ _ _ _ _ = _; rw [wn_s (by decide), f0_159]; rfl
theorem f0_161 : at1 code 161 = some (.iload 6) := at1_of at_161 rfl (by decide)
theorem s0_161 : V0 l Z b K (q + 1) 161 ls st H cN sN = (ldI ls 6 fun v => V0 l Z b K q 163 ls (.int v :: st) H cN sN) := by show Wn _ _ _ _ _ _ _ _ _ _ _ _ _ _ _ (q + 1) _ _ _ _ _ _ = _; rw [wn_s (by decide), f0_161]; rfl
theorem f0_163 : at1 code 163 = some (.iconst 2) := at1_of at_163 rfl (by decide)
theorem s0_163 : V0 l Z b K (q + 1) 163 ls st H cN sN = (V0 l Z b K q 164 ls (.int 2 :: st) H cN sN) := by show Wn _ _ _ _ _ _ _ _ _ _ _ _ _ _ _ (q + 1) _ _ _ _ _ _ = _; rw [wn_s (by decide), f0_163]; rfl
theorem f0_164 : at1 code 164 = some (.if_icmp .le 14) := at1_of at_164 rfl (by decide)
theorem s0_164 : V0 l Z b K (q + 1) 164 ls st H cN sN = (popI st fun y r => popI r fun x r => if y < x then V0 l Z b K q 167 ls r H cN sN else V0 l Z b K q 178 ls r H cN sN) := by show Wn _ _ _ _ _ _ _ _ _ _ _ _ _ _ _ (q + 1) _ _ _ _ _ _ = _; rw [wn_s (by decide), f0_164]; rfl
theorem f0_167 : at1 code 167 = some (.aload 14) := at1_of at_167 rfl (by decide)
theorem s0_167 : V0 l Z b K (q + 1) 167 ls st H cN sN = (ldA ls 14 fun v => V0 l Z b K q 169 ls (v :: st) H cN sN) := by show Wn _ _ _ _ _ _ _ _ _ _ _ _ _ _ _ (q + 1) _ _ _ _ _ _ = _; rw [wn_s (by decide), f0_167]; rfl
theorem f0_169 : at1 code 169 = some (.iload 15) := at1_of at_169 rfl (by decide)
theorem s0_169 : V0 l Z b K (q + 1) 169 ls st H cN sN = (ldI ls 15 fun v => V0 l Z b K q 171 ls (.int v :: st) H cN sN) := by show Wn _ _ _ _ _ _ _ _ _ _ _ _ _ _ _ (q + 1) _ _ _ _ _ _ = _; rw [wn_s (by decide), f0_169]; rfl
theorem f0_171 : at1 code 171 = some (.iload 11) := at1_of at_171 rfl (by decide)
theorem s0_171 : V0 l Z b K (q + 1) 171 ls st H cN sN = (ldI ls 11 fun v => V0 l Z b K q 173 ls (.int v :: st) H cN sN) := by show Wn _ _ _ _ _ _ _ _ _ _ _ _ _ _ _ (q + 1) _ _ _ _ _ _ = _; rw [wn_s (by decide), f0_171]; rfl
theorem f0_173 : at1 code 173 = some (.invokestatic 17) := at1_of at_173 rfl (by decide)
theorem s0_173 : V0 l Z b K (q + 1) 173 ls st H cN sN = (G0 l Z b K 173 ls st H cN sN) := by show Wn _ _ _ _ _ _ _ _ _ _ _ _ _ _ _ (q + 1) _ _ _ _ _ _ = _; rw [wn_s (by decide), f0_173]; rfl
theorem f0_176 : at1 code 176 = some (.istore 15) := at1_of at_176 rfl (by decide)
theorem s0_176 : V0 l Z b K (q + 1) 176 ls st H cN sN = (popI st fun v r => sto1 ls 15 (.int v) fun l' => V0 l Z b K q 178 l' r H cN sN) := by show Wn _ _ _ _ _ _ _ _ _ _ _ _ _ _ _ (q + 1) _ _ _ _ _ _ = _; rw [wn_s (by decide), f0_176]; rfl
theorem f0_178 : at1 code 178 = some (.aload 14) := at1_of at_178 rfl (by decide)
theorem s0_178 : V0 l Z b K (q + 1) 178 ls st H cN sN = (ldA ls 14 fun v => V0 l Z b K q 180 ls (v :: st) H cN sN) := by show Wn _ _ _ _ _ _ _ _ _ _ _ _ _ _ _ (q + 1) _ _ _ _ _ _ = _; rw [wn_s (by decide), f0_178]; rfl
theorem f0_180 : at1 code 180 = some (.iload 15) := at1_of at_180 rfl (by decide)
theorem s0_180 : V0 l Z b K (q + 1) 180 ls st H cN sN = (ldI ls 15 fun v => V0 l Z b K q 182 ls (.int v :: st) H cN sN) := by show Wn _ _ _ _ _ _ _ _ _ _ _ _ _ _ _ (q + 1) _ _ _ _ _ _ = _; rw [wn_s (by decide), f0_180]; rfl
theorem f0_182 : at1 code 182 = some (.iconst 0) := at1_of at_182 rfl (by decide)
theorem s0_182 : V0 l Z b K (q + 1) 182 ls st H cN sN = (V0 l Z b K q 183 ls (.int 0 :: st) H cN sN) := by show Wn _ _ _ _ _ _ _ _ _ _ _ _ _ _ _ (q + 1) _ _ _ _ _ _ = _; rw [wn_s (by decide), f0_182]; rfl
theorem f0_183 : at1 code 183 = some (.bastore) := at1_of at_183 rfl (by decide)
theorem s0_183 : V0 l Z b K (q + 1) 183 ls st H cN sN = (popI st fun x r => popI r fun j r => popR r fun a r => arr H b.size a fun i ty vs => if ty = .byte then idx vs j fun _ => setN vs j.toNatClampNeg (.int (nar .byte x)) fun vs' => setH H i (.inl (.byte, vs')) fun H' => V0 l Z b K q 184 ls r H' cN sN else False) := by show Wn _ _ _ _ _ _ _ _ _ _ _ _ _ _ _ (q + 1) _ _ _ _ _ _ = _; rw [wn_s (by decide), f0_183]; rfl
theorem f0_184 : at1 code 184 = some (.aload 14) := at1_of at_184 rfl (by decide)
theorem s0_184 : V0 l Z b K (q + 1) 184 ls st H cN sN = (ldA ls 14 fun v => V0 l Z b K q 186 ls (v :: st) H cN sN) := by show Wn _ _ _ _ _ _ _ _ _ _ _ _ _ _ _ (q + 1) _ _ _ _ _ _ = _; rw [wn_s (by decide), f0_184]; rfl
theorem f0_186 : at1 code 186 = some (.iload 15) := at1_of at_186 rfl (by decide)
theorem s0_186 : V0 l Z b K (q + 1) 186 ls st H cN sN = (ldI ls 15 fun v => V0 l Z b K q 188 ls (.int v :: st) H cN sN) := by show Wn _ _ _ _ _ _ _ _ _ _ _ _ _ _ _ (q + 1) _ _ _ _ _ _ = _; rw [wn_s (by decide), f0_186]; rfl
theorem f0_188 : at1 code 188 = some (.iconst 1) := at1_of at_188 rfl (by decide)
theorem s0_188 : V0 l Z b K (q + 1) 188 ls st H cN sN = (V0 l Z b K q 189 ls (.int 1 :: st) H cN sN) := by show Wn _ _ _ _ _ _ _ _ _ _ _ _ _ _ _ (q + 1) _ _ _ _ _ _ = _; rw [wn_s (by decide), f0_188]; rfl
theorem f0_189 : at1 code 189 = some (.iadd) := at1_of at_189 rfl (by decide)
theorem s0_189 : V0 l Z b K (q + 1) 189 ls st H cN sN = (popI st fun y r => popI r fun x r => V0 l Z b K q 190 ls (.int (x + y) :: r) H cN sN) := by show Wn _ _ _ _ _ _ _ _ _ _ _ _ _ _ _ (q + 1) _ _ _ _ _ _ = _; rw [wn_s (by decide), f0_189]; rfl
theorem f0_190 : at1 code 190 = some (.iconst 1) := at1_of at_190 rfl (by decide)
theorem s0_190 : V0 l Z b K (q + 1) 190 ls st H cN sN = (V0 l Z b K q 191 ls (.int 1 :: st) H cN sN) := by show Wn _ _ _ _ _ _ _ _ _ _ _ _ _ _ _ (q + 1) _ _ _ _ _ _ = _; rw [wn_s (by decide), f0_190]; rfl
theorem f0_191 : at1 code 191 = some (.bastore) := at1_of at_191 rfl (by decide)
theorem s0_191 : V0 l Z b K (q + 1) 191 ls st H cN sN = (popI st fun x r => popI r fun j r => popR r fun a r => arr H b.size a fun i ty vs => if ty = .byte then idx vs j fun _ => setN vs j.toNatClampNeg (.int (nar .byte x)) fun vs' => setH H i (.inl (.byte, vs')) fun H' => V0 l Z b K q 192 ls r H' cN sN else False) := by show Wn _ _ _ _ _ _ _ _ _ _ _ _ _ _ _ (q + 1) _ _ _ _ _ _ = _; rw [wn_s (by decide), f0_191]; rfl
theorem f0_192 : at1 code 192 = some (.iload 15) := at1_of at_192 rfl (by decide)
theorem s0_192 : V0 l Z b K (q + 1) 192 ls st H cN sN = (ldI ls 15 fun v => V0 l Z b K q 194 ls (.int v :: st) H cN sN) := by show Wn _ _ _ _ _ _ _ _ _ _ _ _ _ _ _ (q + 1) _ _ _ _ _ _ = _; rw [wn_s (by decide), f0_192]; rfl
theorem f0_194 : at1 code 194 = some (.iconst 2) := at1_of at_194 rfl (by decide)
theorem s0_194 : V0 l Z b K (q + 1) 194 ls st H cN sN = (V0 l Z b K q 195 ls (.int 2 :: st) H cN sN) := by show Wn _ _ _ _ _ _ _ _ _ _ _ _ _ _ _ (q + 1) _ _ _ _ _ _ = _; rw [wn_s (by decide), f0_194]; rfl
theorem f0_195 : at1 code 195 = some (.iadd) := at1_of at_195 rfl (by decide)
theorem s0_195 : V0 l Z b K (q + 1) 195 ls st H cN sN = (popI st fun y r => popI r fun x r => V0 l Z b K q 196 ls (.int (x + y) :: r) H cN sN) := by show Wn _ _ _ _ _ _ _ _ _ _ _ _ _ _ _ (q + 1) _ _ _ _ _ _ = _; rw [wn_s (by decide), f0_195]; rfl
theorem f0_196 : at1 code 196 = some (.istore 15) := at1_of at_196 rfl (by decide)
theorem s0_196 : V0 l Z b K (q + 1) 196 ls st H cN sN = (popI st fun v r => sto1 ls 15 (.int v) fun l' => V0 l Z b K q 198 l' r H cN sN) := by show Wn _ _ _ _ _ _ _ _ _ _ _ _ _ _ _ (q + 1) _ _ _ _ _ _ = _; rw [wn_s (by decide), f0_196]; rfl
theorem f0_198 : at1 code 198 = some (.aload 12) := at1_of at_198 rfl (by decide)
theorem s0_198 : V0 l Z b K (q + 1) 198 ls st H cN sN = (ldA ls 12 fun v => V0 l Z b K q 200 ls (v :: st) H cN sN) := by show Wn _ _ _ _ _ _ _ _ _ _ _ _ _ _ _ (q + 1) _ _ _ _ _ _ = _; rw [wn_s (by decide), f0_198]; rfl
theorem f0_200 : at1 code 200 = some (.aload 13) := at1_of at_200 rfl (by decide)
theorem s0_200 : V0 l Z b K (q + 1) 200 ls st H cN sN = (ldA ls 13 fun v => V0 l Z b K q 202 ls (v :: st) H cN sN) := by show Wn _ _ _ _ _ _ _ _ _ _ _ _ _ _ _ (q + 1) _ _ _ _ _ _ = _; rw [wn_s (by decide), f0_200]; rfl
theorem f0_202 : at1 code 202 = some (.iload 7) := at1_of at_202 rfl (by decide)
theorem s0_202 : V0 l Z b K (q + 1) 202 ls st H cN sN = (ldI ls 7 fun v => V0 l Z b K q 204 ls (.int v :: st) H cN sN) := by show Wn _ _ _ _ _ _ _ _ _ _ _ _ _ _ _ (q + 1) _ _ _ _ _ _ = _; rw [wn_s (by decide), f0_202]; rfl
theorem f0_204 : at1 code 204 = some (.invokestatic 21) := at1_of at_204 rfl (by decide)
theorem s0_204 : V0 l Z b K (q + 1) 204 ls st H cN sN = (G0 l Z b K 204 ls st H cN sN) := by show Wn _ _ _ _ _ _ _ _ _ _ _ _ _ _ _ (q + 1) _ _ _ _ _ _ = _; rw [wn_s (by decide), f0_204]; rfl
theorem f0_207 : at1 code 207 = some (.istore 16) := at1_of at_207 rfl (by decide)
theorem s0_207 : V0 l Z b K (q + 1) 207 ls st H cN sN = (popI st fun v r => sto1 ls 16 (.int v) fun l' => V0 l Z b K q 209 l' r H cN sN) := by show Wn _ _ _ _ _ _ _ _ _ _ _ _ _ _ _ (q + 1) _ _ _ _ _ _ = _; rw [wn_s (by decide), f0_207]; rfl
theorem f0_209 : at1 code 209 = some (.iload 16) := at1_of at_209 rfl (by decide)
theorem s0_209 : V0 l Z b K (q + 1) 209 ls st H cN sN = (ldI ls 16 fun v => V0 l Z b K q 211 ls (.int v :: st) H cN sN) := by show Wn _ _ _ _ _ _ _ _ _ _ _ _ _ _ _ (q + 1) _ _ _ _ _ _ = _; rw [wn_s (by decide), f0_209]; rfl
theorem f0_211 : at1 code 211 = some (.iload 15) := at1_of at_211 rfl (by decide)
theorem s0_211 : V0 l Z b K (q + 1) 211 ls st H cN sN = (ldI ls 15 fun v => V0 l Z b K q 213 ls (.int v :: st) H cN sN) := by show Wn _ _ _ _ _ _ _ _ _ _ _ _ _ _ _ (q + 1) _ _ _ _ _ _ = _; rw [wn_s (by decide), f0_211]; rfl
theorem f0_213 : at1 code 213 = some (.if_icmp .ne 17) := at1_of at_213 rfl (by decide)
theorem s0_213 : V0 l Z b K (q + 1) 213 ls st H cN sN = (popI st fun y r => popI r fun x r => if x = y then V0 l Z b K q 216 ls r H cN sN else V0 l Z b K q 230 ls r H cN sN) := by show Wn _ _ _ _ _ _ _ _ _ _ _ _ _ _ _ (q + 1) _ _ _ _ _ _ = _; rw [wn_s (by decide), f0_213]; rfl
theorem f0_216 : at1 code 216 = some (.aload 13) := at1_of at_216 rfl (by decide)
theorem s0_216 : V0 l Z b K (q + 1) 216 ls st H cN sN = (ldA ls 13 fun v => V0 l Z b K q 218 ls (v :: st) H cN sN) := by show Wn _ _ _ _ _ _ _ _ _ _ _ _ _ _ _ (q + 1) _ _ _ _ _ _ = _; rw [wn_s (by decide), f0_216]; rfl
theorem f0_218 : at1 code 218 = some (.aload 14) := at1_of at_218 rfl (by decide)
theorem s0_218 : V0 l Z b K (q + 1) 218 ls st H cN sN = (ldA ls 14 fun v => V0 l Z b K q 220 ls (v :: st) H cN sN) := by show Wn _ _ _ _ _ _ _ _ _ _ _ _ _ _ _ (q + 1) _ _ _ _ _ _ = _; rw [wn_s (by decide), f0_218]; rfl
theorem f0_220 : at1 code 220 = some (.invokestatic 27) := at1_of at_220 rfl (by decide)
theorem s0_220 : V0 l Z b K (q + 1) 220 ls st H cN sN = (G0 l Z b K 220 ls st H cN sN) := by show Wn _ _ _ _ _ _ _ _ _ _ _ _ _ _ _ (q + 1) _ _ _ _ _ _ = _; rw [wn_s (by decide), f0_220]; rfl
theorem f0_223 : at1 code 223 = some (.ifCond .eq 7) := at1_of at_223 rfl (by decide)
theorem s0_223 : V0 l Z b K (q + 1) 223 ls st H cN sN = (popI st fun x r => if x = 0 then V0 l Z b K q 230 ls r H cN sN else V0 l Z b K q 226 ls r H cN sN) := by show Wn _ _ _ _ _ _ _ _ _ _ _ _ _ _ _ (q + 1) _ _ _ _ _ _ = _; rw [wn_s (by decide), f0_223]; rfl
theorem f0_226 : at1 code 226 = some (.iconst 1) := at1_of at_226 rfl (by decide)
theorem s0_226 : V0 l Z b K (q + 1) 226 ls st H cN sN = (V0 l Z b K q 227 ls (.int 1 :: st) H cN sN) := by show Wn _ _ _ _ _ _ _ _ _ _ _ _ _ _ _ (q + 1) _ _ _ _ _ _ = _; rw [wn_s (by decide), f0_226]; rfl
theorem f0_227 : at1 code 227 = some (.goto 4) := at1_of at_227 rfl (by decide)
theorem s0_227 : V0 l Z b K (q + 1) 227 ls st H cN sN = (V0 l Z b K q 231 ls st H cN sN) := by show Wn _ _ _ _ _ _ _ _ _ _ _ _ _ _ _ (q + 1) _ _ _ _ _ _ = _; rw [wn_s (by decide), f0_227]; rfl
theorem f0_230 : at1 code 230 = some (.iconst 0) := at1_of at_230 rfl (by decide)
theorem s0_230 : V0 l Z b K (q + 1) 230 ls st H cN sN = (V0 l Z b K q 231 ls (.int 0 :: st) H cN sN) := by show Wn _ _ _ _ _ _ _ _ _ _ _ _ _ _ _ (q + 1) _ _ _ _ _ _ = _; rw [wn_s (by decide), f0_230]; rfl
theorem f0_231 : at1 code 231 = some (.ireturn) := at1_of at_231 rfl (by decide)
theorem s0_231 : V0 l Z b K (q + 1) 231 ls st H cN sN = (popI st fun x r => if cN ≤ 16 ∧ sN ≤ 128 then K (some (.int (nar .boolean x))) H else False) := by show Wn _ _ _ _ _ _ _ _ _ _ _ _ _ _ _ (q + 1) _ _ _ _ _ _ = _; rw [wn_s (by decide), f0_231]; rfl
theorem ef0 (m : MethodId) (x0 : Int32) (x1 : Int32) (x2 : Int32) (x3 : Int32) (x4 : Int32) (x5 : Int32) : entryFrame m [.int x0, .int x1, .int x2, .int x3, .int x4, .int x5].toArray maxLocals = mkF m 0 [.val (.int x0), .val (.int x1), .val (.int x2), .val (.int x3), .val (.int x4), .val (.int x5), .unset, .unset, .unset, .unset, .unset, .unset, .unset, .unset, .unset, .unset, .unset].toArray [] := by first | (simp [entryFrame, mkF, argsToLocals, Value.category, maxLocals, List.replicate]; done) | rfl
end Body0
def R1 : Room := { frames := 0, cells := 0, slots := 0, locals := 0 }
def y1 : MethodName := ⟨"com/example/rowkey/rowkey/EndedPartsWritePinLaw", "draw", "(I)B"⟩
def G1 (l : Launch) (Z : State) (b : Heap) (K : Option Value → List Cel → Prop) : Cont := G method_3_code "com/example/rowkey/rowkey/EndedPartsWritePinLaw" "draw" 1 (some .byte) R1 tables_1 l Z b 0 0 K
def V1 (l : Launch) (Z : State) (b : Heap) (K : Option Value → List Cel → Prop) : Nat → Cont := Wn [] method_3_code [] [] [] [] [] [] (some .byte) R1 b.size 0 0 K (G1 l Z b K)
section Body1
variable {l : Launch} {Z : State} {b : Heap} {K : Option Value → List Cel → Prop} {q : Nat} {ls : List Slot} {st : List Value} {H : List Cel} {cN sN : Nat}
theorem r1 (q : Nat) {pc : Nat} (h : V1 l Z b K q pc ls st H cN sN) : G1 l Z b K pc ls st H cN sN := G.run q (by intro x hx; cases hx) (by intro x hx; cases hx) (by intro x hx; cases hx) (by intro x hx; cases hx) (by intro x hx; cases hx) (by intro x hx; cases hx) h
theorem z1 {pc : Nat} : V1 l Z b K 0 pc ls st H cN sN = G1 l Z b K pc ls st H cN sN := propext Iff.rfl
theorem f1_0 : at1 method_3_code 0 = some (.iload_n 0) := by decide +kernel
theorem s1_0 : V1 l Z b K (q + 1) 0 ls st H cN sN = (ldI ls 0 fun v => V1 l Z b K q 1 ls (.int v :: st) H cN sN) := by show Wn _ _ _ _ _ _ _ _ _ _ _ _ _ _ _ (q + 1) _ _ _ _ _ _ = _; rw [wn_s (by decide), f1_0]; rfl
theorem f1_1 : at1 method_3_code 1 = some (.bipush 8) := by decide +kernel
theorem s1_1 : V1 l Z b K (q + 1) 1 ls st H cN sN = (V1 l Z b K q 3 ls (.int 8 :: st) H cN sN) := by show Wn _ _ _ _ _ _ _ _ _ _ _ _ _ _ _ (q + 1) _ _ _ _ _ _ = _; rw [wn_s (by decide), f1_1]; rfl
theorem f1_3 : at1 method_3_code 3 = some (.iushr) := by decide +kernel
theorem s1_3 : V1 l Z b K (q + 1) 3 ls st H cN sN = (popI st fun y r => popI r fun x r => V1 l Z b K q 4 ls (.int (XT.ushr x y) :: r) H cN sN) := by show Wn _ _ _ _ _ _ _ _ _ _ _ _ _ _ _ (q + 1) _ _ _ _ _ _ = _; rw [wn_s (by decide), f1_3]; rfl
theorem f1_4 : at1 method_3_code 4 = some (.iconst 1) := by decide +kernel
theorem s1_4 : V1 l Z b K (q + 1) 4 ls st H cN sN = (V1 l Z b K q 5 ls (.int 1 :: st) H cN sN) := by show Wn _ _ _ _ _ _ _ _ _ _ _ _ _ _ _ (q + 1) _ _ _ _ _ _ = _; rw [wn_s (by decide), f1_4]; rfl
theorem f1_5 : at1 method_3_code 5 = some (.iand) := by decide +kernel
theorem s1_5 : V1 l Z b K (q + 1) 5 ls st H cN sN = (popI st fun y r => popI r fun x r => V1 l Z b K q 6 ls (.int (x &&& y) :: r) H cN sN) := by show Wn _ _ _ _ _ _ _ _ _ _ _ _ _ _ _ (q + 1) _ _ _ _ _ _ = _; rw [wn_s (by decide), f1_5]; rfl
theorem f1_6 : at1 method_3_code 6 = some (.ifCond .eq 5) := by decide +kernel
theorem s1_6 : V1 l Z b K (q + 1) 6 ls st H cN sN = (popI st fun x r => if x = 0 then V1 l Z b K q 11 ls r H cN sN else V1 l Z b K q 9 ls r H cN sN) := by show Wn _ _ _ _ _ _ _ _ _ _ _ _ _ _ _ (q + 1) _ _ _ _ _ _ = _; rw [wn_s (by decide), f1_6]; rfl
theorem f1_9 : at1 method_3_code 9 = some (.iconst 0) := by decide +kernel
theorem s1_9 : V1 l Z b K (q + 1) 9 ls st H cN sN = (V1 l Z b K q 10 ls (.int 0 :: st) H cN sN) := by show Wn _ _ _ _ _ _ _ _ _ _ _ _ _ _ _ (q + 1) _ _ _ _ _ _ = _; rw [wn_s (by decide), f1_9]; rfl
theorem f1_10 : at1 method_3_code 10 = some (.ireturn) := by decide +kernel
theorem s1_10 : V1 l Z b K (q + 1) 10 ls st H cN sN = (popI st fun x r => if cN ≤ 0 ∧ sN ≤ 0 then K (some (.int (nar .byte x))) H else False) := by show Wn _ _ _ _ _ _ _ _ _ _ _ _ _ _ _ (q + 1) _ _ _ _ _ _ = _; rw [wn_s (by decide), f1_10]; rfl
theorem f1_11 : at1 method_3_code 11 = some (.iload_n 0) := by decide +kernel
theorem s1_11 : V1 l Z b K (q + 1) 11 ls st H cN sN = (ldI ls 0 fun v => V1 l Z b K q 12 ls (.int v :: st) H cN sN) := by show Wn _ _ _ _ _ _ _ _ _ _ _ _ _ _ _ (q + 1) _ _ _ _ _ _ = _; rw [wn_s (by decide), f1_11]; rfl
theorem f1_12 : at1 method_3_code 12 = some (.i2b) := by decide +kernel
theorem s1_12 : V1 l Z b K (q + 1) 12 ls st H cN sN = (popI st fun x r => V1 l Z b K q 13 ls (.int (nar .byte x) :: r) H cN sN) := by show Wn _ _ _ _ _ _ _ _ _ _ _ _ _ _ _ (q + 1) _ _ _ _ _ _ = _; rw [wn_s (by decide), f1_12]; rfl
theorem f1_13 : at1 method_3_code 13 = some (.ireturn) := by decide +kernel
theorem s1_13 : V1 l Z b K (q + 1) 13 ls st H cN sN = (popI st fun x r => if cN ≤ 0 ∧ sN ≤ 0 then K (some (.int (nar .byte x))) H else False) := by show Wn _ _ _ _ _ _ _ _ _ _ _ _ _ _ _ (q + 1) _ _ _ _ _ _ = _; rw [wn_s (by decide), f1_13]; rfl
theorem ef1 (m : MethodId) (x0 : Int32) : entryFrame m [.int x0].toArray 1 = mkF m 0 [.val (.int x0)].toArray [] := by first | (simp [entryFrame, mkF, argsToLocals, Value.category, maxLocals, List.replicate]; done) | rfl
theorem pn1 : plainFor y1 = true := by first | decide +kernel | exact plainFor_of_name (by simp [y1, plainName, overriddenIn])
theorem pd1 : parseMethodDescriptor "(I)B" = some ⟨[.int], some .byte⟩ := by decide +kernel
theorem c1 (x0 : Int32) (g : G1 l Z b K 0 [.val (.int x0)] [] H 0 0) : Con tables_1 l Z b y1 method_3_code 1 (some .byte) R1 [.int x0] H K := G.con pn1 (fun m => ef1 m x0) g
end Body1
def R2 : Room := { frames := 0, cells := 1, slots := 12, locals := 0 }
def y2 : MethodName := ⟨"com/example/rowkey/rowkey/EndedPartsWritePinLaw", "filled", "(B)[B"⟩
def G2 (l : Launch) (Z : State) (b : Heap) (K : Option Value → List Cel → Prop) : Cont := G method_5_code "com/example/rowkey/rowkey/EndedPartsWritePinLaw" "filled" 1 (some (.array .byte)) R2 tables_1 l Z b 1 12 K
def V2 (l : Launch) (Z : State) (b : Heap) (K : Option Value → List Cel → Prop) : Nat → Cont := Wn [] method_5_code [] [] [] [.byte] [] [] (some (.array .byte)) R2 b.size 1 12 K (G2 l Z b K)
section Body2
variable {l : Launch} {Z : State} {b : Heap} {K : Option Value → List Cel → Prop} {q : Nat} {ls : List Slot} {st : List Value} {H : List Cel} {cN sN : Nat}
theorem r2 (q : Nat) {pc : Nat} (h : V2 l Z b K q pc ls st H cN sN) : G2 l Z b K pc ls st H cN sN := G.run q (by intro x hx; cases hx) (by intro x hx; cases hx) (by intro x hx; cases hx) (by intro x hx; simp only [List.mem_cons, List.not_mem_nil, or_false] at hx; rcases hx with rfl <;> first | exact List.mem_of_getElem? (i := 4) rfl) (by intro x hx; cases hx) (by intro x hx; cases hx) h
theorem z2 {pc : Nat} : V2 l Z b K 0 pc ls st H cN sN = G2 l Z b K pc ls st H cN sN := propext Iff.rfl
theorem f2_0 : at1 method_5_code 0 = some (.bipush 12) := by decide +kernel
theorem s2_0 : V2 l Z b K (q + 1) 0 ls st H cN sN = (V2 l Z b K q 2 ls (.int 12 :: st) H cN sN) := by show Wn _ _ _ _ _ _ _ _ _ _ _ _ _ _ _ (q + 1) _ _ _ _ _ _ = _; rw [wn_s (by decide), f2_0]; rfl
theorem f2_2 : at1 method_5_code 2 = some (.newarray .byte) := by decide +kernel
theorem s2_2 : V2 l Z b K (q + 1) 2 ls st H cN sN = (popI st fun n r => if ¬ n < 0 ∧ .byte ∈ ([.byte] : List FieldType) ∧ n.toNatClampNeg ≤ 65536 ∧ cN + 1 ≤ R2.cells ∧ sN + n.toNatClampNeg ≤ R2.slots then onLen H fun i => repN n.toNatClampNeg (.int 0) fun vs => snoc H (.inl (.byte, vs)) fun H' => V2 l Z b K q 4 ls (.ref (ad b.size i) :: r) H' (cN + 1) (sN + n.toNatClampNeg) else False) := by show Wn _ _ _ _ _ _ _ _ _ _ _ _ _ _ _ (q + 1) _ _ _ _ _ _ = _; rw [wn_s (by decide), f2_2]; rfl
theorem f2_4 : at1 method_5_code 4 = some (.dup) := by decide +kernel
theorem s2_4 : V2 l Z b K (q + 1) 4 ls st H cN sN = (pop1 st fun x r => V2 l Z b K q 5 ls (x :: x :: r) H cN sN) := by show Wn _ _ _ _ _ _ _ _ _ _ _ _ _ _ _ (q + 1) _ _ _ _ _ _ = _; rw [wn_s (by decide), f2_4]; rfl
theorem f2_5 : at1 method_5_code 5 = some (.iconst 0) := by decide +kernel
theorem s2_5 : V2 l Z b K (q + 1) 5 ls st H cN sN = (V2 l Z b K q 6 ls (.int 0 :: st) H cN sN) := by show Wn _ _ _ _ _ _ _ _ _ _ _ _ _ _ _ (q + 1) _ _ _ _ _ _ = _; rw [wn_s (by decide), f2_5]; rfl
theorem f2_6 : at1 method_5_code 6 = some (.iload_n 0) := by decide +kernel
theorem s2_6 : V2 l Z b K (q + 1) 6 ls st H cN sN = (ldI ls 0 fun v => V2 l Z b K q 7 ls (.int v :: st) H cN sN) := by show Wn _ _ _ _ _ _ _ _ _ _ _ _ _ _ _ (q + 1) _ _ _ _ _ _ = _; rw [wn_s (by decide), f2_6]; rfl
theorem f2_7 : at1 method_5_code 7 = some (.bastore) := by decide +kernel
theorem s2_7 : V2 l Z b K (q + 1) 7 ls st H cN sN = (popI st fun x r => popI r fun j r => popR r fun a r => arr H b.size a fun i ty vs => if ty = .byte then idx vs j fun _ => setN vs j.toNatClampNeg (.int (nar .byte x)) fun vs' => setH H i (.inl (.byte, vs')) fun H' => V2 l Z b K q 8 ls r H' cN sN else False) := by show Wn _ _ _ _ _ _ _ _ _ _ _ _ _ _ _ (q + 1) _ _ _ _ _ _ = _; rw [wn_s (by decide), f2_7]; rfl
theorem f2_8 : at1 method_5_code 8 = some (.dup) := by decide +kernel
theorem s2_8 : V2 l Z b K (q + 1) 8 ls st H cN sN = (pop1 st fun x r => V2 l Z b K q 9 ls (x :: x :: r) H cN sN) := by show Wn _ _ _ _ _ _ _ _ _ _ _ _ _ _ _ (q + 1) _ _ _ _ _ _ = _; rw [wn_s (by decide), f2_8]; rfl
theorem f2_9 : at1 method_5_code 9 = some (.iconst 1) := by decide +kernel
theorem s2_9 : V2 l Z b K (q + 1) 9 ls st H cN sN = (V2 l Z b K q 10 ls (.int 1 :: st) H cN sN) := by show Wn _ _ _ _ _ _ _ _ _ _ _ _ _ _ _ (q + 1) _ _ _ _ _ _ = _; rw [wn_s (by decide), f2_9]; rfl
theorem f2_10 : at1 method_5_code 10 = some (.iload_n 0) := by decide +kernel
theorem s2_10 : V2 l Z b K (q + 1) 10 ls st H cN sN = (ldI ls 0 fun v => V2 l Z b K q 11 ls (.int v :: st) H cN sN) := by show Wn _ _ _ _ _ _ _ _ _ _ _ _ _ _ _ (q + 1) _ _ _ _ _ _ = _; rw [wn_s (by decide), f2_10]; rfl
theorem f2_11 : at1 method_5_code 11 = some (.bastore) := by decide +kernel
theorem s2_11 : V2 l Z b K (q + 1) 11 ls st H cN sN = (popI st fun x r => popI r fun j r => popR r fun a r => arr H b.size a fun i ty vs => if ty = .byte then idx vs j fun _ => setN vs j.toNatClampNeg (.int (nar .byte x)) fun vs' => setH H i (.inl (.byte, vs')) fun H' => V2 l Z b K q 12 ls r H' cN sN else False) := by show Wn _ _ _ _ _ _ _ _ _ _ _ _ _ _ _ (q + 1) _ _ _ _ _ _ = _; rw [wn_s (by decide), f2_11]; rfl
theorem f2_12 : at1 method_5_code 12 = some (.dup) := by decide +kernel
theorem s2_12 : V2 l Z b K (q + 1) 12 ls st H cN sN = (pop1 st fun x r => V2 l Z b K q 13 ls (x :: x :: r) H cN sN) := by show Wn _ _ _ _ _ _ _ _ _ _ _ _ _ _ _ (q + 1) _ _ _ _ _ _ = _; rw [wn_s (by decide), f2_12]; rfl
theorem f2_13 : at1 method_5_code 13 = some (.iconst 2) := by decide +kernel
theorem s2_13 : V2 l Z b K (q + 1) 13 ls st H cN sN = (V2 l Z b K q 14 ls (.int 2 :: st) H cN sN) := by show Wn _ _ _ _ _ _ _ _ _ _ _ _ _ _ _ (q + 1) _ _ _ _ _ _ = _; rw [wn_s (by decide), f2_13]; rfl
theorem f2_14 : at1 method_5_code 14 = some (.iload_n 0) := by decide +kernel
theorem s2_14 : V2 l Z b K (q + 1) 14 ls st H cN sN = (ldI ls 0 fun v => V2 l Z b K q 15 ls (.int v :: st) H cN sN) := by show Wn _ _ _ _ _ _ _ _ _ _ _ _ _ _ _ (q + 1) _ _ _ _ _ _ = _; rw [wn_s (by decide), f2_14]; rfl
theorem f2_15 : at1 method_5_code 15 = some (.bastore) := by decide +kernel
theorem s2_15 : V2 l Z b K (q + 1) 15 ls st H cN sN = (popI st fun x r => popI r fun j r => popR r fun a r => arr H b.size a fun i ty vs => if ty = .byte then idx vs j fun _ => setN vs j.toNatClampNeg (.int (nar .byte x)) fun vs' => setH H i (.inl (.byte, vs')) fun H' => V2 l Z b K q 16 ls r H' cN sN else False) := by show Wn _ _ _ _ _ _ _ _ _ _ _ _ _ _ _ (q + 1) _ _ _ _ _ _ = _; rw [wn_s (by decide), f2_15]; rfl
theorem f2_16 : at1 method_5_code 16 = some (.dup) := by decide +kernel
theorem s2_16 : V2 l Z b K (q + 1) 16 ls st H cN sN = (pop1 st fun x r => V2 l Z b K q 17 ls (x :: x :: r) H cN sN) := by show Wn _ _ _ _ _ _ _ _ _ _ _ _ _ _ _ (q + 1) _ _ _ _ _ _ = _; rw [wn_s (by decide), f2_16]; rfl
theorem f2_17 : at1 method_5_code 17 = some (.iconst 3) := by decide +kernel
theorem s2_17 : V2 l Z b K (q + 1) 17 ls st H cN sN = (V2 l Z b K q 18 ls (.int 3 :: st) H cN sN) := by show Wn _ _ _ _ _ _ _ _ _ _ _ _ _ _ _ (q + 1) _ _ _ _ _ _ = _; rw [wn_s (by decide), f2_17]; rfl
theorem f2_18 : at1 method_5_code 18 = some (.iload_n 0) := by decide +kernel
theorem s2_18 : V2 l Z b K (q + 1) 18 ls st H cN sN = (ldI ls 0 fun v => V2 l Z b K q 19 ls (.int v :: st) H cN sN) := by show Wn _ _ _ _ _ _ _ _ _ _ _ _ _ _ _ (q + 1) _ _ _ _ _ _ = _; rw [wn_s (by decide), f2_18]; rfl
theorem f2_19 : at1 method_5_code 19 = some (.bastore) := by decide +kernel
theorem s2_19 : V2 l Z b K (q + 1) 19 ls st H cN sN = (popI st fun x r => popI r fun j r => popR r fun a r => arr H b.size a fun i ty vs => if ty = .byte then idx vs j fun _ => setN vs j.toNatClampNeg (.int (nar .byte x)) fun vs' => setH H i (.inl (.byte, vs')) fun H' => V2 l Z b K q 20 ls r H' cN sN else False) := by show Wn _ _ _ _ _ _ _ _ _ _ _ _ _ _ _ (q + 1) _ _ _ _ _ _ = _; rw [wn_s (by decide), f2_19]; rfl
theorem f2_20 : at1 method_5_code 20 = some (.dup) := by decide +kernel
theorem s2_20 : V2 l Z b K (q + 1) 20 ls st H cN sN = (pop1 st fun x r => V2 l Z b K q 21 ls (x :: x :: r) H cN sN) := by show Wn _ _ _ _ _ _ _ _ _ _ _ _ _ _ _ (q + 1) _ _ _ _ _ _ = _; rw [wn_s (by decide), f2_20]; rfl
theorem f2_21 : at1 method_5_code 21 = some (.iconst 4) := by decide +kernel
theorem s2_21 : V2 l Z b K (q + 1) 21 ls st H cN sN = (V2 l Z b K q 22 ls (.int 4 :: st) H cN sN) := by show Wn _ _ _ _ _ _ _ _ _ _ _ _ _ _ _ (q + 1) _ _ _ _ _ _ = _; rw [wn_s (by decide), f2_21]; rfl
theorem f2_22 : at1 method_5_code 22 = some (.iload_n 0) := by decide +kernel
theorem s2_22 : V2 l Z b K (q + 1) 22 ls st H cN sN = (ldI ls 0 fun v => V2 l Z b K q 23 ls (.int v :: st) H cN sN) := by show Wn _ _ _ _ _ _ _ _ _ _ _ _ _ _ _ (q + 1) _ _ _ _ _ _ = _; rw [wn_s (by decide), f2_22]; rfl
theorem f2_23 : at1 method_5_code 23 = some (.bastore) := by decide +kernel
theorem s2_23 : V2 l Z b K (q + 1) 23 ls st H cN sN = (popI st fun x r => popI r fun j r => popR r fun a r => arr H b.size a fun i ty vs => if ty = .byte then idx vs j fun _ => setN vs j.toNatClampNeg (.int (nar .byte x)) fun vs' => setH H i (.inl (.byte, vs')) fun H' => V2 l Z b K q 24 ls r H' cN sN else False) := by show Wn _ _ _ _ _ _ _ _ _ _ _ _ _ _ _ (q + 1) _ _ _ _ _ _ = _; rw [wn_s (by decide), f2_23]; rfl
theorem f2_24 : at1 method_5_code 24 = some (.dup) := by decide +kernel
theorem s2_24 : V2 l Z b K (q + 1) 24 ls st H cN sN = (pop1 st fun x r => V2 l Z b K q 25 ls (x :: x :: r) H cN sN) := by show Wn _ _ _ _ _ _ _ _ _ _ _ _ _ _ _ (q + 1) _ _ _ _ _ _ = _; rw [wn_s (by decide), f2_24]; rfl
theorem f2_25 : at1 method_5_code 25 = some (.iconst 5) := by decide +kernel
theorem s2_25 : V2 l Z b K (q + 1) 25 ls st H cN sN = (V2 l Z b K q 26 ls (.int 5 :: st) H cN sN) := by show Wn _ _ _ _ _ _ _ _ _ _ _ _ _ _ _ (q + 1) _ _ _ _ _ _ = _; rw [wn_s (by decide), f2_25]; rfl
theorem f2_26 : at1 method_5_code 26 = some (.iload_n 0) := by decide +kernel
theorem s2_26 : V2 l Z b K (q + 1) 26 ls st H cN sN = (ldI ls 0 fun v => V2 l Z b K q 27 ls (.int v :: st) H cN sN) := by show Wn _ _ _ _ _ _ _ _ _ _ _ _ _ _ _ (q + 1) _ _ _ _ _ _ = _; rw [wn_s (by decide), f2_26]; rfl
theorem f2_27 : at1 method_5_code 27 = some (.bastore) := by decide +kernel
theorem s2_27 : V2 l Z b K (q + 1) 27 ls st H cN sN = (popI st fun x r => popI r fun j r => popR r fun a r => arr H b.size a fun i ty vs => if ty = .byte then idx vs j fun _ => setN vs j.toNatClampNeg (.int (nar .byte x)) fun vs' => setH H i (.inl (.byte, vs')) fun H' => V2 l Z b K q 28 ls r H' cN sN else False) := by show Wn _ _ _ _ _ _ _ _ _ _ _ _ _ _ _ (q + 1) _ _ _ _ _ _ = _; rw [wn_s (by decide), f2_27]; rfl
theorem f2_28 : at1 method_5_code 28 = some (.dup) := by decide +kernel
theorem s2_28 : V2 l Z b K (q + 1) 28 ls st H cN sN = (pop1 st fun x r => V2 l Z b K q 29 ls (x :: x :: r) H cN sN) := by show Wn _ _ _ _ _ _ _ _ _ _ _ _ _ _ _ (q + 1) _ _ _ _ _ _ = _; rw [wn_s (by decide), f2_28]; rfl
theorem f2_29 : at1 method_5_code 29 = some (.bipush 6) := by decide +kernel
theorem s2_29 : V2 l Z b K (q + 1) 29 ls st H cN sN = (V2 l Z b K q 31 ls (.int 6 :: st) H cN sN) := by show Wn _ _ _ _ _ _ _ _ _ _ _ _ _ _ _ (q + 1) _ _ _ _ _ _ = _; rw [wn_s (by decide), f2_29]; rfl
theorem f2_31 : at1 method_5_code 31 = some (.iload_n 0) := by decide +kernel
theorem s2_31 : V2 l Z b K (q + 1) 31 ls st H cN sN = (ldI ls 0 fun v => V2 l Z b K q 32 ls (.int v :: st) H cN sN) := by show Wn _ _ _ _ _ _ _ _ _ _ _ _ _ _ _ (q + 1) _ _ _ _ _ _ = _; rw [wn_s (by decide), f2_31]; rfl
theorem f2_32 : at1 method_5_code 32 = some (.bastore) := by decide +kernel
theorem s2_32 : V2 l Z b K (q + 1) 32 ls st H cN sN = (popI st fun x r => popI r fun j r => popR r fun a r => arr H b.size a fun i ty vs => if ty = .byte then idx vs j fun _ => setN vs j.toNatClampNeg (.int (nar .byte x)) fun vs' => setH H i (.inl (.byte, vs')) fun H' => V2 l Z b K q 33 ls r H' cN sN else False) := by show Wn _ _ _ _ _ _ _ _ _ _ _ _ _ _ _ (q + 1) _ _ _ _ _ _ = _; rw [wn_s (by decide), f2_32]; rfl
theorem f2_33 : at1 method_5_code 33 = some (.dup) := by decide +kernel
theorem s2_33 : V2 l Z b K (q + 1) 33 ls st H cN sN = (pop1 st fun x r => V2 l Z b K q 34 ls (x :: x :: r) H cN sN) := by show Wn _ _ _ _ _ _ _ _ _ _ _ _ _ _ _ (q + 1) _ _ _ _ _ _ = _; rw [wn_s (by decide), f2_33]; rfl
theorem f2_34 : at1 method_5_code 34 = some (.bipush 7) := by decide +kernel
theorem s2_34 : V2 l Z b K (q + 1) 34 ls st H cN sN = (V2 l Z b K q 36 ls (.int 7 :: st) H cN sN) := by show Wn _ _ _ _ _ _ _ _ _ _ _ _ _ _ _ (q + 1) _ _ _ _ _ _ = _; rw [wn_s (by decide), f2_34]; rfl
theorem f2_36 : at1 method_5_code 36 = some (.iload_n 0) := by decide +kernel
theorem s2_36 : V2 l Z b K (q + 1) 36 ls st H cN sN = (ldI ls 0 fun v => V2 l Z b K q 37 ls (.int v :: st) H cN sN) := by show Wn _ _ _ _ _ _ _ _ _ _ _ _ _ _ _ (q + 1) _ _ _ _ _ _ = _; rw [wn_s (by decide), f2_36]; rfl
theorem f2_37 : at1 method_5_code 37 = some (.bastore) := by decide +kernel
theorem s2_37 : V2 l Z b K (q + 1) 37 ls st H cN sN = (popI st fun x r => popI r fun j r => popR r fun a r => arr H b.size a fun i ty vs => if ty = .byte then idx vs j fun _ => setN vs j.toNatClampNeg (.int (nar .byte x)) fun vs' => setH H i (.inl (.byte, vs')) fun H' => V2 l Z b K q 38 ls r H' cN sN else False) := by show Wn _ _ _ _ _ _ _ _ _ _ _ _ _ _ _ (q + 1) _ _ _ _ _ _ = _; rw [wn_s (by decide), f2_37]; rfl
theorem f2_38 : at1 method_5_code 38 = some (.dup) := by decide +kernel
theorem s2_38 : V2 l Z b K (q + 1) 38 ls st H cN sN = (pop1 st fun x r => V2 l Z b K q 39 ls (x :: x :: r) H cN sN) := by show Wn _ _ _ _ _ _ _ _ _ _ _ _ _ _ _ (q + 1) _ _ _ _ _ _ = _; rw [wn_s (by decide), f2_38]; rfl
theorem f2_39 : at1 method_5_code 39 = some (.bipush 8) := by decide +kernel
theorem s2_39 : V2 l Z b K (q + 1) 39 ls st H cN sN = (V2 l Z b K q 41 ls (.int 8 :: st) H cN sN) := by show Wn _ _ _ _ _ _ _ _ _ _ _ _ _ _ _ (q + 1) _ _ _ _ _ _ = _; rw [wn_s (by decide), f2_39]; rfl
theorem f2_41 : at1 method_5_code 41 = some (.iload_n 0) := by decide +kernel
theorem s2_41 : V2 l Z b K (q + 1) 41 ls st H cN sN = (ldI ls 0 fun v => V2 l Z b K q 42 ls (.int v :: st) H cN sN) := by show Wn _ _ _ _ _ _ _ _ _ _ _ _ _ _ _ (q + 1) _ _ _ _ _ _ = _; rw [wn_s (by decide), f2_41]; rfl
theorem f2_42 : at1 method_5_code 42 = some (.bastore) := by decide +kernel
theorem s2_42 : V2 l Z b K (q + 1) 42 ls st H cN sN = (popI st fun x r => popI r fun j r => popR r fun a r => arr H b.size a fun i ty vs => if ty = .byte then idx vs j fun _ => setN vs j.toNatClampNeg (.int (nar .byte x)) fun vs' => setH H i (.inl (.byte, vs')) fun H' => V2 l Z b K q 43 ls r H' cN sN else False) := by show Wn _ _ _ _ _ _ _ _ _ _ _ _ _ _ _ (q + 1) _ _ _ _ _ _ = _; rw [wn_s (by decide), f2_42]; rfl
theorem f2_43 : at1 method_5_code 43 = some (.dup) := by decide +kernel
theorem s2_43 : V2 l Z b K (q + 1) 43 ls st H cN sN = (pop1 st fun x r => V2 l Z b K q 44 ls (x :: x :: r) H cN sN) := by show Wn _ _ _ _ _ _ _ _ _ _ _ _ _ _ _ (q + 1) _ _ _ _ _ _ = _; rw [wn_s (by decide), f2_43]; rfl
theorem f2_44 : at1 method_5_code 44 = some (.bipush 9) := by decide +kernel
theorem s2_44 : V2 l Z b K (q + 1) 44 ls st H cN sN = (V2 l Z b K q 46 ls (.int 9 :: st) H cN sN) := by show Wn _ _ _ _ _ _ _ _ _ _ _ _ _ _ _ (q + 1) _ _ _ _ _ _ = _; rw [wn_s (by decide), f2_44]; rfl
theorem f2_46 : at1 method_5_code 46 = some (.iload_n 0) := by decide +kernel
theorem s2_46 : V2 l Z b K (q + 1) 46 ls st H cN sN = (ldI ls 0 fun v => V2 l Z b K q 47 ls (.int v :: st) H cN sN) := by show Wn _ _ _ _ _ _ _ _ _ _ _ _ _ _ _ (q + 1) _ _ _ _ _ _ = _; rw [wn_s (by decide), f2_46]; rfl
theorem f2_47 : at1 method_5_code 47 = some (.bastore) := by decide +kernel
theorem s2_47 : V2 l Z b K (q + 1) 47 ls st H cN sN = (popI st fun x r => popI r fun j r => popR r fun a r => arr H b.size a fun i ty vs => if ty = .byte then idx vs j fun _ => setN vs j.toNatClampNeg (.int (nar .byte x)) fun vs' => setH H i (.inl (.byte, vs')) fun H' => V2 l Z b K q 48 ls r H' cN sN else False) := by show Wn _ _ _ _ _ _ _ _ _ _ _ _ _ _ _ (q + 1) _ _ _ _ _ _ = _; rw [wn_s (by decide), f2_47]; rfl
theorem f2_48 : at1 method_5_code 48 = some (.dup) := by decide +kernel
theorem s2_48 : V2 l Z b K (q + 1) 48 ls st H cN sN = (pop1 st fun x r => V2 l Z b K q 49 ls (x :: x :: r) H cN sN) := by show Wn _ _ _ _ _ _ _ _ _ _ _ _ _ _ _ (q + 1) _ _ _ _ _ _ = _; rw [wn_s (by decide), f2_48]; rfl
theorem f2_49 : at1 method_5_code 49 = some (.bipush 10) := by decide +kernel
theorem s2_49 : V2 l Z b K (q + 1) 49 ls st H cN sN = (V2 l Z b K q 51 ls (.int 10 :: st) H cN sN) := by show Wn _ _ _ _ _ _ _ _ _ _ _ _ _ _ _ (q + 1) _ _ _ _ _ _ = _; rw [wn_s (by decide), f2_49]; rfl
theorem f2_51 : at1 method_5_code 51 = some (.iload_n 0) := by decide +kernel
theorem s2_51 : V2 l Z b K (q + 1) 51 ls st H cN sN = (ldI ls 0 fun v => V2 l Z b K q 52 ls (.int v :: st) H cN sN) := by show Wn _ _ _ _ _ _ _ _ _ _ _ _ _ _ _ (q + 1) _ _ _ _ _ _ = _; rw [wn_s (by decide), f2_51]; rfl
theorem f2_52 : at1 method_5_code 52 = some (.bastore) := by decide +kernel
theorem s2_52 : V2 l Z b K (q + 1) 52 ls st H cN sN = (popI st fun x r => popI r fun j r => popR r fun a r => arr H b.size a fun i ty vs => if ty = .byte then idx vs j fun _ => setN vs j.toNatClampNeg (.int (nar .byte x)) fun vs' => setH H i (.inl (.byte, vs')) fun H' => V2 l Z b K q 53 ls r H' cN sN else False) := by show Wn _ _ _ _ _ _ _ _ _ _ _ _ _ _ _ (q + 1) _ _ _ _ _ _ = _; rw [wn_s (by decide), f2_52]; rfl
theorem f2_53 : at1 method_5_code 53 = some (.dup) := by decide +kernel
theorem s2_53 : V2 l Z b K (q + 1) 53 ls st H cN sN = (pop1 st fun x r => V2 l Z b K q 54 ls (x :: x :: r) H cN sN) := by show Wn _ _ _ _ _ _ _ _ _ _ _ _ _ _ _ (q + 1) _ _ _ _ _ _ = _; rw [wn_s (by decide), f2_53]; rfl
theorem f2_54 : at1 method_5_code 54 = some (.bipush 11) := by decide +kernel
theorem s2_54 : V2 l Z b K (q + 1) 54 ls st H cN sN = (V2 l Z b K q 56 ls (.int 11 :: st) H cN sN) := by show Wn _ _ _ _ _ _ _ _ _ _ _ _ _ _ _ (q + 1) _ _ _ _ _ _ = _; rw [wn_s (by decide), f2_54]; rfl
theorem f2_56 : at1 method_5_code 56 = some (.iload_n 0) := by decide +kernel
theorem s2_56 : V2 l Z b K (q + 1) 56 ls st H cN sN = (ldI ls 0 fun v => V2 l Z b K q 57 ls (.int v :: st) H cN sN) := by show Wn _ _ _ _ _ _ _ _ _ _ _ _ _ _ _ (q + 1) _ _ _ _ _ _ = _; rw [wn_s (by decide), f2_56]; rfl
theorem f2_57 : at1 method_5_code 57 = some (.bastore) := by decide +kernel
theorem s2_57 : V2 l Z b K (q + 1) 57 ls st H cN sN = (popI st fun x r => popI r fun j r => popR r fun a r => arr H b.size a fun i ty vs => if ty = .byte then idx vs j fun _ => setN vs j.toNatClampNeg (.int (nar .byte x)) fun vs' => setH H i (.inl (.byte, vs')) fun H' => V2 l Z b K q 58 ls r H' cN sN else False) := by show Wn _ _ _ _ _ _ _ _ _ _ _ _ _ _ _ (q + 1) _ _ _ _ _ _ = _; rw [wn_s (by decide), f2_57]; rfl
theorem f2_58 : at1 method_5_code 58 = some (.areturn) := by decide +kernel
theorem s2_58 : V2 l Z b K (q + 1) 58 ls st H cN sN = (popR st fun x r => if cN ≤ 1 ∧ sN ≤ 12 ∧ (some (.array .byte) : Option FieldType) = some (.array .byte) then K (some (.ref x)) H else False) := by show Wn _ _ _ _ _ _ _ _ _ _ _ _ _ _ _ (q + 1) _ _ _ _ _ _ = _; rw [wn_s (by decide), f2_58]; rfl
theorem ef2 (m : MethodId) (x0 : Int32) : entryFrame m [.int x0].toArray 1 = mkF m 0 [.val (.int x0)].toArray [] := by first | (simp [entryFrame, mkF, argsToLocals, Value.category, maxLocals, List.replicate]; done) | rfl
theorem pn2 : plainFor y2 = true := by first | decide +kernel | exact plainFor_of_name (by simp [y2, plainName, overriddenIn])
theorem pd2 : parseMethodDescriptor "(B)[B" = some ⟨[.byte], some (.array .byte)⟩ := by decide +kernel
theorem c2 (x0 : Int32) (g : G2 l Z b K 0 [.val (.int x0)] [] H 0 0) : Con tables_1 l Z b y2 method_5_code 1 (some (.array .byte)) R2 [.int x0] H K := G.con pn2 (fun m => ef2 m x0) g
end Body2
def R3 : Room := { frames := 0, cells := 0, slots := 0, locals := 0 }
def y3 : MethodName := ⟨"com/example/rowkey/rowkey/EndedParts", "write", "([B[BI)I"⟩
def G3 (l : Launch) (Z : State) (b : Heap) (K : Option Value → List Cel → Prop) : Cont := G prog_19_method_3_code "com/example/rowkey/rowkey/EndedParts" "write" 7 (some .int) R3 tables_1 l Z b 0 0 K
def V3 (l : Launch) (Z : State) (b : Heap) (K : Option Value → List Cel → Prop) : Nat → Cont := Wn [9] prog_19_method_3_code [] [] [] [] [] [] (some .int) R3 b.size 0 0 K (G3 l Z b K)
section Body3
variable {l : Launch} {Z : State} {b : Heap} {K : Option Value → List Cel → Prop} {q : Nat} {ls : List Slot} {st : List Value} {H : List Cel} {cN sN : Nat}
theorem r3 (q : Nat) {pc : Nat} (h : V3 l Z b K q pc ls st H cN sN) : G3 l Z b K pc ls st H cN sN := G.run q (by intro x hx; cases hx) (by intro x hx; cases hx) (by intro x hx; cases hx) (by intro x hx; cases hx) (by intro x hx; cases hx) (by intro x hx; cases hx) h
theorem z3 {pc : Nat} : V3 l Z b K 0 pc ls st H cN sN = G3 l Z b K pc ls st H cN sN := propext Iff.rfl
theorem f3_0 : at1 prog_19_method_3_code 0 = some (.aload_n 0) := by decide +kernel
theorem s3_0 : V3 l Z b K (q + 1) 0 ls st H cN sN = (ldA ls 0 fun v => V3 l Z b K q 1 ls (v :: st) H cN sN) := by show Wn _ _ _ _ _ _ _ _ _ _ _ _ _ _ _ (q + 1) _ _ _ _ _ _ = _; rw [wn_s (by decide), f3_0]; rfl
theorem f3_1 : at1 prog_19_method_3_code 1 = some (.astore_n 3) := by decide +kernel
theorem s3_1 : V3 l Z b K (q + 1) 1 ls st H cN sN = (popA st fun v r => sto1 ls 3 v fun l' => V3 l Z b K q 2 l' r H cN sN) := by show Wn _ _ _ _ _ _ _ _ _ _ _ _ _ _ _ (q + 1) _ _ _ _ _ _ = _; rw [wn_s (by decide), f3_1]; rfl
theorem f3_2 : at1 prog_19_method_3_code 2 = some (.aload_n 3) := by decide +kernel
theorem s3_2 : V3 l Z b K (q + 1) 2 ls st H cN sN = (ldA ls 3 fun v => V3 l Z b K q 3 ls (v :: st) H cN sN) := by show Wn _ _ _ _ _ _ _ _ _ _ _ _ _ _ _ (q + 1) _ _ _ _ _ _ = _; rw [wn_s (by decide), f3_2]; rfl
theorem f3_3 : at1 prog_19_method_3_code 3 = some (.arraylength) := by decide +kernel
theorem s3_3 : V3 l Z b K (q + 1) 3 ls st H cN sN = (popR st fun a r => arr H b.size a fun i ty vs => V3 l Z b K q 4 ls (.int (Int32.ofNat vs.length) :: r) H cN sN) := by show Wn _ _ _ _ _ _ _ _ _ _ _ _ _ _ _ (q + 1) _ _ _ _ _ _ = _; rw [wn_s (by decide), f3_3]; rfl
theorem f3_4 : at1 prog_19_method_3_code 4 = some (.istore 4) := by decide +kernel
theorem s3_4 : V3 l Z b K (q + 1) 4 ls st H cN sN = (popI st fun v r => sto1 ls 4 (.int v) fun l' => V3 l Z b K q 6 l' r H cN sN) := by show Wn _ _ _ _ _ _ _ _ _ _ _ _ _ _ _ (q + 1) _ _ _ _ _ _ = _; rw [wn_s (by decide), f3_4]; rfl
theorem f3_6 : at1 prog_19_method_3_code 6 = some (.iconst 0) := by decide +kernel
theorem s3_6 : V3 l Z b K (q + 1) 6 ls st H cN sN = (V3 l Z b K q 7 ls (.int 0 :: st) H cN sN) := by show Wn _ _ _ _ _ _ _ _ _ _ _ _ _ _ _ (q + 1) _ _ _ _ _ _ = _; rw [wn_s (by decide), f3_6]; rfl
theorem f3_7 : at1 prog_19_method_3_code 7 = some (.istore 5) := by decide +kernel
theorem s3_7 : V3 l Z b K (q + 1) 7 ls st H cN sN = (popI st fun v r => sto1 ls 5 (.int v) fun l' => V3 l Z b K q 9 l' r H cN sN) := by show Wn _ _ _ _ _ _ _ _ _ _ _ _ _ _ _ (q + 1) _ _ _ _ _ _ = _; rw [wn_s (by decide), f3_7]; rfl
theorem f3_9 : at1 prog_19_method_3_code 9 = some (.iload 5) := by decide +kernel
theorem s3_9 : V3 l Z b K (q + 1) 9 ls st H cN sN = G3 l Z b K 9 ls st H cN sN := wn_p (by decide)
theorem e3_9 (q : Nat) (h : ldI ls 5 fun v => V3 l Z b K q 11 ls (.int v :: st) H cN sN) : G3 l Z b K 9 ls st H cN sN := G.enter (S := [9]) (CI := []) (CL := []) (FL := []) (AL := []) (PL := []) (NL := []) q (by intro x hx; cases hx) (by intro x hx; cases hx) (by intro x hx; cases hx) (by intro x hx; cases hx) (by intro x hx; cases hx) (by intro x hx; cases hx) f3_9 h
theorem f3_11 : at1 prog_19_method_3_code 11 = some (.iload 4) := by decide +kernel
theorem s3_11 : V3 l Z b K (q + 1) 11 ls st H cN sN = (ldI ls 4 fun v => V3 l Z b K q 13 ls (.int v :: st) H cN sN) := by show Wn _ _ _ _ _ _ _ _ _ _ _ _ _ _ _ (q + 1) _ _ _ _ _ _ = _; rw [wn_s (by decide), f3_11]; rfl
theorem f3_13 : at1 prog_19_method_3_code 13 = some (.if_icmp .ge 35) := by decide +kernel
theorem s3_13 : V3 l Z b K (q + 1) 13 ls st H cN sN = (popI st fun y r => popI r fun x r => if x < y then V3 l Z b K q 16 ls r H cN sN else V3 l Z b K q 48 ls r H cN sN) := by show Wn _ _ _ _ _ _ _ _ _ _ _ _ _ _ _ (q + 1) _ _ _ _ _ _ = _; rw [wn_s (by decide), f3_13]; rfl
theorem f3_16 : at1 prog_19_method_3_code 16 = some (.aload_n 3) := by decide +kernel
theorem s3_16 : V3 l Z b K (q + 1) 16 ls st H cN sN = (ldA ls 3 fun v => V3 l Z b K q 17 ls (v :: st) H cN sN) := by show Wn _ _ _ _ _ _ _ _ _ _ _ _ _ _ _ (q + 1) _ _ _ _ _ _ = _; rw [wn_s (by decide), f3_16]; rfl
theorem f3_17 : at1 prog_19_method_3_code 17 = some (.iload 5) := by decide +kernel
theorem s3_17 : V3 l Z b K (q + 1) 17 ls st H cN sN = (ldI ls 5 fun v => V3 l Z b K q 19 ls (.int v :: st) H cN sN) := by show Wn _ _ _ _ _ _ _ _ _ _ _ _ _ _ _ (q + 1) _ _ _ _ _ _ = _; rw [wn_s (by decide), f3_17]; rfl
theorem f3_19 : at1 prog_19_method_3_code 19 = some (.baload) := by decide +kernel
theorem s3_19 : V3 l Z b K (q + 1) 19 ls st H cN sN = (popI st fun j r => popR r fun a r => arr H b.size a fun i ty vs => if ty = .byte then idx vs j fun v => V3 l Z b K q 20 ls (v :: r) H cN sN else False) := by show Wn _ _ _ _ _ _ _ _ _ _ _ _ _ _ _ (q + 1) _ _ _ _ _ _ = _; rw [wn_s (by decide), f3_19]; rfl
theorem f3_20 : at1 prog_19_method_3_code 20 = some (.istore 6) := by decide +kernel
theorem s3_20 : V3 l Z b K (q + 1) 20 ls st H cN sN = (popI st fun v r => sto1 ls 6 (.int v) fun l' => V3 l Z b K q 22 l' r H cN sN) := by show Wn _ _ _ _ _ _ _ _ _ _ _ _ _ _ _ (q + 1) _ _ _ _ _ _ = _; rw [wn_s (by decide), f3_20]; rfl
theorem f3_22 : at1 prog_19_method_3_code 22 = some (.aload_n 1) := by decide +kernel
theorem s3_22 : V3 l Z b K (q + 1) 22 ls st H cN sN = (ldA ls 1 fun v => V3 l Z b K q 23 ls (v :: st) H cN sN) := by show Wn _ _ _ _ _ _ _ _ _ _ _ _ _ _ _ (q + 1) _ _ _ _ _ _ = _; rw [wn_s (by decide), f3_22]; rfl
theorem f3_23 : at1 prog_19_method_3_code 23 = some (.iload_n 2) := by decide +kernel
theorem s3_23 : V3 l Z b K (q + 1) 23 ls st H cN sN = (ldI ls 2 fun v => V3 l Z b K q 24 ls (.int v :: st) H cN sN) := by show Wn _ _ _ _ _ _ _ _ _ _ _ _ _ _ _ (q + 1) _ _ _ _ _ _ = _; rw [wn_s (by decide), f3_23]; rfl
theorem f3_24 : at1 prog_19_method_3_code 24 = some (.iinc 2 1) := by decide +kernel
theorem s3_24 : V3 l Z b K (q + 1) 24 ls st H cN sN = (ldI ls 2 fun v => setL ls 2 (.val (.int (v + 1))) fun l' => V3 l Z b K q 27 l' st H cN sN) := by show Wn _ _ _ _ _ _ _ _ _ _ _ _ _ _ _ (q + 1) _ _ _ _ _ _ = _; rw [wn_s (by decide), f3_24]; rfl
theorem f3_27 : at1 prog_19_method_3_code 27 = some (.iload 6) := by decide +kernel
theorem s3_27 : V3 l Z b K (q + 1) 27 ls st H cN sN = (ldI ls 6 fun v => V3 l Z b K q 29 ls (.int v :: st) H cN sN) := by show Wn _ _ _ _ _ _ _ _ _ _ _ _ _ _ _ (q + 1) _ _ _ _ _ _ = _; rw [wn_s (by decide), f3_27]; rfl
theorem f3_29 : at1 prog_19_method_3_code 29 = some (.bastore) := by decide +kernel
theorem s3_29 : V3 l Z b K (q + 1) 29 ls st H cN sN = (popI st fun x r => popI r fun j r => popR r fun a r => arr H b.size a fun i ty vs => if ty = .byte then idx vs j fun _ => setN vs j.toNatClampNeg (.int (nar .byte x)) fun vs' => setH H i (.inl (.byte, vs')) fun H' => V3 l Z b K q 30 ls r H' cN sN else False) := by show Wn _ _ _ _ _ _ _ _ _ _ _ _ _ _ _ (q + 1) _ _ _ _ _ _ = _; rw [wn_s (by decide), f3_29]; rfl
theorem f3_30 : at1 prog_19_method_3_code 30 = some (.iload 6) := by decide +kernel
theorem s3_30 : V3 l Z b K (q + 1) 30 ls st H cN sN = (ldI ls 6 fun v => V3 l Z b K q 32 ls (.int v :: st) H cN sN) := by show Wn _ _ _ _ _ _ _ _ _ _ _ _ _ _ _ (q + 1) _ _ _ _ _ _ = _; rw [wn_s (by decide), f3_30]; rfl
theorem f3_32 : at1 prog_19_method_3_code 32 = some (.ifCond .ne 10) := by decide +kernel
theorem s3_32 : V3 l Z b K (q + 1) 32 ls st H cN sN = (popI st fun x r => if x = 0 then V3 l Z b K q 35 ls r H cN sN else V3 l Z b K q 42 ls r H cN sN) := by show Wn _ _ _ _ _ _ _ _ _ _ _ _ _ _ _ (q + 1) _ _ _ _ _ _ = _; rw [wn_s (by decide), f3_32]; rfl
theorem f3_35 : at1 prog_19_method_3_code 35 = some (.aload_n 1) := by decide +kernel
theorem s3_35 : V3 l Z b K (q + 1) 35 ls st H cN sN = (ldA ls 1 fun v => V3 l Z b K q 36 ls (v :: st) H cN sN) := by show Wn _ _ _ _ _ _ _ _ _ _ _ _ _ _ _ (q + 1) _ _ _ _ _ _ = _; rw [wn_s (by decide), f3_35]; rfl
theorem f3_36 : at1 prog_19_method_3_code 36 = some (.iload_n 2) := by decide +kernel
theorem s3_36 : V3 l Z b K (q + 1) 36 ls st H cN sN = (ldI ls 2 fun v => V3 l Z b K q 37 ls (.int v :: st) H cN sN) := by show Wn _ _ _ _ _ _ _ _ _ _ _ _ _ _ _ (q + 1) _ _ _ _ _ _ = _; rw [wn_s (by decide), f3_36]; rfl
theorem f3_37 : at1 prog_19_method_3_code 37 = some (.iinc 2 1) := by decide +kernel
theorem s3_37 : V3 l Z b K (q + 1) 37 ls st H cN sN = (ldI ls 2 fun v => setL ls 2 (.val (.int (v + 1))) fun l' => V3 l Z b K q 40 l' st H cN sN) := by show Wn _ _ _ _ _ _ _ _ _ _ _ _ _ _ _ (q + 1) _ _ _ _ _ _ = _; rw [wn_s (by decide), f3_37]; rfl
theorem f3_40 : at1 prog_19_method_3_code 40 = some (.iconst (-1)) := by decide +kernel
theorem s3_40 : V3 l Z b K (q + 1) 40 ls st H cN sN = (V3 l Z b K q 41 ls (.int (-1) :: st) H cN sN) := by show Wn _ _ _ _ _ _ _ _ _ _ _ _ _ _ _ (q + 1) _ _ _ _ _ _ = _; rw [wn_s (by decide), f3_40]; rfl
theorem f3_41 : at1 prog_19_method_3_code 41 = some (.bastore) := by decide +kernel
theorem s3_41 : V3 l Z b K (q + 1) 41 ls st H cN sN = (popI st fun x r => popI r fun j r => popR r fun a r => arr H b.size a fun i ty vs => if ty = .byte then idx vs j fun _ => setN vs j.toNatClampNeg (.int (nar .byte x)) fun vs' => setH H i (.inl (.byte, vs')) fun H' => V3 l Z b K q 42 ls r H' cN sN else False) := by show Wn _ _ _ _ _ _ _ _ _ _ _ _ _ _ _ (q + 1) _ _ _ _ _ _ = _; rw [wn_s (by decide), f3_41]; rfl
theorem f3_42 : at1 prog_19_method_3_code 42 = some (.iinc 5 1) := by decide +kernel
theorem s3_42 : V3 l Z b K (q + 1) 42 ls st H cN sN = (ldI ls 5 fun v => setL ls 5 (.val (.int (v + 1))) fun l' => V3 l Z b K q 45 l' st H cN sN) := by show Wn _ _ _ _ _ _ _ _ _ _ _ _ _ _ _ (q + 1) _ _ _ _ _ _ = _; rw [wn_s (by decide), f3_42]; rfl
theorem f3_45 : at1 prog_19_method_3_code 45 = some (.goto (-36)) := by decide +kernel
theorem s3_45 : V3 l Z b K (q + 1) 45 ls st H cN sN = (V3 l Z b K q 9 ls st H cN sN) := by show Wn _ _ _ _ _ _ _ _ _ _ _ _ _ _ _ (q + 1) _ _ _ _ _ _ = _; rw [wn_s (by decide), f3_45]; rfl
theorem f3_48 : at1 prog_19_method_3_code 48 = some (.aload_n 1) := by decide +kernel
theorem s3_48 : V3 l Z b K (q + 1) 48 ls st H cN sN = (ldA ls 1 fun v => V3 l Z b K q 49 ls (v :: st) H cN sN) := by show Wn _ _ _ _ _ _ _ _ _ _ _ _ _ _ _ (q + 1) _ _ _ _ _ _ = _; rw [wn_s (by decide), f3_48]; rfl
theorem f3_49 : at1 prog_19_method_3_code 49 = some (.iload_n 2) := by decide +kernel
theorem s3_49 : V3 l Z b K (q + 1) 49 ls st H cN sN = (ldI ls 2 fun v => V3 l Z b K q 50 ls (.int v :: st) H cN sN) := by show Wn _ _ _ _ _ _ _ _ _ _ _ _ _ _ _ (q + 1) _ _ _ _ _ _ = _; rw [wn_s (by decide), f3_49]; rfl
theorem f3_50 : at1 prog_19_method_3_code 50 = some (.iinc 2 1) := by decide +kernel
theorem s3_50 : V3 l Z b K (q + 1) 50 ls st H cN sN = (ldI ls 2 fun v => setL ls 2 (.val (.int (v + 1))) fun l' => V3 l Z b K q 53 l' st H cN sN) := by show Wn _ _ _ _ _ _ _ _ _ _ _ _ _ _ _ (q + 1) _ _ _ _ _ _ = _; rw [wn_s (by decide), f3_50]; rfl
theorem f3_53 : at1 prog_19_method_3_code 53 = some (.iconst 0) := by decide +kernel
theorem s3_53 : V3 l Z b K (q + 1) 53 ls st H cN sN = (V3 l Z b K q 54 ls (.int 0 :: st) H cN sN) := by show Wn _ _ _ _ _ _ _ _ _ _ _ _ _ _ _ (q + 1) _ _ _ _ _ _ = _; rw [wn_s (by decide), f3_53]; rfl
theorem f3_54 : at1 prog_19_method_3_code 54 = some (.bastore) := by decide +kernel
theorem s3_54 : V3 l Z b K (q + 1) 54 ls st H cN sN = (popI st fun x r => popI r fun j r => popR r fun a r => arr H b.size a fun i ty vs => if ty = .byte then idx vs j fun _ => setN vs j.toNatClampNeg (.int (nar .byte x)) fun vs' => setH H i (.inl (.byte, vs')) fun H' => V3 l Z b K q 55 ls r H' cN sN else False) := by show Wn _ _ _ _ _ _ _ _ _ _ _ _ _ _ _ (q + 1) _ _ _ _ _ _ = _; rw [wn_s (by decide), f3_54]; rfl
theorem f3_55 : at1 prog_19_method_3_code 55 = some (.aload_n 1) := by decide +kernel
theorem s3_55 : V3 l Z b K (q + 1) 55 ls st H cN sN = (ldA ls 1 fun v => V3 l Z b K q 56 ls (v :: st) H cN sN) := by show Wn _ _ _ _ _ _ _ _ _ _ _ _ _ _ _ (q + 1) _ _ _ _ _ _ = _; rw [wn_s (by decide), f3_55]; rfl
theorem f3_56 : at1 prog_19_method_3_code 56 = some (.iload_n 2) := by decide +kernel
theorem s3_56 : V3 l Z b K (q + 1) 56 ls st H cN sN = (ldI ls 2 fun v => V3 l Z b K q 57 ls (.int v :: st) H cN sN) := by show Wn _ _ _ _ _ _ _ _ _ _ _ _ _ _ _ (q + 1) _ _ _ _ _ _ = _; rw [wn_s (by decide), f3_56]; rfl
theorem f3_57 : at1 prog_19_method_3_code 57 = some (.iinc 2 1) := by decide +kernel
theorem s3_57 : V3 l Z b K (q + 1) 57 ls st H cN sN = (ldI ls 2 fun v => setL ls 2 (.val (.int (v + 1))) fun l' => V3 l Z b K q 60 l' st H cN sN) := by show Wn _ _ _ _ _ _ _ _ _ _ _ _ _ _ _ (q + 1) _ _ _ _ _ _ = _; rw [wn_s (by decide), f3_57]; rfl
theorem f3_60 : at1 prog_19_method_3_code 60 = some (.iconst 1) := by decide +kernel
theorem s3_60 : V3 l Z b K (q + 1) 60 ls st H cN sN = (V3 l Z b K q 61 ls (.int 1 :: st) H cN sN) := by show Wn _ _ _ _ _ _ _ _ _ _ _ _ _ _ _ (q + 1) _ _ _ _ _ _ = _; rw [wn_s (by decide), f3_60]; rfl
theorem f3_61 : at1 prog_19_method_3_code 61 = some (.bastore) := by decide +kernel
theorem s3_61 : V3 l Z b K (q + 1) 61 ls st H cN sN = (popI st fun x r => popI r fun j r => popR r fun a r => arr H b.size a fun i ty vs => if ty = .byte then idx vs j fun _ => setN vs j.toNatClampNeg (.int (nar .byte x)) fun vs' => setH H i (.inl (.byte, vs')) fun H' => V3 l Z b K q 62 ls r H' cN sN else False) := by show Wn _ _ _ _ _ _ _ _ _ _ _ _ _ _ _ (q + 1) _ _ _ _ _ _ = _; rw [wn_s (by decide), f3_61]; rfl
theorem f3_62 : at1 prog_19_method_3_code 62 = some (.iload_n 2) := by decide +kernel
theorem s3_62 : V3 l Z b K (q + 1) 62 ls st H cN sN = (ldI ls 2 fun v => V3 l Z b K q 63 ls (.int v :: st) H cN sN) := by show Wn _ _ _ _ _ _ _ _ _ _ _ _ _ _ _ (q + 1) _ _ _ _ _ _ = _; rw [wn_s (by decide), f3_62]; rfl
theorem f3_63 : at1 prog_19_method_3_code 63 = some (.ireturn) := by decide +kernel
theorem s3_63 : V3 l Z b K (q + 1) 63 ls st H cN sN = (popI st fun x r => if cN ≤ 0 ∧ sN ≤ 0 then K (some (.int x)) H else False) := by show Wn _ _ _ _ _ _ _ _ _ _ _ _ _ _ _ (q + 1) _ _ _ _ _ _ = _; rw [wn_s (by decide), f3_63]; rfl
theorem ef3 (m : MethodId) (x0 : Nat) (x1 : Nat) (x2 : Int32) : entryFrame m [.ref x0, .ref x1, .int x2].toArray 7 = mkF m 0 [.val (.ref x0), .val (.ref x1), .val (.int x2), .unset, .unset, .unset, .unset].toArray [] := by first | (simp [entryFrame, mkF, argsToLocals, Value.category, maxLocals, List.replicate]; done) | rfl
theorem pn3 : plainFor y3 = true := by first | decide +kernel | exact plainFor_of_name (by simp [y3, plainName, overriddenIn])
theorem pd3 : parseMethodDescriptor "([B[BI)I" = some ⟨[(.array .byte), (.array .byte), .int], some .int⟩ := by decide +kernel
theorem c3 (x0 : Nat) (x1 : Nat) (x2 : Int32) (g : G3 l Z b K 0 [.val (.ref x0), .val (.ref x1), .val (.int x2), .unset, .unset, .unset, .unset] [] H 0 0) : Con tables_1 l Z b y3 prog_19_method_3_code 7 (some .int) R3 [.ref x0, .ref x1, .int x2] H K := G.con pn3 (fun m => ef3 m x0 x1 x2) g
end Body3
def R4 : Room := { frames := 0, cells := 0, slots := 0, locals := 0 }
def y4 : MethodName := ⟨"com/example/rowkey/rowkey/EndedPartsWritePinLaw", "same", "([B[B)Z"⟩
def G4 (l : Launch) (Z : State) (b : Heap) (K : Option Value → List Cel → Prop) : Cont := G method_6_code "com/example/rowkey/rowkey/EndedPartsWritePinLaw" "same" 2 (some .boolean) R4 tables_1 l Z b 0 0 K
def V4 (l : Launch) (Z : State) (b : Heap) (K : Option Value → List Cel → Prop) : Nat → Cont := Wn [] method_6_code [] [] [] [] [] [] (some .boolean) R4 b.size 0 0 K (G4 l Z b K)
section Body4
variable {l : Launch} {Z : State} {b : Heap} {K : Option Value → List Cel → Prop} {q : Nat} {ls : List Slot} {st : List Value} {H : List Cel} {cN sN : Nat}
theorem r4 (q : Nat) {pc : Nat} (h : V4 l Z b K q pc ls st H cN sN) : G4 l Z b K pc ls st H cN sN := G.run q (by intro x hx; cases hx) (by intro x hx; cases hx) (by intro x hx; cases hx) (by intro x hx; cases hx) (by intro x hx; cases hx) (by intro x hx; cases hx) h
theorem z4 {pc : Nat} : V4 l Z b K 0 pc ls st H cN sN = G4 l Z b K pc ls st H cN sN := propext Iff.rfl
theorem f4_0 : at1 method_6_code 0 = some (.aload_n 0) := by decide +kernel
theorem s4_0 : V4 l Z b K (q + 1) 0 ls st H cN sN = (ldA ls 0 fun v => V4 l Z b K q 1 ls (v :: st) H cN sN) := by show Wn _ _ _ _ _ _ _ _ _ _ _ _ _ _ _ (q + 1) _ _ _ _ _ _ = _; rw [wn_s (by decide), f4_0]; rfl
theorem f4_1 : at1 method_6_code 1 = some (.iconst 0) := by decide +kernel
theorem s4_1 : V4 l Z b K (q + 1) 1 ls st H cN sN = (V4 l Z b K q 2 ls (.int 0 :: st) H cN sN) := by show Wn _ _ _ _ _ _ _ _ _ _ _ _ _ _ _ (q + 1) _ _ _ _ _ _ = _; rw [wn_s (by decide), f4_1]; rfl
theorem f4_2 : at1 method_6_code 2 = some (.baload) := by decide +kernel
theorem s4_2 : V4 l Z b K (q + 1) 2 ls st H cN sN = (popI st fun j r => popR r fun a r => arr H b.size a fun i ty vs => if ty = .byte then idx vs j fun v => V4 l Z b K q 3 ls (v :: r) H cN sN else False) := by show Wn _ _ _ _ _ _ _ _ _ _ _ _ _ _ _ (q + 1) _ _ _ _ _ _ = _; rw [wn_s (by decide), f4_2]; rfl
theorem f4_3 : at1 method_6_code 3 = some (.aload_n 1) := by decide +kernel
theorem s4_3 : V4 l Z b K (q + 1) 3 ls st H cN sN = (ldA ls 1 fun v => V4 l Z b K q 4 ls (v :: st) H cN sN) := by show Wn _ _ _ _ _ _ _ _ _ _ _ _ _ _ _ (q + 1) _ _ _ _ _ _ = _; rw [wn_s (by decide), f4_3]; rfl
theorem f4_4 : at1 method_6_code 4 = some (.iconst 0) := by decide +kernel
theorem s4_4 : V4 l Z b K (q + 1) 4 ls st H cN sN = (V4 l Z b K q 5 ls (.int 0 :: st) H cN sN) := by show Wn _ _ _ _ _ _ _ _ _ _ _ _ _ _ _ (q + 1) _ _ _ _ _ _ = _; rw [wn_s (by decide), f4_4]; rfl
theorem f4_5 : at1 method_6_code 5 = some (.baload) := by decide +kernel
theorem s4_5 : V4 l Z b K (q + 1) 5 ls st H cN sN = (popI st fun j r => popR r fun a r => arr H b.size a fun i ty vs => if ty = .byte then idx vs j fun v => V4 l Z b K q 6 ls (v :: r) H cN sN else False) := by show Wn _ _ _ _ _ _ _ _ _ _ _ _ _ _ _ (q + 1) _ _ _ _ _ _ = _; rw [wn_s (by decide), f4_5]; rfl
theorem f4_6 : at1 method_6_code 6 = some (.if_icmp .ne 118) := by decide +kernel
theorem s4_6 : V4 l Z b K (q + 1) 6 ls st H cN sN = (popI st fun y r => popI r fun x r => if x = y then V4 l Z b K q 9 ls r H cN sN else V4 l Z b K q 124 ls r H cN sN) := by show Wn _ _ _ _ _ _ _ _ _ _ _ _ _ _ _ (q + 1) _ _ _ _ _ _ = _; rw [wn_s (by decide), f4_6]; rfl
theorem f4_9 : at1 method_6_code 9 = some (.aload_n 0) := by decide +kernel
theorem s4_9 : V4 l Z b K (q + 1) 9 ls st H cN sN = (ldA ls 0 fun v => V4 l Z b K q 10 ls (v :: st) H cN sN) := by show Wn _ _ _ _ _ _ _ _ _ _ _ _ _ _ _ (q + 1) _ _ _ _ _ _ = _; rw [wn_s (by decide), f4_9]; rfl
theorem f4_10 : at1 method_6_code 10 = some (.iconst 1) := by decide +kernel
theorem s4_10 : V4 l Z b K (q + 1) 10 ls st H cN sN = (V4 l Z b K q 11 ls (.int 1 :: st) H cN sN) := by show Wn _ _ _ _ _ _ _ _ _ _ _ _ _ _ _ (q + 1) _ _ _ _ _ _ = _; rw [wn_s (by decide), f4_10]; rfl
theorem f4_11 : at1 method_6_code 11 = some (.baload) := by decide +kernel
theorem s4_11 : V4 l Z b K (q + 1) 11 ls st H cN sN = (popI st fun j r => popR r fun a r => arr H b.size a fun i ty vs => if ty = .byte then idx vs j fun v => V4 l Z b K q 12 ls (v :: r) H cN sN else False) := by show Wn _ _ _ _ _ _ _ _ _ _ _ _ _ _ _ (q + 1) _ _ _ _ _ _ = _; rw [wn_s (by decide), f4_11]; rfl
theorem f4_12 : at1 method_6_code 12 = some (.aload_n 1) := by decide +kernel
theorem s4_12 : V4 l Z b K (q + 1) 12 ls st H cN sN = (ldA ls 1 fun v => V4 l Z b K q 13 ls (v :: st) H cN sN) := by show Wn _ _ _ _ _ _ _ _ _ _ _ _ _ _ _ (q + 1) _ _ _ _ _ _ = _; rw [wn_s (by decide), f4_12]; rfl
theorem f4_13 : at1 method_6_code 13 = some (.iconst 1) := by decide +kernel
theorem s4_13 : V4 l Z b K (q + 1) 13 ls st H cN sN = (V4 l Z b K q 14 ls (.int 1 :: st) H cN sN) := by show Wn _ _ _ _ _ _ _ _ _ _ _ _ _ _ _ (q + 1) _ _ _ _ _ _ = _; rw [wn_s (by decide), f4_13]; rfl
theorem f4_14 : at1 method_6_code 14 = some (.baload) := by decide +kernel
theorem s4_14 : V4 l Z b K (q + 1) 14 ls st H cN sN = (popI st fun j r => popR r fun a r => arr H b.size a fun i ty vs => if ty = .byte then idx vs j fun v => V4 l Z b K q 15 ls (v :: r) H cN sN else False) := by show Wn _ _ _ _ _ _ _ _ _ _ _ _ _ _ _ (q + 1) _ _ _ _ _ _ = _; rw [wn_s (by decide), f4_14]; rfl
theorem f4_15 : at1 method_6_code 15 = some (.if_icmp .ne 109) := by decide +kernel
theorem s4_15 : V4 l Z b K (q + 1) 15 ls st H cN sN = (popI st fun y r => popI r fun x r => if x = y then V4 l Z b K q 18 ls r H cN sN else V4 l Z b K q 124 ls r H cN sN) := by show Wn _ _ _ _ _ _ _ _ _ _ _ _ _ _ _ (q + 1) _ _ _ _ _ _ = _; rw [wn_s (by decide), f4_15]; rfl
theorem f4_18 : at1 method_6_code 18 = some (.aload_n 0) := by decide +kernel
theorem s4_18 : V4 l Z b K (q + 1) 18 ls st H cN sN = (ldA ls 0 fun v => V4 l Z b K q 19 ls (v :: st) H cN sN) := by show Wn _ _ _ _ _ _ _ _ _ _ _ _ _ _ _ (q + 1) _ _ _ _ _ _ = _; rw [wn_s (by decide), f4_18]; rfl
theorem f4_19 : at1 method_6_code 19 = some (.iconst 2) := by decide +kernel
theorem s4_19 : V4 l Z b K (q + 1) 19 ls st H cN sN = (V4 l Z b K q 20 ls (.int 2 :: st) H cN sN) := by show Wn _ _ _ _ _ _ _ _ _ _ _ _ _ _ _ (q + 1) _ _ _ _ _ _ = _; rw [wn_s (by decide), f4_19]; rfl
theorem f4_20 : at1 method_6_code 20 = some (.baload) := by decide +kernel
theorem s4_20 : V4 l Z b K (q + 1) 20 ls st H cN sN = (popI st fun j r => popR r fun a r => arr H b.size a fun i ty vs => if ty = .byte then idx vs j fun v => V4 l Z b K q 21 ls (v :: r) H cN sN else False) := by show Wn _ _ _ _ _ _ _ _ _ _ _ _ _ _ _ (q + 1) _ _ _ _ _ _ = _; rw [wn_s (by decide), f4_20]; rfl
theorem f4_21 : at1 method_6_code 21 = some (.aload_n 1) := by decide +kernel
theorem s4_21 : V4 l Z b K (q + 1) 21 ls st H cN sN = (ldA ls 1 fun v => V4 l Z b K q 22 ls (v :: st) H cN sN) := by show Wn _ _ _ _ _ _ _ _ _ _ _ _ _ _ _ (q + 1) _ _ _ _ _ _ = _; rw [wn_s (by decide), f4_21]; rfl
theorem f4_22 : at1 method_6_code 22 = some (.iconst 2) := by decide +kernel
theorem s4_22 : V4 l Z b K (q + 1) 22 ls st H cN sN = (V4 l Z b K q 23 ls (.int 2 :: st) H cN sN) := by show Wn _ _ _ _ _ _ _ _ _ _ _ _ _ _ _ (q + 1) _ _ _ _ _ _ = _; rw [wn_s (by decide), f4_22]; rfl
theorem f4_23 : at1 method_6_code 23 = some (.baload) := by decide +kernel
theorem s4_23 : V4 l Z b K (q + 1) 23 ls st H cN sN = (popI st fun j r => popR r fun a r => arr H b.size a fun i ty vs => if ty = .byte then idx vs j fun v => V4 l Z b K q 24 ls (v :: r) H cN sN else False) := by show Wn _ _ _ _ _ _ _ _ _ _ _ _ _ _ _ (q + 1) _ _ _ _ _ _ = _; rw [wn_s (by decide), f4_23]; rfl
theorem f4_24 : at1 method_6_code 24 = some (.if_icmp .ne 100) := by decide +kernel
theorem s4_24 : V4 l Z b K (q + 1) 24 ls st H cN sN = (popI st fun y r => popI r fun x r => if x = y then V4 l Z b K q 27 ls r H cN sN else V4 l Z b K q 124 ls r H cN sN) := by show Wn _ _ _ _ _ _ _ _ _ _ _ _ _ _ _ (q + 1) _ _ _ _ _ _ = _; rw [wn_s (by decide), f4_24]; rfl
theorem f4_27 : at1 method_6_code 27 = some (.aload_n 0) := by decide +kernel
theorem s4_27 : V4 l Z b K (q + 1) 27 ls st H cN sN = (ldA ls 0 fun v => V4 l Z b K q 28 ls (v :: st) H cN sN) := by show Wn _ _ _ _ _ _ _ _ _ _ _ _ _ _ _ (q + 1) _ _ _ _ _ _ = _; rw [wn_s (by decide), f4_27]; rfl
theorem f4_28 : at1 method_6_code 28 = some (.iconst 3) := by decide +kernel
theorem s4_28 : V4 l Z b K (q + 1) 28 ls st H cN sN = (V4 l Z b K q 29 ls (.int 3 :: st) H cN sN) := by show Wn _ _ _ _ _ _ _ _ _ _ _ _ _ _ _ (q + 1) _ _ _ _ _ _ = _; rw [wn_s (by decide), f4_28]; rfl
theorem f4_29 : at1 method_6_code 29 = some (.baload) := by decide +kernel
theorem s4_29 : V4 l Z b K (q + 1) 29 ls st H cN sN = (popI st fun j r => popR r fun a r => arr H b.size a fun i ty vs => if ty = .byte then idx vs j fun v => V4 l Z b K q 30 ls (v :: r) H cN sN else False) := by show Wn _ _ _ _ _ _ _ _ _ _ _ _ _ _ _ (q + 1) _ _ _ _ _ _ = _; rw [wn_s (by decide), f4_29]; rfl
theorem f4_30 : at1 method_6_code 30 = some (.aload_n 1) := by decide +kernel
theorem s4_30 : V4 l Z b K (q + 1) 30 ls st H cN sN = (ldA ls 1 fun v => V4 l Z b K q 31 ls (v :: st) H cN sN) := by show Wn _ _ _ _ _ _ _ _ _ _ _ _ _ _ _ (q + 1) _ _ _ _ _ _ = _; rw [wn_s (by decide), f4_30]; rfl
theorem f4_31 : at1 method_6_code 31 = some (.iconst 3) := by decide +kernel
theorem s4_31 : V4 l Z b K (q + 1) 31 ls st H cN sN = (V4 l Z b K q 32 ls (.int 3 :: st) H cN sN) := by show Wn _ _ _ _ _ _ _ _ _ _ _ _ _ _ _ (q + 1) _ _ _ _ _ _ = _; rw [wn_s (by decide), f4_31]; rfl
theorem f4_32 : at1 method_6_code 32 = some (.baload) := by decide +kernel
theorem s4_32 : V4 l Z b K (q + 1) 32 ls st H cN sN = (popI st fun j r => popR r fun a r => arr H b.size a fun i ty vs => if ty = .byte then idx vs j fun v => V4 l Z b K q 33 ls (v :: r) H cN sN else False) := by show Wn _ _ _ _ _ _ _ _ _ _ _ _ _ _ _ (q + 1) _ _ _ _ _ _ = _; rw [wn_s (by decide), f4_32]; rfl
theorem f4_33 : at1 method_6_code 33 = some (.if_icmp .ne 91) := by decide +kernel
theorem s4_33 : V4 l Z b K (q + 1) 33 ls st H cN sN = (popI st fun y r => popI r fun x r => if x = y then V4 l Z b K q 36 ls r H cN sN else V4 l Z b K q 124 ls r H cN sN) := by show Wn _ _ _ _ _ _ _ _ _ _ _ _ _ _ _ (q + 1) _ _ _ _ _ _ = _; rw [wn_s (by decide), f4_33]; rfl
theorem f4_36 : at1 method_6_code 36 = some (.aload_n 0) := by decide +kernel
theorem s4_36 : V4 l Z b K (q + 1) 36 ls st H cN sN = (ldA ls 0 fun v => V4 l Z b K q 37 ls (v :: st) H cN sN) := by show Wn _ _ _ _ _ _ _ _ _ _ _ _ _ _ _ (q + 1) _ _ _ _ _ _ = _; rw [wn_s (by decide), f4_36]; rfl
theorem f4_37 : at1 method_6_code 37 = some (.iconst 4) := by decide +kernel
theorem s4_37 : V4 l Z b K (q + 1) 37 ls st H cN sN = (V4 l Z b K q 38 ls (.int 4 :: st) H cN sN) := by show Wn _ _ _ _ _ _ _ _ _ _ _ _ _ _ _ (q + 1) _ _ _ _ _ _ = _; rw [wn_s (by decide), f4_37]; rfl
theorem f4_38 : at1 method_6_code 38 = some (.baload) := by decide +kernel
theorem s4_38 : V4 l Z b K (q + 1) 38 ls st H cN sN = (popI st fun j r => popR r fun a r => arr H b.size a fun i ty vs => if ty = .byte then idx vs j fun v => V4 l Z b K q 39 ls (v :: r) H cN sN else False) := by show Wn _ _ _ _ _ _ _ _ _ _ _ _ _ _ _ (q + 1) _ _ _ _ _ _ = _; rw [wn_s (by decide), f4_38]; rfl
theorem f4_39 : at1 method_6_code 39 = some (.aload_n 1) := by decide +kernel
theorem s4_39 : V4 l Z b K (q + 1) 39 ls st H cN sN = (ldA ls 1 fun v => V4 l Z b K q 40 ls (v :: st) H cN sN) := by show Wn _ _ _ _ _ _ _ _ _ _ _ _ _ _ _ (q + 1) _ _ _ _ _ _ = _; rw [wn_s (by decide), f4_39]; rfl
theorem f4_40 : at1 method_6_code 40 = some (.iconst 4) := by decide +kernel
theorem s4_40 : V4 l Z b K (q + 1) 40 ls st H cN sN = (V4 l Z b K q 41 ls (.int 4 :: st) H cN sN) := by show Wn _ _ _ _ _ _ _ _ _ _ _ _ _ _ _ (q + 1) _ _ _ _ _ _ = _; rw [wn_s (by decide), f4_40]; rfl
theorem f4_41 : at1 method_6_code 41 = some (.baload) := by decide +kernel
theorem s4_41 : V4 l Z b K (q + 1) 41 ls st H cN sN = (popI st fun j r => popR r fun a r => arr H b.size a fun i ty vs => if ty = .byte then idx vs j fun v => V4 l Z b K q 42 ls (v :: r) H cN sN else False) := by show Wn _ _ _ _ _ _ _ _ _ _ _ _ _ _ _ (q + 1) _ _ _ _ _ _ = _; rw [wn_s (by decide), f4_41]; rfl
theorem f4_42 : at1 method_6_code 42 = some (.if_icmp .ne 82) := by decide +kernel
theorem s4_42 : V4 l Z b K (q + 1) 42 ls st H cN sN = (popI st fun y r => popI r fun x r => if x = y then V4 l Z b K q 45 ls r H cN sN else V4 l Z b K q 124 ls r H cN sN) := by show Wn _ _ _ _ _ _ _ _ _ _ _ _ _ _ _ (q + 1) _ _ _ _ _ _ = _; rw [wn_s (by decide), f4_42]; rfl
theorem f4_45 : at1 method_6_code 45 = some (.aload_n 0) := by decide +kernel
theorem s4_45 : V4 l Z b K (q + 1) 45 ls st H cN sN = (ldA ls 0 fun v => V4 l Z b K q 46 ls (v :: st) H cN sN) := by show Wn _ _ _ _ _ _ _ _ _ _ _ _ _ _ _ (q + 1) _ _ _ _ _ _ = _; rw [wn_s (by decide), f4_45]; rfl
theorem f4_46 : at1 method_6_code 46 = some (.iconst 5) := by decide +kernel
theorem s4_46 : V4 l Z b K (q + 1) 46 ls st H cN sN = (V4 l Z b K q 47 ls (.int 5 :: st) H cN sN) := by show Wn _ _ _ _ _ _ _ _ _ _ _ _ _ _ _ (q + 1) _ _ _ _ _ _ = _; rw [wn_s (by decide), f4_46]; rfl
theorem f4_47 : at1 method_6_code 47 = some (.baload) := by decide +kernel
theorem s4_47 : V4 l Z b K (q + 1) 47 ls st H cN sN = (popI st fun j r => popR r fun a r => arr H b.size a fun i ty vs => if ty = .byte then idx vs j fun v => V4 l Z b K q 48 ls (v :: r) H cN sN else False) := by show Wn _ _ _ _ _ _ _ _ _ _ _ _ _ _ _ (q + 1) _ _ _ _ _ _ = _; rw [wn_s (by decide), f4_47]; rfl
theorem f4_48 : at1 method_6_code 48 = some (.aload_n 1) := by decide +kernel
theorem s4_48 : V4 l Z b K (q + 1) 48 ls st H cN sN = (ldA ls 1 fun v => V4 l Z b K q 49 ls (v :: st) H cN sN) := by show Wn _ _ _ _ _ _ _ _ _ _ _ _ _ _ _ (q + 1) _ _ _ _ _ _ = _; rw [wn_s (by decide), f4_48]; rfl
theorem f4_49 : at1 method_6_code 49 = some (.iconst 5) := by decide +kernel
theorem s4_49 : V4 l Z b K (q + 1) 49 ls st H cN sN = (V4 l Z b K q 50 ls (.int 5 :: st) H cN sN) := by show Wn _ _ _ _ _ _ _ _ _ _ _ _ _ _ _ (q + 1) _ _ _ _ _ _ = _; rw [wn_s (by decide), f4_49]; rfl
theorem f4_50 : at1 method_6_code 50 = some (.baload) := by decide +kernel
theorem s4_50 : V4 l Z b K (q + 1) 50 ls st H cN sN = (popI st fun j r => popR r fun a r => arr H b.size a fun i ty vs => if ty = .byte then idx vs j fun v => V4 l Z b K q 51 ls (v :: r) H cN sN else False) := by show Wn _ _ _ _ _ _ _ _ _ _ _ _ _ _ _ (q + 1) _ _ _ _ _ _ = _; rw [wn_s (by decide), f4_50]; rfl
theorem f4_51 : at1 method_6_code 51 = some (.if_icmp .ne 73) := by decide +kernel
theorem s4_51 : V4 l Z b K (q + 1) 51 ls st H cN sN = (popI st fun y r => popI r fun x r => if x = y then V4 l Z b K q 54 ls r H cN sN else V4 l Z b K q 124 ls r H cN sN) := by show Wn _ _ _ _ _ _ _ _ _ _ _ _ _ _ _ (q + 1) _ _ _ _ _ _ = _; rw [wn_s (by decide), f4_51]; rfl
theorem f4_54 : at1 method_6_code 54 = some (.aload_n 0) := by decide +kernel
theorem s4_54 : V4 l Z b K (q + 1) 54 ls st H cN sN = (ldA ls 0 fun v => V4 l Z b K q 55 ls (v :: st) H cN sN) := by show Wn _ _ _ _ _ _ _ _ _ _ _ _ _ _ _ (q + 1) _ _ _ _ _ _ = _; rw [wn_s (by decide), f4_54]; rfl
theorem f4_55 : at1 method_6_code 55 = some (.bipush 6) := by decide +kernel
theorem s4_55 : V4 l Z b K (q + 1) 55 ls st H cN sN = (V4 l Z b K q 57 ls (.int 6 :: st) H cN sN) := by show Wn _ _ _ _ _ _ _ _ _ _ _ _ _ _ _ (q + 1) _ _ _ _ _ _ = _; rw [wn_s (by decide), f4_55]; rfl
theorem f4_57 : at1 method_6_code 57 = some (.baload) := by decide +kernel
theorem s4_57 : V4 l Z b K (q + 1) 57 ls st H cN sN = (popI st fun j r => popR r fun a r => arr H b.size a fun i ty vs => if ty = .byte then idx vs j fun v => V4 l Z b K q 58 ls (v :: r) H cN sN else False) := by show Wn _ _ _ _ _ _ _ _ _ _ _ _ _ _ _ (q + 1) _ _ _ _ _ _ = _; rw [wn_s (by decide), f4_57]; rfl
theorem f4_58 : at1 method_6_code 58 = some (.aload_n 1) := by decide +kernel
theorem s4_58 : V4 l Z b K (q + 1) 58 ls st H cN sN = (ldA ls 1 fun v => V4 l Z b K q 59 ls (v :: st) H cN sN) := by show Wn _ _ _ _ _ _ _ _ _ _ _ _ _ _ _ (q + 1) _ _ _ _ _ _ = _; rw [wn_s (by decide), f4_58]; rfl
theorem f4_59 : at1 method_6_code 59 = some (.bipush 6) := by decide +kernel
theorem s4_59 : V4 l Z b K (q + 1) 59 ls st H cN sN = (V4 l Z b K q 61 ls (.int 6 :: st) H cN sN) := by show Wn _ _ _ _ _ _ _ _ _ _ _ _ _ _ _ (q + 1) _ _ _ _ _ _ = _; rw [wn_s (by decide), f4_59]; rfl
theorem f4_61 : at1 method_6_code 61 = some (.baload) := by decide +kernel
theorem s4_61 : V4 l Z b K (q + 1) 61 ls st H cN sN = (popI st fun j r => popR r fun a r => arr H b.size a fun i ty vs => if ty = .byte then idx vs j fun v => V4 l Z b K q 62 ls (v :: r) H cN sN else False) := by show Wn _ _ _ _ _ _ _ _ _ _ _ _ _ _ _ (q + 1) _ _ _ _ _ _ = _; rw [wn_s (by decide), f4_61]; rfl
theorem f4_62 : at1 method_6_code 62 = some (.if_icmp .ne 62) := by decide +kernel
theorem s4_62 : V4 l Z b K (q + 1) 62 ls st H cN sN = (popI st fun y r => popI r fun x r => if x = y then V4 l Z b K q 65 ls r H cN sN else V4 l Z b K q 124 ls r H cN sN) := by show Wn _ _ _ _ _ _ _ _ _ _ _ _ _ _ _ (q + 1) _ _ _ _ _ _ = _; rw [wn_s (by decide), f4_62]; rfl
theorem f4_65 : at1 method_6_code 65 = some (.aload_n 0) := by decide +kernel
theorem s4_65 : V4 l Z b K (q + 1) 65 ls st H cN sN = (ldA ls 0 fun v => V4 l Z b K q 66 ls (v :: st) H cN sN) := by show Wn _ _ _ _ _ _ _ _ _ _ _ _ _ _ _ (q + 1) _ _ _ _ _ _ = _; rw [wn_s (by decide), f4_65]; rfl
theorem f4_66 : at1 method_6_code 66 = some (.bipush 7) := by decide +kernel
theorem s4_66 : V4 l Z b K (q + 1) 66 ls st H cN sN = (V4 l Z b K q 68 ls (.int 7 :: st) H cN sN) := by show Wn _ _ _ _ _ _ _ _ _ _ _ _ _ _ _ (q + 1) _ _ _ _ _ _ = _; rw [wn_s (by decide), f4_66]; rfl
theorem f4_68 : at1 method_6_code 68 = some (.baload) := by decide +kernel
theorem s4_68 : V4 l Z b K (q + 1) 68 ls st H cN sN = (popI st fun j r => popR r fun a r => arr H b.size a fun i ty vs => if ty = .byte then idx vs j fun v => V4 l Z b K q 69 ls (v :: r) H cN sN else False) := by show Wn _ _ _ _ _ _ _ _ _ _ _ _ _ _ _ (q + 1) _ _ _ _ _ _ = _; rw [wn_s (by decide), f4_68]; rfl
theorem f4_69 : at1 method_6_code 69 = some (.aload_n 1) := by decide +kernel
theorem s4_69 : V4 l Z b K (q + 1) 69 ls st H cN sN = (ldA ls 1 fun v => V4 l Z b K q 70 ls (v :: st) H cN sN) := by show Wn _ _ _ _ _ _ _ _ _ _ _ _ _ _ _ (q + 1) _ _ _ _ _ _ = _; rw [wn_s (by decide), f4_69]; rfl
theorem f4_70 : at1 method_6_code 70 = some (.bipush 7) := by decide +kernel
theorem s4_70 : V4 l Z b K (q + 1) 70 ls st H cN sN = (V4 l Z b K q 72 ls (.int 7 :: st) H cN sN) := by show Wn _ _ _ _ _ _ _ _ _ _ _ _ _ _ _ (q + 1) _ _ _ _ _ _ = _; rw [wn_s (by decide), f4_70]; rfl
theorem f4_72 : at1 method_6_code 72 = some (.baload) := by decide +kernel
theorem s4_72 : V4 l Z b K (q + 1) 72 ls st H cN sN = (popI st fun j r => popR r fun a r => arr H b.size a fun i ty vs => if ty = .byte then idx vs j fun v => V4 l Z b K q 73 ls (v :: r) H cN sN else False) := by show Wn _ _ _ _ _ _ _ _ _ _ _ _ _ _ _ (q + 1) _ _ _ _ _ _ = _; rw [wn_s (by decide), f4_72]; rfl
theorem f4_73 : at1 method_6_code 73 = some (.if_icmp .ne 51) := by decide +kernel
theorem s4_73 : V4 l Z b K (q + 1) 73 ls st H cN sN = (popI st fun y r => popI r fun x r => if x = y then V4 l Z b K q 76 ls r H cN sN else V4 l Z b K q 124 ls r H cN sN) := by show Wn _ _ _ _ _ _ _ _ _ _ _ _ _ _ _ (q + 1) _ _ _ _ _ _ = _; rw [wn_s (by decide), f4_73]; rfl
theorem f4_76 : at1 method_6_code 76 = some (.aload_n 0) := by decide +kernel
theorem s4_76 : V4 l Z b K (q + 1) 76 ls st H cN sN = (ldA ls 0 fun v => V4 l Z b K q 77 ls (v :: st) H cN sN) := by show Wn _ _ _ _ _ _ _ _ _ _ _ _ _ _ _ (q + 1) _ _ _ _ _ _ = _; rw [wn_s (by decide), f4_76]; rfl
theorem f4_77 : at1 method_6_code 77 = some (.bipush 8) := by decide +kernel
theorem s4_77 : V4 l Z b K (q + 1) 77 ls st H cN sN = (V4 l Z b K q 79 ls (.int 8 :: st) H cN sN) := by show Wn _ _ _ _ _ _ _ _ _ _ _ _ _ _ _ (q + 1) _ _ _ _ _ _ = _; rw [wn_s (by decide), f4_77]; rfl
theorem f4_79 : at1 method_6_code 79 = some (.baload) := by decide +kernel
theorem s4_79 : V4 l Z b K (q + 1) 79 ls st H cN sN = (popI st fun j r => popR r fun a r => arr H b.size a fun i ty vs => if ty = .byte then idx vs j fun v => V4 l Z b K q 80 ls (v :: r) H cN sN else False) := by show Wn _ _ _ _ _ _ _ _ _ _ _ _ _ _ _ (q + 1) _ _ _ _ _ _ = _; rw [wn_s (by decide), f4_79]; rfl
theorem f4_80 : at1 method_6_code 80 = some (.aload_n 1) := by decide +kernel
theorem s4_80 : V4 l Z b K (q + 1) 80 ls st H cN sN = (ldA ls 1 fun v => V4 l Z b K q 81 ls (v :: st) H cN sN) := by show Wn _ _ _ _ _ _ _ _ _ _ _ _ _ _ _ (q + 1) _ _ _ _ _ _ = _; rw [wn_s (by decide), f4_80]; rfl
theorem f4_81 : at1 method_6_code 81 = some (.bipush 8) := by decide +kernel
theorem s4_81 : V4 l Z b K (q + 1) 81 ls st H cN sN = (V4 l Z b K q 83 ls (.int 8 :: st) H cN sN) := by show Wn _ _ _ _ _ _ _ _ _ _ _ _ _ _ _ (q + 1) _ _ _ _ _ _ = _; rw [wn_s (by decide), f4_81]; rfl
theorem f4_83 : at1 method_6_code 83 = some (.baload) := by decide +kernel
theorem s4_83 : V4 l Z b K (q + 1) 83 ls st H cN sN = (popI st fun j r => popR r fun a r => arr H b.size a fun i ty vs => if ty = .byte then idx vs j fun v => V4 l Z b K q 84 ls (v :: r) H cN sN else False) := by show Wn _ _ _ _ _ _ _ _ _ _ _ _ _ _ _ (q + 1) _ _ _ _ _ _ = _; rw [wn_s (by decide), f4_83]; rfl
theorem f4_84 : at1 method_6_code 84 = some (.if_icmp .ne 40) := by decide +kernel
theorem s4_84 : V4 l Z b K (q + 1) 84 ls st H cN sN = (popI st fun y r => popI r fun x r => if x = y then V4 l Z b K q 87 ls r H cN sN else V4 l Z b K q 124 ls r H cN sN) := by show Wn _ _ _ _ _ _ _ _ _ _ _ _ _ _ _ (q + 1) _ _ _ _ _ _ = _; rw [wn_s (by decide), f4_84]; rfl
theorem f4_87 : at1 method_6_code 87 = some (.aload_n 0) := by decide +kernel
theorem s4_87 : V4 l Z b K (q + 1) 87 ls st H cN sN = (ldA ls 0 fun v => V4 l Z b K q 88 ls (v :: st) H cN sN) := by show Wn _ _ _ _ _ _ _ _ _ _ _ _ _ _ _ (q + 1) _ _ _ _ _ _ = _; rw [wn_s (by decide), f4_87]; rfl
theorem f4_88 : at1 method_6_code 88 = some (.bipush 9) := by decide +kernel
theorem s4_88 : V4 l Z b K (q + 1) 88 ls st H cN sN = (V4 l Z b K q 90 ls (.int 9 :: st) H cN sN) := by show Wn _ _ _ _ _ _ _ _ _ _ _ _ _ _ _ (q + 1) _ _ _ _ _ _ = _; rw [wn_s (by decide), f4_88]; rfl
theorem f4_90 : at1 method_6_code 90 = some (.baload) := by decide +kernel
theorem s4_90 : V4 l Z b K (q + 1) 90 ls st H cN sN = (popI st fun j r => popR r fun a r => arr H b.size a fun i ty vs => if ty = .byte then idx vs j fun v => V4 l Z b K q 91 ls (v :: r) H cN sN else False) := by show Wn _ _ _ _ _ _ _ _ _ _ _ _ _ _ _ (q + 1) _ _ _ _ _ _ = _; rw [wn_s (by decide), f4_90]; rfl
theorem f4_91 : at1 method_6_code 91 = some (.aload_n 1) := by decide +kernel
theorem s4_91 : V4 l Z b K (q + 1) 91 ls st H cN sN = (ldA ls 1 fun v => V4 l Z b K q 92 ls (v :: st) H cN sN) := by show Wn _ _ _ _ _ _ _ _ _ _ _ _ _ _ _ (q + 1) _ _ _ _ _ _ = _; rw [wn_s (by decide), f4_91]; rfl
theorem f4_92 : at1 method_6_code 92 = some (.bipush 9) := by decide +kernel
theorem s4_92 : V4 l Z b K (q + 1) 92 ls st H cN sN = (V4 l Z b K q 94 ls (.int 9 :: st) H cN sN) := by show Wn _ _ _ _ _ _ _ _ _ _ _ _ _ _ _ (q + 1) _ _ _ _ _ _ = _; rw [wn_s (by decide), f4_92]; rfl
theorem f4_94 : at1 method_6_code 94 = some (.baload) := by decide +kernel
theorem s4_94 : V4 l Z b K (q + 1) 94 ls st H cN sN = (popI st fun j r => popR r fun a r => arr H b.size a fun i ty vs => if ty = .byte then idx vs j fun v => V4 l Z b K q 95 ls (v :: r) H cN sN else False) := by show Wn _ _ _ _ _ _ _ _ _ _ _ _ _ _ _ (q + 1) _ _ _ _ _ _ = _; rw [wn_s (by decide), f4_94]; rfl
theorem f4_95 : at1 method_6_code 95 = some (.if_icmp .ne 29) := by decide +kernel
theorem s4_95 : V4 l Z b K (q + 1) 95 ls st H cN sN = (popI st fun y r => popI r fun x r => if x = y then V4 l Z b K q 98 ls r H cN sN else V4 l Z b K q 124 ls r H cN sN) := by show Wn _ _ _ _ _ _ _ _ _ _ _ _ _ _ _ (q + 1) _ _ _ _ _ _ = _; rw [wn_s (by decide), f4_95]; rfl
theorem f4_98 : at1 method_6_code 98 = some (.aload_n 0) := by decide +kernel
theorem s4_98 : V4 l Z b K (q + 1) 98 ls st H cN sN = (ldA ls 0 fun v => V4 l Z b K q 99 ls (v :: st) H cN sN) := by show Wn _ _ _ _ _ _ _ _ _ _ _ _ _ _ _ (q + 1) _ _ _ _ _ _ = _; rw [wn_s (by decide), f4_98]; rfl
theorem f4_99 : at1 method_6_code 99 = some (.bipush 10) := by decide +kernel
theorem s4_99 : V4 l Z b K (q + 1) 99 ls st H cN sN = (V4 l Z b K q 101 ls (.int 10 :: st) H cN sN) := by show Wn _ _ _ _ _ _ _ _ _ _ _ _ _ _ _ (q + 1) _ _ _ _ _ _ = _; rw [wn_s (by decide), f4_99]; rfl
theorem f4_101 : at1 method_6_code 101 = some (.baload) := by decide +kernel
theorem s4_101 : V4 l Z b K (q + 1) 101 ls st H cN sN = (popI st fun j r => popR r fun a r => arr H b.size a fun i ty vs => if ty = .byte then idx vs j fun v => V4 l Z b K q 102 ls (v :: r) H cN sN else False) := by show Wn _ _ _ _ _ _ _ _ _ _ _ _ _ _ _ (q + 1) _ _ _ _ _ _ = _; rw [wn_s (by decide), f4_101]; rfl
theorem f4_102 : at1 method_6_code 102 = some (.aload_n 1) := by decide +kernel
theorem s4_102 : V4 l Z b K (q + 1) 102 ls st H cN sN = (ldA ls 1 fun v => V4 l Z b K q 103 ls (v :: st) H cN sN) := by show Wn _ _ _ _ _ _ _ _ _ _ _ _ _ _ _ (q + 1) _ _ _ _ _ _ = _; rw [wn_s (by decide), f4_102]; rfl
theorem f4_103 : at1 method_6_code 103 = some (.bipush 10) := by decide +kernel
theorem s4_103 : V4 l Z b K (q + 1) 103 ls st H cN sN = (V4 l Z b K q 105 ls (.int 10 :: st) H cN sN) := by show Wn _ _ _ _ _ _ _ _ _ _ _ _ _ _ _ (q + 1) _ _ _ _ _ _ = _; rw [wn_s (by decide), f4_103]; rfl
theorem f4_105 : at1 method_6_code 105 = some (.baload) := by decide +kernel
theorem s4_105 : V4 l Z b K (q + 1) 105 ls st H cN sN = (popI st fun j r => popR r fun a r => arr H b.size a fun i ty vs => if ty = .byte then idx vs j fun v => V4 l Z b K q 106 ls (v :: r) H cN sN else False) := by show Wn _ _ _ _ _ _ _ _ _ _ _ _ _ _ _ (q + 1) _ _ _ _ _ _ = _; rw [wn_s (by decide), f4_105]; rfl
theorem f4_106 : at1 method_6_code 106 = some (.if_icmp .ne 18) := by decide +kernel
theorem s4_106 : V4 l Z b K (q + 1) 106 ls st H cN sN = (popI st fun y r => popI r fun x r => if x = y then V4 l Z b K q 109 ls r H cN sN else V4 l Z b K q 124 ls r H cN sN) := by show Wn _ _ _ _ _ _ _ _ _ _ _ _ _ _ _ (q + 1) _ _ _ _ _ _ = _; rw [wn_s (by decide), f4_106]; rfl
theorem f4_109 : at1 method_6_code 109 = some (.aload_n 0) := by decide +kernel
theorem s4_109 : V4 l Z b K (q + 1) 109 ls st H cN sN = (ldA ls 0 fun v => V4 l Z b K q 110 ls (v :: st) H cN sN) := by show Wn _ _ _ _ _ _ _ _ _ _ _ _ _ _ _ (q + 1) _ _ _ _ _ _ = _; rw [wn_s (by decide), f4_109]; rfl
theorem f4_110 : at1 method_6_code 110 = some (.bipush 11) := by decide +kernel
theorem s4_110 : V4 l Z b K (q + 1) 110 ls st H cN sN = (V4 l Z b K q 112 ls (.int 11 :: st) H cN sN) := by show Wn _ _ _ _ _ _ _ _ _ _ _ _ _ _ _ (q + 1) _ _ _ _ _ _ = _; rw [wn_s (by decide), f4_110]; rfl
theorem f4_112 : at1 method_6_code 112 = some (.baload) := by decide +kernel
theorem s4_112 : V4 l Z b K (q + 1) 112 ls st H cN sN = (popI st fun j r => popR r fun a r => arr H b.size a fun i ty vs => if ty = .byte then idx vs j fun v => V4 l Z b K q 113 ls (v :: r) H cN sN else False) := by show Wn _ _ _ _ _ _ _ _ _ _ _ _ _ _ _ (q + 1) _ _ _ _ _ _ = _; rw [wn_s (by decide), f4_112]; rfl
theorem f4_113 : at1 method_6_code 113 = some (.aload_n 1) := by decide +kernel
theorem s4_113 : V4 l Z b K (q + 1) 113 ls st H cN sN = (ldA ls 1 fun v => V4 l Z b K q 114 ls (v :: st) H cN sN) := by show Wn _ _ _ _ _ _ _ _ _ _ _ _ _ _ _ (q + 1) _ _ _ _ _ _ = _; rw [wn_s (by decide), f4_113]; rfl
theorem f4_114 : at1 method_6_code 114 = some (.bipush 11) := by decide +kernel
theorem s4_114 : V4 l Z b K (q + 1) 114 ls st H cN sN = (V4 l Z b K q 116 ls (.int 11 :: st) H cN sN) := by show Wn _ _ _ _ _ _ _ _ _ _ _ _ _ _ _ (q + 1) _ _ _ _ _ _ = _; rw [wn_s (by decide), f4_114]; rfl
theorem f4_116 : at1 method_6_code 116 = some (.baload) := by decide +kernel
theorem s4_116 : V4 l Z b K (q + 1) 116 ls st H cN sN = (popI st fun j r => popR r fun a r => arr H b.size a fun i ty vs => if ty = .byte then idx vs j fun v => V4 l Z b K q 117 ls (v :: r) H cN sN else False) := by show Wn _ _ _ _ _ _ _ _ _ _ _ _ _ _ _ (q + 1) _ _ _ _ _ _ = _; rw [wn_s (by decide), f4_116]; rfl
theorem f4_117 : at1 method_6_code 117 = some (.if_icmp .ne 7) := by decide +kernel
theorem s4_117 : V4 l Z b K (q + 1) 117 ls st H cN sN = (popI st fun y r => popI r fun x r => if x = y then V4 l Z b K q 120 ls r H cN sN else V4 l Z b K q 124 ls r H cN sN) := by show Wn _ _ _ _ _ _ _ _ _ _ _ _ _ _ _ (q + 1) _ _ _ _ _ _ = _; rw [wn_s (by decide), f4_117]; rfl
theorem f4_120 : at1 method_6_code 120 = some (.iconst 1) := by decide +kernel
theorem s4_120 : V4 l Z b K (q + 1) 120 ls st H cN sN = (V4 l Z b K q 121 ls (.int 1 :: st) H cN sN) := by show Wn _ _ _ _ _ _ _ _ _ _ _ _ _ _ _ (q + 1) _ _ _ _ _ _ = _; rw [wn_s (by decide), f4_120]; rfl
theorem f4_121 : at1 method_6_code 121 = some (.goto 4) := by decide +kernel
theorem s4_121 : V4 l Z b K (q + 1) 121 ls st H cN sN = (V4 l Z b K q 125 ls st H cN sN) := by show Wn _ _ _ _ _ _ _ _ _ _ _ _ _ _ _ (q + 1) _ _ _ _ _ _ = _; rw [wn_s (by decide), f4_121]; rfl
theorem f4_124 : at1 method_6_code 124 = some (.iconst 0) := by decide +kernel
theorem s4_124 : V4 l Z b K (q + 1) 124 ls st H cN sN = (V4 l Z b K q 125 ls (.int 0 :: st) H cN sN) := by show Wn _ _ _ _ _ _ _ _ _ _ _ _ _ _ _ (q + 1) _ _ _ _ _ _ = _; rw [wn_s (by decide), f4_124]; rfl
theorem f4_125 : at1 method_6_code 125 = some (.ireturn) := by decide +kernel
theorem s4_125 : V4 l Z b K (q + 1) 125 ls st H cN sN = (popI st fun x r => if cN ≤ 0 ∧ sN ≤ 0 then K (some (.int (nar .boolean x))) H else False) := by show Wn _ _ _ _ _ _ _ _ _ _ _ _ _ _ _ (q + 1) _ _ _ _ _ _ = _; rw [wn_s (by decide), f4_125]; rfl
theorem ef4 (m : MethodId) (x0 : Nat) (x1 : Nat) : entryFrame m [.ref x0, .ref x1].toArray 2 = mkF m 0 [.val (.ref x0), .val (.ref x1)].toArray [] := by first | (simp [entryFrame, mkF, argsToLocals, Value.category, maxLocals, List.replicate]; done) | rfl
theorem pn4 : plainFor y4 = true := by first | decide +kernel | exact plainFor_of_name (by simp [y4, plainName, overriddenIn])
theorem pd4 : parseMethodDescriptor "([B[B)Z" = some ⟨[(.array .byte), (.array .byte)], some .boolean⟩ := by decide +kernel
theorem c4 (x0 : Nat) (x1 : Nat) (g : G4 l Z b K 0 [.val (.ref x0), .val (.ref x1)] [] H 0 0) : Con tables_1 l Z b y4 method_6_code 2 (some .boolean) R4 [.ref x0, .ref x1] H K := G.con pn4 (fun m => ef4 m x0 x1) g
end Body4
def R5 : Room := { frames := 0, cells := 0, slots := 0, locals := 0 }
def y5 : MethodName := ⟨"com/example/rowkey/rowkey/EndedPartsWritePinLaw", "put", "([BIB)I"⟩
def G5 (l : Launch) (Z : State) (b : Heap) (K : Option Value → List Cel → Prop) : Cont := G method_4_code "com/example/rowkey/rowkey/EndedPartsWritePinLaw" "put" 3 (some .int) R5 tables_1 l Z b 0 0 K
def V5 (l : Launch) (Z : State) (b : Heap) (K : Option Value → List Cel → Prop) : Nat → Cont := Wn [] method_4_code [] [] [] [] [] [] (some .int) R5 b.size 0 0 K (G5 l Z b K)
section Body5
variable {l : Launch} {Z : State} {b : Heap} {K : Option Value → List Cel → Prop} {q : Nat} {ls : List Slot} {st : List Value} {H : List Cel} {cN sN : Nat}
theorem r5 (q : Nat) {pc : Nat} (h : V5 l Z b K q pc ls st H cN sN) : G5 l Z b K pc ls st H cN sN := G.run q (by intro x hx; cases hx) (by intro x hx; cases hx) (by intro x hx; cases hx) (by intro x hx; cases hx) (by intro x hx; cases hx) (by intro x hx; cases hx) h
theorem z5 {pc : Nat} : V5 l Z b K 0 pc ls st H cN sN = G5 l Z b K pc ls st H cN sN := propext Iff.rfl
theorem f5_0 : at1 method_4_code 0 = some (.aload_n 0) := by decide +kernel
theorem s5_0 : V5 l Z b K (q + 1) 0 ls st H cN sN = (ldA ls 0 fun v => V5 l Z b K q 1 ls (v :: st) H cN sN) := by show Wn _ _ _ _ _ _ _ _ _ _ _ _ _ _ _ (q + 1) _ _ _ _ _ _ = _; rw [wn_s (by decide), f5_0]; rfl
theorem f5_1 : at1 method_4_code 1 = some (.iload_n 1) := by decide +kernel
theorem s5_1 : V5 l Z b K (q + 1) 1 ls st H cN sN = (ldI ls 1 fun v => V5 l Z b K q 2 ls (.int v :: st) H cN sN) := by show Wn _ _ _ _ _ _ _ _ _ _ _ _ _ _ _ (q + 1) _ _ _ _ _ _ = _; rw [wn_s (by decide), f5_1]; rfl
theorem f5_2 : at1 method_4_code 2 = some (.iload_n 2) := by decide +kernel
theorem s5_2 : V5 l Z b K (q + 1) 2 ls st H cN sN = (ldI ls 2 fun v => V5 l Z b K q 3 ls (.int v :: st) H cN sN) := by show Wn _ _ _ _ _ _ _ _ _ _ _ _ _ _ _ (q + 1) _ _ _ _ _ _ = _; rw [wn_s (by decide), f5_2]; rfl
theorem f5_3 : at1 method_4_code 3 = some (.bastore) := by decide +kernel
theorem s5_3 : V5 l Z b K (q + 1) 3 ls st H cN sN = (popI st fun x r => popI r fun j r => popR r fun a r => arr H b.size a fun i ty vs => if ty = .byte then idx vs j fun _ => setN vs j.toNatClampNeg (.int (nar .byte x)) fun vs' => setH H i (.inl (.byte, vs')) fun H' => V5 l Z b K q 4 ls r H' cN sN else False) := by show Wn _ _ _ _ _ _ _ _ _ _ _ _ _ _ _ (q + 1) _ _ _ _ _ _ = _; rw [wn_s (by decide), f5_3]; rfl
theorem f5_4 : at1 method_4_code 4 = some (.iload_n 2) := by decide +kernel
theorem s5_4 : V5 l Z b K (q + 1) 4 ls st H cN sN = (ldI ls 2 fun v => V5 l Z b K q 5 ls (.int v :: st) H cN sN) := by show Wn _ _ _ _ _ _ _ _ _ _ _ _ _ _ _ (q + 1) _ _ _ _ _ _ = _; rw [wn_s (by decide), f5_4]; rfl
theorem f5_5 : at1 method_4_code 5 = some (.ifCond .ne 13) := by decide +kernel
theorem s5_5 : V5 l Z b K (q + 1) 5 ls st H cN sN = (popI st fun x r => if x = 0 then V5 l Z b K q 8 ls r H cN sN else V5 l Z b K q 18 ls r H cN sN) := by show Wn _ _ _ _ _ _ _ _ _ _ _ _ _ _ _ (q + 1) _ _ _ _ _ _ = _; rw [wn_s (by decide), f5_5]; rfl
theorem f5_8 : at1 method_4_code 8 = some (.aload_n 0) := by decide +kernel
theorem s5_8 : V5 l Z b K (q + 1) 8 ls st H cN sN = (ldA ls 0 fun v => V5 l Z b K q 9 ls (v :: st) H cN sN) := by show Wn _ _ _ _ _ _ _ _ _ _ _ _ _ _ _ (q + 1) _ _ _ _ _ _ = _; rw [wn_s (by decide), f5_8]; rfl
theorem f5_9 : at1 method_4_code 9 = some (.iload_n 1) := by decide +kernel
theorem s5_9 : V5 l Z b K (q + 1) 9 ls st H cN sN = (ldI ls 1 fun v => V5 l Z b K q 10 ls (.int v :: st) H cN sN) := by show Wn _ _ _ _ _ _ _ _ _ _ _ _ _ _ _ (q + 1) _ _ _ _ _ _ = _; rw [wn_s (by decide), f5_9]; rfl
theorem f5_10 : at1 method_4_code 10 = some (.iconst 1) := by decide +kernel
theorem s5_10 : V5 l Z b K (q + 1) 10 ls st H cN sN = (V5 l Z b K q 11 ls (.int 1 :: st) H cN sN) := by show Wn _ _ _ _ _ _ _ _ _ _ _ _ _ _ _ (q + 1) _ _ _ _ _ _ = _; rw [wn_s (by decide), f5_10]; rfl
theorem f5_11 : at1 method_4_code 11 = some (.iadd) := by decide +kernel
theorem s5_11 : V5 l Z b K (q + 1) 11 ls st H cN sN = (popI st fun y r => popI r fun x r => V5 l Z b K q 12 ls (.int (x + y) :: r) H cN sN) := by show Wn _ _ _ _ _ _ _ _ _ _ _ _ _ _ _ (q + 1) _ _ _ _ _ _ = _; rw [wn_s (by decide), f5_11]; rfl
theorem f5_12 : at1 method_4_code 12 = some (.iconst (-1)) := by decide +kernel
theorem s5_12 : V5 l Z b K (q + 1) 12 ls st H cN sN = (V5 l Z b K q 13 ls (.int (-1) :: st) H cN sN) := by show Wn _ _ _ _ _ _ _ _ _ _ _ _ _ _ _ (q + 1) _ _ _ _ _ _ = _; rw [wn_s (by decide), f5_12]; rfl
theorem f5_13 : at1 method_4_code 13 = some (.bastore) := by decide +kernel
theorem s5_13 : V5 l Z b K (q + 1) 13 ls st H cN sN = (popI st fun x r => popI r fun j r => popR r fun a r => arr H b.size a fun i ty vs => if ty = .byte then idx vs j fun _ => setN vs j.toNatClampNeg (.int (nar .byte x)) fun vs' => setH H i (.inl (.byte, vs')) fun H' => V5 l Z b K q 14 ls r H' cN sN else False) := by show Wn _ _ _ _ _ _ _ _ _ _ _ _ _ _ _ (q + 1) _ _ _ _ _ _ = _; rw [wn_s (by decide), f5_13]; rfl
theorem f5_14 : at1 method_4_code 14 = some (.iload_n 1) := by decide +kernel
theorem s5_14 : V5 l Z b K (q + 1) 14 ls st H cN sN = (ldI ls 1 fun v => V5 l Z b K q 15 ls (.int v :: st) H cN sN) := by show Wn _ _ _ _ _ _ _ _ _ _ _ _ _ _ _ (q + 1) _ _ _ _ _ _ = _; rw [wn_s (by decide), f5_14]; rfl
theorem f5_15 : at1 method_4_code 15 = some (.iconst 2) := by decide +kernel
theorem s5_15 : V5 l Z b K (q + 1) 15 ls st H cN sN = (V5 l Z b K q 16 ls (.int 2 :: st) H cN sN) := by show Wn _ _ _ _ _ _ _ _ _ _ _ _ _ _ _ (q + 1) _ _ _ _ _ _ = _; rw [wn_s (by decide), f5_15]; rfl
theorem f5_16 : at1 method_4_code 16 = some (.iadd) := by decide +kernel
theorem s5_16 : V5 l Z b K (q + 1) 16 ls st H cN sN = (popI st fun y r => popI r fun x r => V5 l Z b K q 17 ls (.int (x + y) :: r) H cN sN) := by show Wn _ _ _ _ _ _ _ _ _ _ _ _ _ _ _ (q + 1) _ _ _ _ _ _ = _; rw [wn_s (by decide), f5_16]; rfl
theorem f5_17 : at1 method_4_code 17 = some (.ireturn) := by decide +kernel
theorem s5_17 : V5 l Z b K (q + 1) 17 ls st H cN sN = (popI st fun x r => if cN ≤ 0 ∧ sN ≤ 0 then K (some (.int x)) H else False) := by show Wn _ _ _ _ _ _ _ _ _ _ _ _ _ _ _ (q + 1) _ _ _ _ _ _ = _; rw [wn_s (by decide), f5_17]; rfl
theorem f5_18 : at1 method_4_code 18 = some (.iload_n 1) := by decide +kernel
theorem s5_18 : V5 l Z b K (q + 1) 18 ls st H cN sN = (ldI ls 1 fun v => V5 l Z b K q 19 ls (.int v :: st) H cN sN) := by show Wn _ _ _ _ _ _ _ _ _ _ _ _ _ _ _ (q + 1) _ _ _ _ _ _ = _; rw [wn_s (by decide), f5_18]; rfl
theorem f5_19 : at1 method_4_code 19 = some (.iconst 1) := by decide +kernel
theorem s5_19 : V5 l Z b K (q + 1) 19 ls st H cN sN = (V5 l Z b K q 20 ls (.int 1 :: st) H cN sN) := by show Wn _ _ _ _ _ _ _ _ _ _ _ _ _ _ _ (q + 1) _ _ _ _ _ _ = _; rw [wn_s (by decide), f5_19]; rfl
theorem f5_20 : at1 method_4_code 20 = some (.iadd) := by decide +kernel
theorem s5_20 : V5 l Z b K (q + 1) 20 ls st H cN sN = (popI st fun y r => popI r fun x r => V5 l Z b K q 21 ls (.int (x + y) :: r) H cN sN) := by show Wn _ _ _ _ _ _ _ _ _ _ _ _ _ _ _ (q + 1) _ _ _ _ _ _ = _; rw [wn_s (by decide), f5_20]; rfl
theorem f5_21 : at1 method_4_code 21 = some (.ireturn) := by decide +kernel
theorem s5_21 : V5 l Z b K (q + 1) 21 ls st H cN sN = (popI st fun x r => if cN ≤ 0 ∧ sN ≤ 0 then K (some (.int x)) H else False) := by show Wn _ _ _ _ _ _ _ _ _ _ _ _ _ _ _ (q + 1) _ _ _ _ _ _ = _; rw [wn_s (by decide), f5_21]; rfl
theorem ef5 (m : MethodId) (x0 : Nat) (x1 : Int32) (x2 : Int32) : entryFrame m [.ref x0, .int x1, .int x2].toArray 3 = mkF m 0 [.val (.ref x0), .val (.int x1), .val (.int x2)].toArray [] := by first | (simp [entryFrame, mkF, argsToLocals, Value.category, maxLocals, List.replicate]; done) | rfl
theorem pn5 : plainFor y5 = true := by first | decide +kernel | exact plainFor_of_name (by simp [y5, plainName, overriddenIn])
theorem pd5 : parseMethodDescriptor "([BIB)I" = some ⟨[(.array .byte), .int, .byte], some .int⟩ := by decide +kernel
theorem c5 (x0 : Nat) (x1 : Int32) (x2 : Int32) (g : G5 l Z b K 0 [.val (.ref x0), .val (.int x1), .val (.int x2)] [] H 0 0) : Con tables_1 l Z b y5 method_4_code 3 (some .int) R5 [.ref x0, .int x1, .int x2] H K := G.con pn5 (fun m => ef5 m x0 x1 x2) g
end Body5
section Calls0
variable {l : Launch} {Z : State} {b : Heap} {K : Option Value → List Cel → Prop} {ls : List Slot} {rest : List Value} {H : List Cel} {cN sN : Nat} {K' : Option Value → List Cel → Prop}
theorem k0_17 {x0 : Int32} (C : Con tables_1 l Z b y1 method_3_code 1 (some .byte) R1 [.int x0] H K') (k : ∀ v H', K' v H' → G0 l Z b K 20 ls (v.toList ++ rest) H' (cN + 0) (sN + 0)) (hls : ls.length = maxLocals := by rfl) (hlo : wt rest + (1 + 11) + R1.locals ≤ room_1.locals := by exact Nat.le_of_ble_eq_true rfl) (hc : cN + R1.cells ≤ room_1.cells := by exact Nat.le_of_ble_eq_true rfl) (hs : sN + R1.slots ≤ room_1.slots := by exact Nat.le_of_ble_eq_true rfl) : G0 l Z b K 17 ls (.int x0 :: rest) H cN sN := G.callS (List.mem_of_getElem? (i := 0) rfl) (List.mem_of_getElem? (i := 1) rfl) (List.mem_of_getElem? (i := 2) rfl) (List.mem_of_getElem? (i := 3) rfl) ⟨by decide, by decide⟩ pd1 C f0_17 rfl rfl hls (by decide) hlo hc hs k
theorem kf0_17 {x0 : Int32} {r : Value} {Hr : List Cel} (C : Con tables_1 l Z b y1 method_3_code 1 (some .byte) R1 [.int x0] H (is (some r) Hr)) (k : G0 l Z b K 20 ls (r :: rest) Hr (cN + 0) (sN + 0)) (hls : ls.length = maxLocals := by rfl) (hlo : wt rest + (1 + 11) + R1.locals ≤ room_1.locals := by exact Nat.le_of_ble_eq_true rfl) (hc : cN + R1.cells ≤ room_1.cells := by exact Nat.le_of_ble_eq_true rfl) (hs : sN + R1.slots ≤ room_1.slots := by exact Nat.le_of_ble_eq_true rfl) : G0 l Z b K 17 ls (.int x0 :: rest) H cN sN := k0_17 C (fun v H' h => by obtain ⟨rfl, rfl⟩ := h; exact k) hls hlo hc hs
theorem k0_23 {x0 : Int32} (C : Con tables_1 l Z b y1 method_3_code 1 (some .byte) R1 [.int x0] H K') (k : ∀ v H', K' v H' → G0 l Z b K 26 ls (v.toList ++ rest) H' (cN + 0) (sN + 0)) (hls : ls.length = maxLocals := by rfl) (hlo : wt rest + (1 + 11) + R1.locals ≤ room_1.locals := by exact Nat.le_of_ble_eq_true rfl) (hc : cN + R1.cells ≤ room_1.cells := by exact Nat.le_of_ble_eq_true rfl) (hs : sN + R1.slots ≤ room_1.slots := by exact Nat.le_of_ble_eq_true rfl) : G0 l Z b K 23 ls (.int x0 :: rest) H cN sN := G.callS (List.mem_of_getElem? (i := 0) rfl) (List.mem_of_getElem? (i := 1) rfl) (List.mem_of_getElem? (i := 2) rfl) (List.mem_of_getElem? (i := 3) rfl) ⟨by decide, by decide⟩ pd1 C f0_23 rfl rfl hls (by decide) hlo hc hs k
theorem kf0_23 {x0 : Int32} {r : Value} {Hr : List Cel} (C : Con tables_1 l Z b y1 method_3_code 1 (some .byte) R1 [.int x0] H (is (some r) Hr)) (k : G0 l Z b K 26 ls (r :: rest) Hr (cN + 0) (sN + 0)) (hls : ls.length = maxLocals := by rfl) (hlo : wt rest + (1 + 11) + R1.locals ≤ room_1.locals := by exact Nat.le_of_ble_eq_true rfl) (hc : cN + R1.cells ≤ room_1.cells := by exact Nat.le_of_ble_eq_true rfl) (hs : sN + R1.slots ≤ room_1.slots := by exact Nat.le_of_ble_eq_true rfl) : G0 l Z b K 23 ls (.int x0 :: rest) H cN sN := k0_23 C (fun v H' h => by obtain ⟨rfl, rfl⟩ := h; exact k) hls hlo hc hs
theorem k0_29 {x0 : Int32} (C : Con tables_1 l Z b y1 method_3_code 1 (some .byte) R1 [.int x0] H K') (k : ∀ v H', K' v H' → G0 l Z b K 32 ls (v.toList ++ rest) H' (cN + 0) (sN + 0)) (hls : ls.length = maxLocals := by rfl) (hlo : wt rest + (1 + 11) + R1.locals ≤ room_1.locals := by exact Nat.le_of_ble_eq_true rfl) (hc : cN + R1.cells ≤ room_1.cells := by exact Nat.le_of_ble_eq_true rfl) (hs : sN + R1.slots ≤ room_1.slots := by exact Nat.le_of_ble_eq_true rfl) : G0 l Z b K 29 ls (.int x0 :: rest) H cN sN := G.callS (List.mem_of_getElem? (i := 0) rfl) (List.mem_of_getElem? (i := 1) rfl) (List.mem_of_getElem? (i := 2) rfl) (List.mem_of_getElem? (i := 3) rfl) ⟨by decide, by decide⟩ pd1 C f0_29 rfl rfl hls (by decide) hlo hc hs k
theorem kf0_29 {x0 : Int32} {r : Value} {Hr : List Cel} (C : Con tables_1 l Z b y1 method_3_code 1 (some .byte) R1 [.int x0] H (is (some r) Hr)) (k : G0 l Z b K 32 ls (r :: rest) Hr (cN + 0) (sN + 0)) (hls : ls.length = maxLocals := by rfl) (hlo : wt rest + (1 + 11) + R1.locals ≤ room_1.locals := by exact Nat.le_of_ble_eq_true rfl) (hc : cN + R1.cells ≤ room_1.cells := by exact Nat.le_of_ble_eq_true rfl) (hs : sN + R1.slots ≤ room_1.slots := by exact Nat.le_of_ble_eq_true rfl) : G0 l Z b K 29 ls (.int x0 :: rest) H cN sN := k0_29 C (fun v H' h => by obtain ⟨rfl, rfl⟩ := h; exact k) hls hlo hc hs
theorem k0_112 {x0 : Int32} (C : Con tables_1 l Z b y2 method_5_code 1 (some (.array .byte)) R2 [.int x0] H K') (k : ∀ v H', K' v H' → G0 l Z b K 115 ls (v.toList ++ rest) H' (cN + 1) (sN + 12)) (hls : ls.length = maxLocals := by rfl) (hlo : wt rest + (1 + 11) + R2.locals ≤ room_1.locals := by exact Nat.le_of_ble_eq_true rfl) (hc : cN + R2.cells ≤ room_1.cells := by exact Nat.le_of_ble_eq_true rfl) (hs : sN + R2.slots ≤ room_1.slots := by exact Nat.le_of_ble_eq_true rfl) : G0 l Z b K 112 ls (.int x0 :: rest) H cN sN := G.callS (List.mem_of_getElem? (i := 5) rfl) (List.mem_of_getElem? (i := 6) rfl) (List.mem_of_getElem? (i := 2) rfl) (List.mem_of_getElem? (i := 7) rfl) ⟨by decide, by decide⟩ pd2 C f0_112 rfl rfl hls (by decide) hlo hc hs k
theorem kf0_112 {x0 : Int32} {r : Value} {Hr : List Cel} (C : Con tables_1 l Z b y2 method_5_code 1 (some (.array .byte)) R2 [.int x0] H (is (some r) Hr)) (k : G0 l Z b K 115 ls (r :: rest) Hr (cN + 1) (sN + 12)) (hls : ls.length = maxLocals := by rfl) (hlo : wt rest + (1 + 11) + R2.locals ≤ room_1.locals := by exact Nat.le_of_ble_eq_true rfl) (hc : cN + R2.cells ≤ room_1.cells := by exact Nat.le_of_ble_eq_true rfl) (hs : sN + R2.slots ≤ room_1.slots := by exact Nat.le_of_ble_eq_true rfl) : G0 l Z b K 112 ls (.int x0 :: rest) H cN sN := k0_112 C (fun v H' h => by obtain ⟨rfl, rfl⟩ := h; exact k) hls hlo hc hs
theorem k0_119 {x0 : Int32} (C : Con tables_1 l Z b y2 method_5_code 1 (some (.array .byte)) R2 [.int x0] H K') (k : ∀ v H', K' v H' → G0 l Z b K 122 ls (v.toList ++ rest) H' (cN + 1) (sN + 12)) (hls : ls.length = maxLocals := by rfl) (hlo : wt rest + (1 + 11) + R2.locals ≤ room_1.locals := by exact Nat.le_of_ble_eq_true rfl) (hc : cN + R2.cells ≤ room_1.cells := by exact Nat.le_of_ble_eq_true rfl) (hs : sN + R2.slots ≤ room_1.slots := by exact Nat.le_of_ble_eq_true rfl) : G0 l Z b K 119 ls (.int x0 :: rest) H cN sN := G.callS (List.mem_of_getElem? (i := 5) rfl) (List.mem_of_getElem? (i := 6) rfl) (List.mem_of_getElem? (i := 2) rfl) (List.mem_of_getElem? (i := 7) rfl) ⟨by decide, by decide⟩ pd2 C f0_119 rfl rfl hls (by decide) hlo hc hs k
theorem kf0_119 {x0 : Int32} {r : Value} {Hr : List Cel} (C : Con tables_1 l Z b y2 method_5_code 1 (some (.array .byte)) R2 [.int x0] H (is (some r) Hr)) (k : G0 l Z b K 122 ls (r :: rest) Hr (cN + 1) (sN + 12)) (hls : ls.length = maxLocals := by rfl) (hlo : wt rest + (1 + 11) + R2.locals ≤ room_1.locals := by exact Nat.le_of_ble_eq_true rfl) (hc : cN + R2.cells ≤ room_1.cells := by exact Nat.le_of_ble_eq_true rfl) (hs : sN + R2.slots ≤ room_1.slots := by exact Nat.le_of_ble_eq_true rfl) : G0 l Z b K 119 ls (.int x0 :: rest) H cN sN := k0_119 C (fun v H' h => by obtain ⟨rfl, rfl⟩ := h; exact k) hls hlo hc hs
theorem k0_139 {x0 : Nat} {x1 : Int32} {x2 : Int32} (C : Con tables_1 l Z b y5 method_4_code 3 (some .int) R5 [.ref x0, .int x1, .int x2] H K') (k : ∀ v H', K' v H' → G0 l Z b K 142 ls (v.toList ++ rest) H' (cN + 0) (sN + 0)) (hls : ls.length = maxLocals := by rfl) (hlo : wt rest + (3 + 11) + R5.locals ≤ room_1.locals := by exact Nat.le_of_ble_eq_true rfl) (hc : cN + R5.cells ≤ room_1.cells := by exact Nat.le_of_ble_eq_true rfl) (hs : sN + R5.slots ≤ room_1.slots := by exact Nat.le_of_ble_eq_true rfl) : G0 l Z b K 139 ls (.int x2 :: .int x1 :: .ref x0 :: rest) H cN sN := G.callS (List.mem_of_getElem? (i := 15) rfl) (List.mem_of_getElem? (i := 16) rfl) (List.mem_of_getElem? (i := 2) rfl) (List.mem_of_getElem? (i := 17) rfl) ⟨by decide, by decide⟩ pd5 C f0_139 rfl rfl hls (by decide) hlo hc hs k
theorem kf0_139 {x0 : Nat} {x1 : Int32} {x2 : Int32} {r : Value} {Hr : List Cel} (C : Con tables_1 l Z b y5 method_4_code 3 (some .int) R5 [.ref x0, .int x1, .int x2] H (is (some r) Hr)) (k : G0 l Z b K 142 ls (r :: rest) Hr (cN + 0) (sN + 0)) (hls : ls.length = maxLocals := by rfl) (hlo : wt rest + (3 + 11) + R5.locals ≤ room_1.locals := by exact Nat.le_of_ble_eq_true rfl) (hc : cN + R5.cells ≤ room_1.cells := by exact Nat.le_of_ble_eq_true rfl) (hs : sN + R5.slots ≤ room_1.slots := by exact Nat.le_of_ble_eq_true rfl) : G0 l Z b K 139 ls (.int x2 :: .int x1 :: .ref x0 :: rest) H cN sN := k0_139 C (fun v H' h => by obtain ⟨rfl, rfl⟩ := h; exact k) hls hlo hc hs
theorem k0_156 {x0 : Nat} {x1 : Int32} {x2 : Int32} (C : Con tables_1 l Z b y5 method_4_code 3 (some .int) R5 [.ref x0, .int x1, .int x2] H K') (k : ∀ v H', K' v H' → G0 l Z b K 159 ls (v.toList ++ rest) H' (cN + 0) (sN + 0)) (hls : ls.length = maxLocals := by rfl) (hlo : wt rest + (3 + 11) + R5.locals ≤ room_1.locals := by exact Nat.le_of_ble_eq_true rfl) (hc : cN + R5.cells ≤ room_1.cells := by exact Nat.le_of_ble_eq_true rfl) (hs : sN + R5.slots ≤ room_1.slots := by exact Nat.le_of_ble_eq_true rfl) : G0 l Z b K 156 ls (.int x2 :: .int x1 :: .ref x0 :: rest) H cN sN := G.callS (List.mem_of_getElem? (i := 15) rfl) (List.mem_of_getElem? (i := 16) rfl) (List.mem_of_getElem? (i := 2) rfl) (List.mem_of_getElem? (i := 17) rfl) ⟨by decide, by decide⟩ pd5 C f0_156 rfl rfl hls (by decide) hlo hc hs k
theorem kf0_156 {x0 : Nat} {x1 : Int32} {x2 : Int32} {r : Value} {Hr : List Cel} (C : Con tables_1 l Z b y5 method_4_code 3 (some .int) R5 [.ref x0, .int x1, .int x2] H (is (some r) Hr)) (k : G0 l Z b K 159 ls (r :: rest) Hr (cN + 0) (sN + 0)) (hls : ls.length = maxLocals := by rfl) (hlo : wt rest + (3 + 11) + R5.locals ≤ room_1.locals := by exact Nat.le_of_ble_eq_true rfl) (hc : cN + R5.cells ≤ room_1.cells := by exact Nat.le_of_ble_eq_true rfl) (hs : sN + R5.slots ≤ room_1.slots := by exact Nat.le_of_ble_eq_true rfl) : G0 l Z b K 156 ls (.int x2 :: .int x1 :: .ref x0 :: rest) H cN sN := k0_156 C (fun v H' h => by obtain ⟨rfl, rfl⟩ := h; exact k) hls hlo hc hs
theorem k0_173 {x0 : Nat} {x1 : Int32} {x2 : Int32} (C : Con tables_1 l Z b y5 method_4_code 3 (some .int) R5 [.ref x0, .int x1, .int x2] H K') (k : ∀ v H', K' v H' → G0 l Z b K 176 ls (v.toList ++ rest) H' (cN + 0) (sN + 0)) (hls : ls.length = maxLocals := by rfl) (hlo : wt rest + (3 + 11) + R5.locals ≤ room_1.locals := by exact Nat.le_of_ble_eq_true rfl) (hc : cN + R5.cells ≤ room_1.cells := by exact Nat.le_of_ble_eq_true rfl) (hs : sN + R5.slots ≤ room_1.slots := by exact Nat.le_of_ble_eq_true rfl) : G0 l Z b K 173 ls (.int x2 :: .int x1 :: .ref x0 :: rest) H cN sN := G.callS (List.mem_of_getElem? (i := 15) rfl) (List.mem_of_getElem? (i := 16) rfl) (List.mem_of_getElem? (i := 2) rfl) (List.mem_of_getElem? (i := 17) rfl) ⟨by decide, by decide⟩ pd5 C f0_173 rfl rfl hls (by decide) hlo hc hs k
theorem kf0_173 {x0 : Nat} {x1 : Int32} {x2 : Int32} {r : Value} {Hr : List Cel} (C : Con tables_1 l Z b y5 method_4_code 3 (some .int) R5 [.ref x0, .int x1, .int x2] H (is (some r) Hr)) (k : G0 l Z b K 176 ls (r :: rest) Hr (cN + 0) (sN + 0)) (hls : ls.length = maxLocals := by rfl) (hlo : wt rest + (3 + 11) + R5.locals ≤ room_1.locals := by exact Nat.le_of_ble_eq_true rfl) (hc : cN + R5.cells ≤ room_1.cells := by exact Nat.le_of_ble_eq_true rfl) (hs : sN + R5.slots ≤ room_1.slots := by exact Nat.le_of_ble_eq_true rfl) : G0 l Z b K 173 ls (.int x2 :: .int x1 :: .ref x0 :: rest) H cN sN := k0_173 C (fun v H' h => by obtain ⟨rfl, rfl⟩ := h; exact k) hls hlo hc hs
theorem k0_204 {x0 : Nat} {x1 : Nat} {x2 : Int32} (C : Con tables_1 l Z b y3 prog_19_method_3_code 7 (some .int) R3 [.ref x0, .ref x1, .int x2] H K') (k : ∀ v H', K' v H' → G0 l Z b K 207 ls (v.toList ++ rest) H' (cN + 0) (sN + 0)) (hls : ls.length = maxLocals := by rfl) (hlo : wt rest + (7 + 11) + R3.locals ≤ room_1.locals := by exact Nat.le_of_ble_eq_true rfl) (hc : cN + R3.cells ≤ room_1.cells := by exact Nat.le_of_ble_eq_true rfl) (hs : sN + R3.slots ≤ room_1.slots := by exact Nat.le_of_ble_eq_true rfl) : G0 l Z b K 204 ls (.int x2 :: .ref x1 :: .ref x0 :: rest) H cN sN := G.callS (List.mem_of_getElem? (i := 8) rfl) (List.mem_of_getElem? (i := 9) rfl) (List.mem_of_getElem? (i := 10) rfl) (List.mem_of_getElem? (i := 11) rfl) ⟨by decide, by decide⟩ pd3 C f0_204 rfl rfl hls (by decide) hlo hc hs k
theorem kf0_204 {x0 : Nat} {x1 : Nat} {x2 : Int32} {r : Value} {Hr : List Cel} (C : Con tables_1 l Z b y3 prog_19_method_3_code 7 (some .int) R3 [.ref x0, .ref x1, .int x2] H (is (some r) Hr)) (k : G0 l Z b K 207 ls (r :: rest) Hr (cN + 0) (sN + 0)) (hls : ls.length = maxLocals := by rfl) (hlo : wt rest + (7 + 11) + R3.locals ≤ room_1.locals := by exact Nat.le_of_ble_eq_true rfl) (hc : cN + R3.cells ≤ room_1.cells := by exact Nat.le_of_ble_eq_true rfl) (hs : sN + R3.slots ≤ room_1.slots := by exact Nat.le_of_ble_eq_true rfl) : G0 l Z b K 204 ls (.int x2 :: .ref x1 :: .ref x0 :: rest) H cN sN := k0_204 C (fun v H' h => by obtain ⟨rfl, rfl⟩ := h; exact k) hls hlo hc hs
theorem k0_220 {x0 : Nat} {x1 : Nat} (C : Con tables_1 l Z b y4 method_6_code 2 (some .boolean) R4 [.ref x0, .ref x1] H K') (k : ∀ v H', K' v H' → G0 l Z b K 223 ls (v.toList ++ rest) H' (cN + 0) (sN + 0)) (hls : ls.length = maxLocals := by rfl) (hlo : wt rest + (2 + 11) + R4.locals ≤ room_1.locals := by exact Nat.le_of_ble_eq_true rfl) (hc : cN + R4.cells ≤ room_1.cells := by exact Nat.le_of_ble_eq_true rfl) (hs : sN + R4.slots ≤ room_1.slots := by exact Nat.le_of_ble_eq_true rfl) : G0 l Z b K 220 ls (.ref x1 :: .ref x0 :: rest) H cN sN := G.callS (List.mem_of_getElem? (i := 12) rfl) (List.mem_of_getElem? (i := 13) rfl) (List.mem_of_getElem? (i := 2) rfl) (List.mem_of_getElem? (i := 14) rfl) ⟨by decide, by decide⟩ pd4 C f0_220 rfl rfl hls (by decide) hlo hc hs k
theorem kf0_220 {x0 : Nat} {x1 : Nat} {r : Value} {Hr : List Cel} (C : Con tables_1 l Z b y4 method_6_code 2 (some .boolean) R4 [.ref x0, .ref x1] H (is (some r) Hr)) (k : G0 l Z b K 223 ls (r :: rest) Hr (cN + 0) (sN + 0)) (hls : ls.length = maxLocals := by rfl) (hlo : wt rest + (2 + 11) + R4.locals ≤ room_1.locals := by exact Nat.le_of_ble_eq_true rfl) (hc : cN + R4.cells ≤ room_1.cells := by exact Nat.le_of_ble_eq_true rfl) (hs : sN + R4.slots ≤ room_1.slots := by exact Nat.le_of_ble_eq_true rfl) : G0 l Z b K 220 ls (.ref x1 :: .ref x0 :: rest) H cN sN := k0_220 C (fun v H' h => by obtain ⟨rfl, rfl⟩ := h; exact k) hls hlo hc hs
end Calls0
theorem room_c : room_1.cells = 16 := by decide
theorem room_s : room_1.slots = 128 := by decide
theorem R2_c : R2.cells = 1 := by decide
theorem R2_s : R2.slots = 12 := by decide
--STOP 0 34
--STOP 3 9
def pn (n : Nat) (x : Int32) : Nat := if x = 0 then n + 2 else n + 1
def pl (vs : List Int32) (n : Nat) (x : Int32) : List Int32 := if x = 0 then (vs.set n x).set (n + 1) (-1) else vs.set n x
def wr : List Int32 → Nat → List Int32 → Nat × List Int32
  | [], n, vs => (n + 2, (vs.set n 0).set (n + 1) 1)
  | x :: xs, n, vs => wr xs (pn n x) (pl vs n x)
theorem nm1 : nar .byte (-1) = -1 := by decide
theorem n0 : nar .byte 0 = 0 := by decide
theorem n1 : nar .byte 1 = 1 := by decide
theorem pn_le (n : Nat) (x : Int32) : pn n x ≤ n + 2 := by unfold pn; split <;> omega
theorem pl_len (vs : List Int32) (n : Nat) (x : Int32) : (pl vs n x).length = vs.length := by unfold pl; split <;> simp
theorem wr_len (xs : List Int32) : ∀ (n : Nat) (vs : List Int32), (wr xs n vs).2.length = vs.length := by
  induction xs with
  | nil => intro n vs; simp [wr]
  | cons x xs ih => intro n vs; rw [wr, ih, pl_len]
section Own
variable {l : Launch} {Z : State} {b : Heap} {H : List Cel}
theorem con1 (x : Int32) : Con tables_1 l Z b y1 method_3_code 1 (some .byte) R1 [.int x] H (byt H) := by
  refine c1 x (r1 40 ?_)
  by_cases h : XT.ushr x 8 &&& 1 = 0 <;> simp only [↓z1, ↓s1_0, ↓s1_1, ↓s1_3, ↓s1_4, ↓s1_5, ↓s1_6, ↓s1_9, ↓s1_10, ↓s1_11, ↓s1_12, ↓s1_13, ↓popI_c, ↓popJ_c, ↓popR_c, ↓pop1_i, ↓pop1_r, ↓pop1_n, ↓popA_r, ↓popA_n, ↓ldI_z, ↓ldJ_z, ↓ldA_z, ↓ldA_n, ↓ldI_s, ↓ldJ_s, ↓ldA_s, ↓sto1_u, ↓sto1_i, ↓sto1_r, ↓sto1_n, ↓sto1_s, ↓sto2_u, ↓sto2_l, ↓sto2_s, ↓arr_c, ↓arrI_z, ↓arrI_s, ↓obj_c, ↓objI_z, ↓objI_s, ↓idx_c, ↓idxN_c, ↓setN_c, ↓setL_z, ↓setL_s, ↓setH_z, ↓setH_s, ↓snoc_z, ↓snoc_s, ↓onLen_0, ↓onLen_1, ↓onLen_2, ↓onLen_3, ↓onLen_4, ↓repN_c, ↓onSome_c, ↓fgt_c, ↓fst_n, ↓fst_c, ↓reduceIte, List.length_cons, List.length_nil, List.mem_cons, List.not_mem_nil, or_false, true_or, or_true, true_and, and_true, and_self, not_true_eq_false, not_false_eq_true, eq_self, ne_eq, nar_b0, nar_b1, nar_bb, nar_cc, cmpL_lt, cmpL_gt, cmpL_eq, Nat.reduceAdd, Nat.reduceSub, Nat.reduceEqDiff, Nat.reduceLeDiff, Nat.zero_le, Nat.le_refl, Int32.reduceLT, Int32.reduceLE, Int32.reduceAdd, Int32.reduceSub, Int32.reduceMul, Int32.reduceToNatClampNeg, Int32.reduceOfNat, Int32.reduceOfInt, Int64.reduceLT, Int64.reduceAdd, Int64.reduceSub, Int64.reduceMul, i32_nl, i32_ng, i64_nl, i64_ng, String.reduceEq, reduceCtorEq, room_c, room_s, R2_c, R2_s, h] <;> exact ⟨_, rfl, by first | exact nar_bb | decide, rfl⟩
theorem con2a (c0 : Cel) (f : Int32) (hf : nar .byte f = f) : Con tables_1 l Z b y2 method_5_code 1 (some (.array .byte)) R2 [.int f] [c0] (is (some (.ref (ad b.size 1))) [c0, .inl (.byte, ivs [f, f, f, f, f, f, f, f, f, f, f, f])]) := by
  refine c2 _ (r2 150 ?_)
  simp only [↓z2, ↓s2_0, ↓s2_2, ↓s2_4, ↓s2_5, ↓s2_6, ↓s2_7, ↓s2_8, ↓s2_9, ↓s2_10, ↓s2_11, ↓s2_12, ↓s2_13, ↓s2_14, ↓s2_15, ↓s2_16, ↓s2_17, ↓s2_18, ↓s2_19, ↓s2_20, ↓s2_21, ↓s2_22, ↓s2_23, ↓s2_24, ↓s2_25, ↓s2_26, ↓s2_27, ↓s2_28, ↓s2_29, ↓s2_31, ↓s2_32, ↓s2_33, ↓s2_34, ↓s2_36, ↓s2_37, ↓s2_38, ↓s2_39, ↓s2_41, ↓s2_42, ↓s2_43, ↓s2_44, ↓s2_46, ↓s2_47, ↓s2_48, ↓s2_49, ↓s2_51, ↓s2_52, ↓s2_53, ↓s2_54, ↓s2_56, ↓s2_57, ↓s2_58, ↓popI_c, ↓popJ_c, ↓popR_c, ↓pop1_i, ↓pop1_r, ↓pop1_n, ↓popA_r, ↓popA_n, ↓ldI_z, ↓ldJ_z, ↓ldA_z, ↓ldA_n, ↓ldI_s, ↓ldJ_s, ↓ldA_s, ↓sto1_u, ↓sto1_i, ↓sto1_r, ↓sto1_n, ↓sto1_s, ↓sto2_u, ↓sto2_l, ↓sto2_s, ↓arr_c, ↓arrI_z, ↓arrI_s, ↓obj_c, ↓objI_z, ↓objI_s, ↓idx_c, ↓idxN_c, ↓setN_c, ↓setL_z, ↓setL_s, ↓setH_z, ↓setH_s, ↓snoc_z, ↓snoc_s, ↓onLen_0, ↓onLen_1, ↓onLen_2, ↓onLen_3, ↓onLen_4, ↓repN_c, ↓onSome_c, ↓fgt_c, ↓fst_n, ↓fst_c, ↓reduceIte, List.length_cons, List.length_nil, List.mem_cons, List.not_mem_nil, or_false, true_or, or_true, true_and, and_true, and_self, not_true_eq_false, not_false_eq_true, eq_self, ne_eq, nar_b0, nar_b1, nar_bb, nar_cc, cmpL_lt, cmpL_gt, cmpL_eq, Nat.reduceAdd, Nat.reduceSub, Nat.reduceEqDiff, Nat.reduceLeDiff, Nat.zero_le, Nat.le_refl, Int32.reduceLT, Int32.reduceLE, Int32.reduceAdd, Int32.reduceSub, Int32.reduceMul, Int32.reduceToNatClampNeg, Int32.reduceOfNat, Int32.reduceOfInt, Int64.reduceLT, Int64.reduceAdd, Int64.reduceSub, Int64.reduceMul, i32_nl, i32_ng, i64_nl, i64_ng, String.reduceEq, reduceCtorEq, room_c, room_s, R2_c, R2_s, hf]
  exact is_self
theorem con2b (c0 k1 : Cel) (f : Int32) (hf : nar .byte f = f) : Con tables_1 l Z b y2 method_5_code 1 (some (.array .byte)) R2 [.int f] [c0, k1] (is (some (.ref (ad b.size 2))) [c0, k1, .inl (.byte, ivs [f, f, f, f, f, f, f, f, f, f, f, f])]) := by
  refine c2 _ (r2 150 ?_)
  simp only [↓z2, ↓s2_0, ↓s2_2, ↓s2_4, ↓s2_5, ↓s2_6, ↓s2_7, ↓s2_8, ↓s2_9, ↓s2_10, ↓s2_11, ↓s2_12, ↓s2_13, ↓s2_14, ↓s2_15, ↓s2_16, ↓s2_17, ↓s2_18, ↓s2_19, ↓s2_20, ↓s2_21, ↓s2_22, ↓s2_23, ↓s2_24, ↓s2_25, ↓s2_26, ↓s2_27, ↓s2_28, ↓s2_29, ↓s2_31, ↓s2_32, ↓s2_33, ↓s2_34, ↓s2_36, ↓s2_37, ↓s2_38, ↓s2_39, ↓s2_41, ↓s2_42, ↓s2_43, ↓s2_44, ↓s2_46, ↓s2_47, ↓s2_48, ↓s2_49, ↓s2_51, ↓s2_52, ↓s2_53, ↓s2_54, ↓s2_56, ↓s2_57, ↓s2_58, ↓popI_c, ↓popJ_c, ↓popR_c, ↓pop1_i, ↓pop1_r, ↓pop1_n, ↓popA_r, ↓popA_n, ↓ldI_z, ↓ldJ_z, ↓ldA_z, ↓ldA_n, ↓ldI_s, ↓ldJ_s, ↓ldA_s, ↓sto1_u, ↓sto1_i, ↓sto1_r, ↓sto1_n, ↓sto1_s, ↓sto2_u, ↓sto2_l, ↓sto2_s, ↓arr_c, ↓arrI_z, ↓arrI_s, ↓obj_c, ↓objI_z, ↓objI_s, ↓idx_c, ↓idxN_c, ↓setN_c, ↓setL_z, ↓setL_s, ↓setH_z, ↓setH_s, ↓snoc_z, ↓snoc_s, ↓onLen_0, ↓onLen_1, ↓onLen_2, ↓onLen_3, ↓onLen_4, ↓repN_c, ↓onSome_c, ↓fgt_c, ↓fst_n, ↓fst_c, ↓reduceIte, List.length_cons, List.length_nil, List.mem_cons, List.not_mem_nil, or_false, true_or, or_true, true_and, and_true, and_self, not_true_eq_false, not_false_eq_true, eq_self, ne_eq, nar_b0, nar_b1, nar_bb, nar_cc, cmpL_lt, cmpL_gt, cmpL_eq, Nat.reduceAdd, Nat.reduceSub, Nat.reduceEqDiff, Nat.reduceLeDiff, Nat.zero_le, Nat.le_refl, Int32.reduceLT, Int32.reduceLE, Int32.reduceAdd, Int32.reduceSub, Int32.reduceMul, Int32.reduceToNatClampNeg, Int32.reduceOfNat, Int32.reduceOfInt, Int64.reduceLT, Int64.reduceAdd, Int64.reduceSub, Int64.reduceMul, i32_nl, i32_ng, i64_nl, i64_ng, String.reduceEq, reduceCtorEq, room_c, room_s, R2_c, R2_s, hf]
  exact is_self
theorem con5 (c0 k1 : Cel) (vs : List Int32) (n : Nat) (x : Int32) (hx : nar .byte x = x) (hp : n + 1 < vs.length) (hl : vs.length < 1000) :
    Con tables_1 l Z b y5 method_4_code 3 (some .int) R5 [.ref (ad b.size 2), .int (Int32.ofNat n), .int x] [c0, k1, .inl (.byte, ivs vs)] (is (some (.int (Int32.ofNat (pn n x)))) [c0, k1, .inl (.byte, ivs (pl vs n x))]) := by
  have g0 : n < 2147483648 := by omega
  have g1 : n + 1 < 2147483648 := by omega
  have g2 : n < vs.length := by omega
  have g3 : n + 1 < (vs.set n 0).length := by rw [List.length_set]; exact hp
  refine c5 _ _ _ (r5 60 ?_)
  by_cases q1 : x = 0
  · subst q1
    simp only [↓z5, ↓s5_0, ↓s5_1, ↓s5_2, ↓s5_3, ↓s5_4, ↓s5_5, ↓s5_8, ↓s5_9, ↓s5_10, ↓s5_11, ↓s5_12, ↓s5_13, ↓s5_14, ↓s5_15, ↓s5_16, ↓s5_17, ↓s5_18, ↓s5_19, ↓s5_20, ↓s5_21, ↓popI_c, ↓popJ_c, ↓popR_c, ↓pop1_i, ↓pop1_r, ↓pop1_n, ↓popA_r, ↓popA_n, ↓ldI_z, ↓ldJ_z, ↓ldA_z, ↓ldA_n, ↓ldI_s, ↓ldJ_s, ↓ldA_s, ↓sto1_u, ↓sto1_i, ↓sto1_r, ↓sto1_n, ↓sto1_s, ↓sto2_u, ↓sto2_l, ↓sto2_s, ↓arr_c, ↓arrI_z, ↓arrI_s, ↓obj_c, ↓objI_z, ↓objI_s, ↓idxN_c, ↓setL_z, ↓setL_s, ↓setH_z, ↓setH_s, ↓snoc_z, ↓snoc_s, ↓onLen_0, ↓onLen_1, ↓onLen_2, ↓onLen_3, ↓onLen_4, ↓repN_c, ↓onSome_c, ↓fgt_c, ↓fst_n, ↓fst_c, ↓reduceIte, List.length_cons, List.length_nil, List.mem_cons, List.not_mem_nil, or_false, true_or, or_true, true_and, and_true, and_self, not_true_eq_false, not_false_eq_true, eq_self, ne_eq, nar_b0, nar_b1, nar_bb, nar_cc, cmpL_lt, cmpL_gt, cmpL_eq, Nat.reduceAdd, Nat.reduceSub, Nat.reduceEqDiff, Nat.reduceLeDiff, Nat.zero_le, Nat.le_refl, Int32.reduceLT, Int32.reduceLE, Int32.reduceAdd, Int32.reduceSub, Int32.reduceMul, Int32.reduceToNatClampNeg, Int32.reduceOfNat, Int32.reduceOfInt, Int64.reduceLT, Int64.reduceAdd, Int64.reduceSub, Int64.reduceMul, i32_nl, i32_ng, i64_nl, i64_ng, String.reduceEq, reduceCtorEq, room_c, room_s, R2_c, R2_s, ↓idx_iv g0 g2, ↓setN_d, onat_nat g0, onat_succ, onat_2, onat_nat g1, pn, pl, nm1, n0, ivs_set, ↓idx_iv g1 g3]
    exact is_self
  · simp only [↓z5, ↓s5_0, ↓s5_1, ↓s5_2, ↓s5_3, ↓s5_4, ↓s5_5, ↓s5_8, ↓s5_9, ↓s5_10, ↓s5_11, ↓s5_12, ↓s5_13, ↓s5_14, ↓s5_15, ↓s5_16, ↓s5_17, ↓s5_18, ↓s5_19, ↓s5_20, ↓s5_21, ↓popI_c, ↓popJ_c, ↓popR_c, ↓pop1_i, ↓pop1_r, ↓pop1_n, ↓popA_r, ↓popA_n, ↓ldI_z, ↓ldJ_z, ↓ldA_z, ↓ldA_n, ↓ldI_s, ↓ldJ_s, ↓ldA_s, ↓sto1_u, ↓sto1_i, ↓sto1_r, ↓sto1_n, ↓sto1_s, ↓sto2_u, ↓sto2_l, ↓sto2_s, ↓arr_c, ↓arrI_z, ↓arrI_s, ↓obj_c, ↓objI_z, ↓objI_s, ↓idxN_c, ↓setL_z, ↓setL_s, ↓setH_z, ↓setH_s, ↓snoc_z, ↓snoc_s, ↓onLen_0, ↓onLen_1, ↓onLen_2, ↓onLen_3, ↓onLen_4, ↓repN_c, ↓onSome_c, ↓fgt_c, ↓fst_n, ↓fst_c, ↓reduceIte, List.length_cons, List.length_nil, List.mem_cons, List.not_mem_nil, or_false, true_or, or_true, true_and, and_true, and_self, not_true_eq_false, not_false_eq_true, eq_self, ne_eq, nar_b0, nar_b1, nar_bb, nar_cc, cmpL_lt, cmpL_gt, cmpL_eq, Nat.reduceAdd, Nat.reduceSub, Nat.reduceEqDiff, Nat.reduceLeDiff, Nat.zero_le, Nat.le_refl, Int32.reduceLT, Int32.reduceLE, Int32.reduceAdd, Int32.reduceSub, Int32.reduceMul, Int32.reduceToNatClampNeg, Int32.reduceOfNat, Int32.reduceOfInt, Int64.reduceLT, Int64.reduceAdd, Int64.reduceSub, Int64.reduceMul, i32_nl, i32_ng, i64_nl, i64_ng, String.reduceEq, reduceCtorEq, room_c, room_s, R2_c, R2_s, q1, ↓idx_iv g0 g2, ↓setN_d, onat_nat g0, onat_succ, hx, pn, pl, ivs_set]
    exact is_self
theorem loop3 (k2 : Cel) (suf : List Int32) : ∀ (pre : List Int32) (vs : List Int32) (n : Nat) (s6 : Slot) (hs : s6 = .unset ∨ ∃ w, s6 = .val (.int w)) (hl : (pre ++ suf).length < 1000) (hn : n + 2 * suf.length + 2 ≤ vs.length) (hv : vs.length < 1000) (hb : ∀ x ∈ suf, nar .byte x = x),
    G3 l Z b (is (some (.int (Int32.ofNat (wr suf n vs).1))) [.inl (.byte, ivs (pre ++ suf)), .inl (.byte, ivs (wr suf n vs).2), k2]) 9 [.val (.ref (ad b.size 0)), .val (.ref (ad b.size 1)), .val (.int (Int32.ofNat n)), .val (.ref (ad b.size 0)), .val (.int (Int32.ofNat (pre ++ suf).length)), .val (.int (Int32.ofNat pre.length)), s6] [] [.inl (.byte, ivs (pre ++ suf)), .inl (.byte, ivs vs), k2] 0 0 := by
  induction suf with
  | nil =>
    intro pre vs n s6 hs hl hn hv hb
    rw [List.append_nil] at *
    have g0 : n < 2147483648 := by omega
    have g1 : n + 1 < 2147483648 := by omega
    have g2 : n < vs.length := by omega
    have g3 : n + 1 < (vs.set n 0).length := by rw [List.length_set]; omega
    refine e3_9 60 ?_
    have h1 : (Int32.ofNat pre.length < Int32.ofNat pre.length) = False := by rw [onat_lt (by omega) (by omega)]; simp
    simp only [↓z3, ↓s3_0, ↓s3_1, ↓s3_2, ↓s3_3, ↓s3_4, ↓s3_6, ↓s3_7, ↓s3_9, ↓s3_11, ↓s3_13, ↓s3_16, ↓s3_17, ↓s3_19, ↓s3_20, ↓s3_22, ↓s3_23, ↓s3_24, ↓s3_27, ↓s3_29, ↓s3_30, ↓s3_32, ↓s3_35, ↓s3_36, ↓s3_37, ↓s3_40, ↓s3_41, ↓s3_42, ↓s3_45, ↓s3_48, ↓s3_49, ↓s3_50, ↓s3_53, ↓s3_54, ↓s3_55, ↓s3_56, ↓s3_57, ↓s3_60, ↓s3_61, ↓s3_62, ↓s3_63, ↓popI_c, ↓popJ_c, ↓popR_c, ↓pop1_i, ↓pop1_r, ↓pop1_n, ↓popA_r, ↓popA_n, ↓ldI_z, ↓ldJ_z, ↓ldA_z, ↓ldA_n, ↓ldI_s, ↓ldJ_s, ↓ldA_s, ↓sto1_u, ↓sto1_i, ↓sto1_r, ↓sto1_n, ↓sto1_s, ↓sto2_u, ↓sto2_l, ↓sto2_s, ↓arr_c, ↓arrI_z, ↓arrI_s, ↓obj_c, ↓objI_z, ↓objI_s, ↓idxN_c, ↓setL_z, ↓setL_s, ↓setH_z, ↓setH_s, ↓snoc_z, ↓snoc_s, ↓onLen_0, ↓onLen_1, ↓onLen_2, ↓onLen_3, ↓onLen_4, ↓repN_c, ↓onSome_c, ↓fgt_c, ↓fst_n, ↓fst_c, ↓reduceIte, List.length_cons, List.length_nil, List.mem_cons, List.not_mem_nil, or_false, true_or, or_true, true_and, and_true, and_self, not_true_eq_false, not_false_eq_true, eq_self, ne_eq, nar_b0, nar_b1, nar_bb, nar_cc, cmpL_lt, cmpL_gt, cmpL_eq, Nat.reduceAdd, Nat.reduceSub, Nat.reduceEqDiff, Nat.reduceLeDiff, Nat.zero_le, Nat.le_refl, Int32.reduceLT, Int32.reduceLE, Int32.reduceAdd, Int32.reduceSub, Int32.reduceMul, Int32.reduceToNatClampNeg, Int32.reduceOfNat, Int32.reduceOfInt, Int64.reduceLT, Int64.reduceAdd, Int64.reduceSub, Int64.reduceMul, i32_nl, i32_ng, i64_nl, i64_ng, String.reduceEq, reduceCtorEq, room_c, room_s, R2_c, R2_s, h1, ↓idx_iv g0 g2, ↓setN_d, onat_nat g0, onat_succ, onat_nat g1, n0, n1, ivs_set, ↓idx_iv g1 g3, wr]
    exact is_self
  | cons x suf ih =>
    intro pre vs n s6 hs hl hn hv hb
    have hl' : pre.length + suf.length + 1 < 1000 := by simpa [Nat.add_assoc] using hl
    have hn' : n + 2 * suf.length + 4 ≤ vs.length := by simp only [List.length_cons] at hn; omega
    have e1 : pre ++ x :: suf = (pre ++ [x]) ++ suf := by simp
    have e2 : Int32.ofNat pre.length + 1 = Int32.ofNat (pre ++ [x]).length := by rw [onat_succ]; simp
    have h1 : (Int32.ofNat pre.length < Int32.ofNat (pre ++ x :: suf).length) = True := by rw [onat_lt (by omega) (by omega)]; simp
    have h3 : pre.length < 2147483648 := by omega
    have g0 : n < 2147483648 := by omega
    have g1 : n + 1 < 2147483648 := by omega
    have g2 : n < vs.length := by omega
    have hx : nar .byte x = x := hb x (List.mem_cons_self ..)
    have key := ih (pre ++ [x]) (pl vs n x) (pn n x) (.val (.int x)) (Or.inr ⟨_, rfl⟩) (by rw [← e1]; exact hl) (by rw [pl_len]; have := pn_le n x; omega) (by rw [pl_len]; exact hv) (fun y hy => hb y (List.mem_cons_of_mem _ hy))
    rw [← e1, ← e2] at key
    refine e3_9 60 ?_
    by_cases q : x = 0
    · subst q
      have g3 : n + 1 < (vs.set n 0).length := by rw [List.length_set]; omega
      have k1 : pn n 0 = n + 2 := if_pos rfl
      have k2 : pl vs n 0 = (vs.set n 0).set (n + 1) (-1) := if_pos rfl
      rw [k1, k2] at key
      have onat3 : Int32.ofNat n + 1 + 1 = Int32.ofNat (n + 2) := by rw [onat_succ, onat_succ]
      rcases hs with rfl | ⟨w, rfl⟩ <;> simp only [↓z3, ↓s3_0, ↓s3_1, ↓s3_2, ↓s3_3, ↓s3_4, ↓s3_6, ↓s3_7, ↓s3_9, ↓s3_11, ↓s3_13, ↓s3_16, ↓s3_17, ↓s3_19, ↓s3_20, ↓s3_22, ↓s3_23, ↓s3_24, ↓s3_27, ↓s3_29, ↓s3_30, ↓s3_32, ↓s3_35, ↓s3_36, ↓s3_37, ↓s3_40, ↓s3_41, ↓s3_42, ↓s3_45, ↓s3_48, ↓s3_49, ↓s3_50, ↓s3_53, ↓s3_54, ↓s3_55, ↓s3_56, ↓s3_57, ↓s3_60, ↓s3_61, ↓s3_62, ↓s3_63, ↓popI_c, ↓popJ_c, ↓popR_c, ↓pop1_i, ↓pop1_r, ↓pop1_n, ↓popA_r, ↓popA_n, ↓ldI_z, ↓ldJ_z, ↓ldA_z, ↓ldA_n, ↓ldI_s, ↓ldJ_s, ↓ldA_s, ↓sto1_u, ↓sto1_i, ↓sto1_r, ↓sto1_n, ↓sto1_s, ↓sto2_u, ↓sto2_l, ↓sto2_s, ↓arr_c, ↓arrI_z, ↓arrI_s, ↓obj_c, ↓objI_z, ↓objI_s, ↓idxN_c, ↓setL_z, ↓setL_s, ↓setH_z, ↓setH_s, ↓snoc_z, ↓snoc_s, ↓onLen_0, ↓onLen_1, ↓onLen_2, ↓onLen_3, ↓onLen_4, ↓repN_c, ↓onSome_c, ↓fgt_c, ↓fst_n, ↓fst_c, ↓reduceIte, List.length_cons, List.length_nil, List.mem_cons, List.not_mem_nil, or_false, true_or, or_true, true_and, and_true, and_self, not_true_eq_false, not_false_eq_true, eq_self, ne_eq, nar_b0, nar_b1, nar_bb, nar_cc, cmpL_lt, cmpL_gt, cmpL_eq, Nat.reduceAdd, Nat.reduceSub, Nat.reduceEqDiff, Nat.reduceLeDiff, Nat.zero_le, Nat.le_refl, Int32.reduceLT, Int32.reduceLE, Int32.reduceAdd, Int32.reduceSub, Int32.reduceMul, Int32.reduceToNatClampNeg, Int32.reduceOfNat, Int32.reduceOfInt, Int64.reduceLT, Int64.reduceAdd, Int64.reduceSub, Int64.reduceMul, i32_nl, i32_ng, i64_nl, i64_ng, String.reduceEq, reduceCtorEq, room_c, room_s, R2_c, R2_s, h1, ↓idx_at h3, ↓idx_iv g0 g2, ↓setN_d, onat_nat g0, onat_succ n, onat_succ (n + 1), onat_nat g1, n0, nm1, ivs_set, ↓idx_iv g1 g3, wr, k1, k2] <;> exact key
    · have k1 : pn n x = n + 1 := if_neg q
      have k2 : pl vs n x = vs.set n x := if_neg q
      rw [k1, k2] at key
      rcases hs with rfl | ⟨w, rfl⟩ <;> simp only [↓z3, ↓s3_0, ↓s3_1, ↓s3_2, ↓s3_3, ↓s3_4, ↓s3_6, ↓s3_7, ↓s3_9, ↓s3_11, ↓s3_13, ↓s3_16, ↓s3_17, ↓s3_19, ↓s3_20, ↓s3_22, ↓s3_23, ↓s3_24, ↓s3_27, ↓s3_29, ↓s3_30, ↓s3_32, ↓s3_35, ↓s3_36, ↓s3_37, ↓s3_40, ↓s3_41, ↓s3_42, ↓s3_45, ↓s3_48, ↓s3_49, ↓s3_50, ↓s3_53, ↓s3_54, ↓s3_55, ↓s3_56, ↓s3_57, ↓s3_60, ↓s3_61, ↓s3_62, ↓s3_63, ↓popI_c, ↓popJ_c, ↓popR_c, ↓pop1_i, ↓pop1_r, ↓pop1_n, ↓popA_r, ↓popA_n, ↓ldI_z, ↓ldJ_z, ↓ldA_z, ↓ldA_n, ↓ldI_s, ↓ldJ_s, ↓ldA_s, ↓sto1_u, ↓sto1_i, ↓sto1_r, ↓sto1_n, ↓sto1_s, ↓sto2_u, ↓sto2_l, ↓sto2_s, ↓arr_c, ↓arrI_z, ↓arrI_s, ↓obj_c, ↓objI_z, ↓objI_s, ↓idxN_c, ↓setL_z, ↓setL_s, ↓setH_z, ↓setH_s, ↓snoc_z, ↓snoc_s, ↓onLen_0, ↓onLen_1, ↓onLen_2, ↓onLen_3, ↓onLen_4, ↓repN_c, ↓onSome_c, ↓fgt_c, ↓fst_n, ↓fst_c, ↓reduceIte, List.length_cons, List.length_nil, List.mem_cons, List.not_mem_nil, or_false, true_or, or_true, true_and, and_true, and_self, not_true_eq_false, not_false_eq_true, eq_self, ne_eq, nar_b0, nar_b1, nar_bb, nar_cc, cmpL_lt, cmpL_gt, cmpL_eq, Nat.reduceAdd, Nat.reduceSub, Nat.reduceEqDiff, Nat.reduceLeDiff, Nat.zero_le, Nat.le_refl, Int32.reduceLT, Int32.reduceLE, Int32.reduceAdd, Int32.reduceSub, Int32.reduceMul, Int32.reduceToNatClampNeg, Int32.reduceOfNat, Int32.reduceOfInt, Int64.reduceLT, Int64.reduceAdd, Int64.reduceSub, Int64.reduceMul, i32_nl, i32_ng, i64_nl, i64_ng, String.reduceEq, reduceCtorEq, room_c, room_s, R2_c, R2_s, h1, ↓idx_at h3, ↓idx_iv g0 g2, ↓setN_d, onat_nat g0, onat_succ n, hx, q, ivs_set, wr, k1, k2] <;> exact key
theorem con3 (k2 : Cel) (xs vs : List Int32) (n : Nat) (hl : xs.length < 1000) (hn : n + 2 * xs.length + 2 ≤ vs.length) (hv : vs.length < 1000) (hb : ∀ x ∈ xs, nar .byte x = x) :
    Con tables_1 l Z b y3 prog_19_method_3_code 7 (some .int) R3 [.ref (ad b.size 0), .ref (ad b.size 1), .int (Int32.ofNat n)] [.inl (.byte, ivs xs), .inl (.byte, ivs vs), k2] (is (some (.int (Int32.ofNat (wr xs n vs).1))) [.inl (.byte, ivs xs), .inl (.byte, ivs (wr xs n vs).2), k2]) := by
  refine c3 _ _ _ (r3 40 ?_)
  simp only [↓z3, ↓s3_0, ↓s3_1, ↓s3_2, ↓s3_3, ↓s3_4, ↓s3_6, ↓s3_7, ↓s3_9, ↓s3_11, ↓s3_13, ↓s3_16, ↓s3_17, ↓s3_19, ↓s3_20, ↓s3_22, ↓s3_23, ↓s3_24, ↓s3_27, ↓s3_29, ↓s3_30, ↓s3_32, ↓s3_35, ↓s3_36, ↓s3_37, ↓s3_40, ↓s3_41, ↓s3_42, ↓s3_45, ↓s3_48, ↓s3_49, ↓s3_50, ↓s3_53, ↓s3_54, ↓s3_55, ↓s3_56, ↓s3_57, ↓s3_60, ↓s3_61, ↓s3_62, ↓s3_63, ↓popI_c, ↓popJ_c, ↓popR_c, ↓pop1_i, ↓pop1_r, ↓pop1_n, ↓popA_r, ↓popA_n, ↓ldI_z, ↓ldJ_z, ↓ldA_z, ↓ldA_n, ↓ldI_s, ↓ldJ_s, ↓ldA_s, ↓sto1_u, ↓sto1_i, ↓sto1_r, ↓sto1_n, ↓sto1_s, ↓sto2_u, ↓sto2_l, ↓sto2_s, ↓arr_c, ↓arrI_z, ↓arrI_s, ↓obj_c, ↓objI_z, ↓objI_s, ↓idx_c, ↓idxN_c, ↓setN_c, ↓setL_z, ↓setL_s, ↓setH_z, ↓setH_s, ↓snoc_z, ↓snoc_s, ↓onLen_0, ↓onLen_1, ↓onLen_2, ↓onLen_3, ↓onLen_4, ↓repN_c, ↓onSome_c, ↓fgt_c, ↓fst_n, ↓fst_c, ↓reduceIte, List.length_cons, List.length_nil, List.mem_cons, List.not_mem_nil, or_false, true_or, or_true, true_and, and_true, and_self, not_true_eq_false, not_false_eq_true, eq_self, ne_eq, nar_b0, nar_b1, nar_bb, nar_cc, cmpL_lt, cmpL_gt, cmpL_eq, Nat.reduceAdd, Nat.reduceSub, Nat.reduceEqDiff, Nat.reduceLeDiff, Nat.zero_le, Nat.le_refl, Int32.reduceLT, Int32.reduceLE, Int32.reduceAdd, Int32.reduceSub, Int32.reduceMul, Int32.reduceToNatClampNeg, Int32.reduceOfNat, Int32.reduceOfInt, Int64.reduceLT, Int64.reduceAdd, Int64.reduceSub, Int64.reduceMul, i32_nl, i32_ng, i64_nl, i64_ng, String.reduceEq, reduceCtorEq, room_c, room_s, R2_c, R2_s, ivs_len]
  exact loop3 k2 xs [] vs n _ (Or.inl rfl) hl hn hv hb
theorem con4 (c0 : Cel) (vs : List Int32) (h : vs.length = 12) : Con tables_1 l Z b y4 method_6_code 2 (some .boolean) R4 [.ref (ad b.size 1), .ref (ad b.size 2)] [c0, .inl (.byte, ivs vs), .inl (.byte, ivs vs)] (is (some (.int 1)) [c0, .inl (.byte, ivs vs), .inl (.byte, ivs vs)]) := by
  match vs, h with
  | [v0, v1, v2, v3, v4, v5, v6, v7, v8, v9, v10, v11], _ =>
    refine c4 _ _ (r4 200 ?_)
    simp only [ivs_c, ivs_n, ↓z4, ↓s4_0, ↓s4_1, ↓s4_2, ↓s4_3, ↓s4_4, ↓s4_5, ↓s4_6, ↓s4_9, ↓s4_10, ↓s4_11, ↓s4_12, ↓s4_13, ↓s4_14, ↓s4_15, ↓s4_18, ↓s4_19, ↓s4_20, ↓s4_21, ↓s4_22, ↓s4_23, ↓s4_24, ↓s4_27, ↓s4_28, ↓s4_29, ↓s4_30, ↓s4_31, ↓s4_32, ↓s4_33, ↓s4_36, ↓s4_37, ↓s4_38, ↓s4_39, ↓s4_40, ↓s4_41, ↓s4_42, ↓s4_45, ↓s4_46, ↓s4_47, ↓s4_48, ↓s4_49, ↓s4_50, ↓s4_51, ↓s4_54, ↓s4_55, ↓s4_57, ↓s4_58, ↓s4_59, ↓s4_61, ↓s4_62, ↓s4_65, ↓s4_66, ↓s4_68, ↓s4_69, ↓s4_70, ↓s4_72, ↓s4_73, ↓s4_76, ↓s4_77, ↓s4_79, ↓s4_80, ↓s4_81, ↓s4_83, ↓s4_84, ↓s4_87, ↓s4_88, ↓s4_90, ↓s4_91, ↓s4_92, ↓s4_94, ↓s4_95, ↓s4_98, ↓s4_99, ↓s4_101, ↓s4_102, ↓s4_103, ↓s4_105, ↓s4_106, ↓s4_109, ↓s4_110, ↓s4_112, ↓s4_113, ↓s4_114, ↓s4_116, ↓s4_117, ↓s4_120, ↓s4_121, ↓s4_124, ↓s4_125, ↓popI_c, ↓popJ_c, ↓popR_c, ↓pop1_i, ↓pop1_r, ↓pop1_n, ↓popA_r, ↓popA_n, ↓ldI_z, ↓ldJ_z, ↓ldA_z, ↓ldA_n, ↓ldI_s, ↓ldJ_s, ↓ldA_s, ↓sto1_u, ↓sto1_i, ↓sto1_r, ↓sto1_n, ↓sto1_s, ↓sto2_u, ↓sto2_l, ↓sto2_s, ↓arr_c, ↓arrI_z, ↓arrI_s, ↓obj_c, ↓objI_z, ↓objI_s, ↓idx_c, ↓idxN_c, ↓setN_c, ↓setL_z, ↓setL_s, ↓setH_z, ↓setH_s, ↓snoc_z, ↓snoc_s, ↓onLen_0, ↓onLen_1, ↓onLen_2, ↓onLen_3, ↓onLen_4, ↓repN_c, ↓onSome_c, ↓fgt_c, ↓fst_n, ↓fst_c, ↓reduceIte, List.length_cons, List.length_nil, List.mem_cons, List.not_mem_nil, or_false, true_or, or_true, true_and, and_true, and_self, not_true_eq_false, not_false_eq_true, eq_self, ne_eq, nar_b0, nar_b1, nar_bb, nar_cc, cmpL_lt, cmpL_gt, cmpL_eq, Nat.reduceAdd, Nat.reduceSub, Nat.reduceEqDiff, Nat.reduceLeDiff, Nat.zero_le, Nat.le_refl, Int32.reduceLT, Int32.reduceLE, Int32.reduceAdd, Int32.reduceSub, Int32.reduceMul, Int32.reduceToNatClampNeg, Int32.reduceOfNat, Int32.reduceOfInt, Int64.reduceLT, Int64.reduceAdd, Int64.reduceSub, Int64.reduceMul, i32_nl, i32_ng, i64_nl, i64_ng, String.reduceEq, reduceCtorEq, room_c, room_s, R2_c, R2_s]
    exact is_self
theorem st34_0 (i0 i1 i2 i3 i4 i5 f b0 b1 b2 : Int32) (a : Nat) (ha : a < 4) (hf : nar .byte f = f) (h0 : nar .byte b0 = b0) (h1 : nar .byte b1 = b1) (h2 : nar .byte b2 = b2) :
    G0 l Z b (fun v _ => v = some (.int 1)) 34 [.val (.int i0), .val (.int i1), .val (.int i2), .val (.int i3), .val (.int i4), .val (.int i5), .val (.int 0), .val (.int (Int32.ofNat a)), .val (.int f), .val (.int b0), .val (.int b1), .val (.int b2), .unset, .unset, .unset, .unset, .unset] [] [] 0 0 := by
  refine e0_34 100 ?_
  simp only [↓z0, ↓s0_0, ↓s0_1, ↓s0_2, ↓s0_3, ↓s0_5, ↓s0_7, ↓s0_8, ↓s0_9, ↓s0_11, ↓s0_13, ↓s0_14, ↓s0_16, ↓s0_17, ↓s0_20, ↓s0_22, ↓s0_23, ↓s0_26, ↓s0_28, ↓s0_29, ↓s0_32, ↓s0_34, ↓s0_36, ↓s0_39, ↓s0_40, ↓s0_42, ↓s0_44, ↓s0_47, ↓s0_49, ↓s0_50, ↓s0_53, ↓s0_54, ↓s0_56, ↓s0_57, ↓s0_58, ↓s0_60, ↓s0_61, ↓s0_63, ↓s0_66, ↓s0_68, ↓s0_69, ↓s0_72, ↓s0_73, ↓s0_75, ↓s0_76, ↓s0_77, ↓s0_79, ↓s0_80, ↓s0_81, ↓s0_82, ↓s0_84, ↓s0_85, ↓s0_87, ↓s0_90, ↓s0_91, ↓s0_93, ↓s0_94, ↓s0_95, ↓s0_97, ↓s0_98, ↓s0_99, ↓s0_100, ↓s0_102, ↓s0_103, ↓s0_104, ↓s0_105, ↓s0_107, ↓s0_108, ↓s0_110, ↓s0_112, ↓s0_115, ↓s0_117, ↓s0_119, ↓s0_122, ↓s0_124, ↓s0_126, ↓s0_128, ↓s0_130, ↓s0_133, ↓s0_135, ↓s0_137, ↓s0_139, ↓s0_142, ↓s0_144, ↓s0_146, ↓s0_147, ↓s0_150, ↓s0_152, ↓s0_154, ↓s0_156, ↓s0_159, ↓s0_161, ↓s0_163, ↓s0_164, ↓s0_167, ↓s0_169, ↓s0_171, ↓s0_173, ↓s0_176, ↓s0_178, ↓s0_180, ↓s0_182, ↓s0_183, ↓s0_184, ↓s0_186, ↓s0_188, ↓s0_189, ↓s0_190, ↓s0_191, ↓s0_192, ↓s0_194, ↓s0_195, ↓s0_196, ↓s0_198, ↓s0_200, ↓s0_202, ↓s0_204, ↓s0_207, ↓s0_209, ↓s0_211, ↓s0_213, ↓s0_216, ↓s0_218, ↓s0_220, ↓s0_223, ↓s0_226, ↓s0_227, ↓s0_230, ↓s0_231, ↓popI_c, ↓popJ_c, ↓popR_c, ↓pop1_i, ↓pop1_r, ↓pop1_n, ↓popA_r, ↓popA_n, ↓ldI_z, ↓ldJ_z, ↓ldA_z, ↓ldA_n, ↓ldI_s, ↓ldJ_s, ↓ldA_s, ↓sto1_u, ↓sto1_i, ↓sto1_r, ↓sto1_n, ↓sto1_s, ↓sto2_u, ↓sto2_l, ↓sto2_s, ↓arr_c, ↓arrI_z, ↓arrI_s, ↓obj_c, ↓objI_z, ↓objI_s, ↓idx_c, ↓idxN_c, ↓setN_c, ↓setL_z, ↓setL_s, ↓setH_z, ↓setH_s, ↓snoc_z, ↓snoc_s, ↓onLen_0, ↓onLen_1, ↓onLen_2, ↓onLen_3, ↓onLen_4, ↓repN_c, ↓onSome_c, ↓fgt_c, ↓fst_n, ↓fst_c, ↓reduceIte, List.length_cons, List.length_nil, List.mem_cons, List.not_mem_nil, or_false, true_or, or_true, true_and, and_true, and_self, not_true_eq_false, not_false_eq_true, eq_self, ne_eq, nar_b0, nar_b1, nar_bb, nar_cc, cmpL_lt, cmpL_gt, cmpL_eq, Nat.reduceAdd, Nat.reduceSub, Nat.reduceEqDiff, Nat.reduceLeDiff, Nat.zero_le, Nat.le_refl, Int32.reduceLT, Int32.reduceLE, Int32.reduceAdd, Int32.reduceSub, Int32.reduceMul, Int32.reduceToNatClampNeg, Int32.reduceOfNat, Int32.reduceOfInt, Int64.reduceLT, Int64.reduceAdd, Int64.reduceSub, Int64.reduceMul, i32_nl, i32_ng, i64_nl, i64_ng, String.reduceEq, reduceCtorEq, room_c, room_s, R2_c, R2_s, h0, h1, h2]
  refine kf0_112 (con2a _ _ hf) (r0 100 ?_)
  simp only [↓z0, ↓s0_0, ↓s0_1, ↓s0_2, ↓s0_3, ↓s0_5, ↓s0_7, ↓s0_8, ↓s0_9, ↓s0_11, ↓s0_13, ↓s0_14, ↓s0_16, ↓s0_17, ↓s0_20, ↓s0_22, ↓s0_23, ↓s0_26, ↓s0_28, ↓s0_29, ↓s0_32, ↓s0_34, ↓s0_36, ↓s0_39, ↓s0_40, ↓s0_42, ↓s0_44, ↓s0_47, ↓s0_49, ↓s0_50, ↓s0_53, ↓s0_54, ↓s0_56, ↓s0_57, ↓s0_58, ↓s0_60, ↓s0_61, ↓s0_63, ↓s0_66, ↓s0_68, ↓s0_69, ↓s0_72, ↓s0_73, ↓s0_75, ↓s0_76, ↓s0_77, ↓s0_79, ↓s0_80, ↓s0_81, ↓s0_82, ↓s0_84, ↓s0_85, ↓s0_87, ↓s0_90, ↓s0_91, ↓s0_93, ↓s0_94, ↓s0_95, ↓s0_97, ↓s0_98, ↓s0_99, ↓s0_100, ↓s0_102, ↓s0_103, ↓s0_104, ↓s0_105, ↓s0_107, ↓s0_108, ↓s0_110, ↓s0_112, ↓s0_115, ↓s0_117, ↓s0_119, ↓s0_122, ↓s0_124, ↓s0_126, ↓s0_128, ↓s0_130, ↓s0_133, ↓s0_135, ↓s0_137, ↓s0_139, ↓s0_142, ↓s0_144, ↓s0_146, ↓s0_147, ↓s0_150, ↓s0_152, ↓s0_154, ↓s0_156, ↓s0_159, ↓s0_161, ↓s0_163, ↓s0_164, ↓s0_167, ↓s0_169, ↓s0_171, ↓s0_173, ↓s0_176, ↓s0_178, ↓s0_180, ↓s0_182, ↓s0_183, ↓s0_184, ↓s0_186, ↓s0_188, ↓s0_189, ↓s0_190, ↓s0_191, ↓s0_192, ↓s0_194, ↓s0_195, ↓s0_196, ↓s0_198, ↓s0_200, ↓s0_202, ↓s0_204, ↓s0_207, ↓s0_209, ↓s0_211, ↓s0_213, ↓s0_216, ↓s0_218, ↓s0_220, ↓s0_223, ↓s0_226, ↓s0_227, ↓s0_230, ↓s0_231, ↓popI_c, ↓popJ_c, ↓popR_c, ↓pop1_i, ↓pop1_r, ↓pop1_n, ↓popA_r, ↓popA_n, ↓ldI_z, ↓ldJ_z, ↓ldA_z, ↓ldA_n, ↓ldI_s, ↓ldJ_s, ↓ldA_s, ↓sto1_u, ↓sto1_i, ↓sto1_r, ↓sto1_n, ↓sto1_s, ↓sto2_u, ↓sto2_l, ↓sto2_s, ↓arr_c, ↓arrI_z, ↓arrI_s, ↓obj_c, ↓objI_z, ↓objI_s, ↓idx_c, ↓idxN_c, ↓setN_c, ↓setL_z, ↓setL_s, ↓setH_z, ↓setH_s, ↓snoc_z, ↓snoc_s, ↓onLen_0, ↓onLen_1, ↓onLen_2, ↓onLen_3, ↓onLen_4, ↓repN_c, ↓onSome_c, ↓fgt_c, ↓fst_n, ↓fst_c, ↓reduceIte, List.length_cons, List.length_nil, List.mem_cons, List.not_mem_nil, or_false, true_or, or_true, true_and, and_true, and_self, not_true_eq_false, not_false_eq_true, eq_self, ne_eq, nar_b0, nar_b1, nar_bb, nar_cc, cmpL_lt, cmpL_gt, cmpL_eq, Nat.reduceAdd, Nat.reduceSub, Nat.reduceEqDiff, Nat.reduceLeDiff, Nat.zero_le, Nat.le_refl, Int32.reduceLT, Int32.reduceLE, Int32.reduceAdd, Int32.reduceSub, Int32.reduceMul, Int32.reduceToNatClampNeg, Int32.reduceOfNat, Int32.reduceOfInt, Int64.reduceLT, Int64.reduceAdd, Int64.reduceSub, Int64.reduceMul, i32_nl, i32_ng, i64_nl, i64_ng, String.reduceEq, reduceCtorEq, room_c, room_s, R2_c, R2_s]
  refine kf0_119 (con2b _ _ _ hf) (r0 100 ?_)
  obtain ⟨E, hE⟩ : ∃ E : List Int32, E = [f, f, f, f, f, f, f, f, f, f, f, f] := ⟨_, rfl⟩
  have hlen : E.length = 12 := by rw [hE]; simp
  rw [← hE]
  have hw : wr [] a E = (a + 2, (E.set a 0).set (a + 1) 1) := rfl
  have g0 : a < 2147483648 := by omega
  have g1 : a + 1 < 2147483648 := by omega
  have g2 : a < E.length := by omega
  have g3 : a + 1 < (E.set a 0).length := by rw [List.length_set]; omega
  have g4 : ((E.set a 0).set (a + 1) 1).length = 12 := by rw [List.length_set, List.length_set]; exact hlen
  simp only [↓z0, ↓s0_0, ↓s0_1, ↓s0_2, ↓s0_3, ↓s0_5, ↓s0_7, ↓s0_8, ↓s0_9, ↓s0_11, ↓s0_13, ↓s0_14, ↓s0_16, ↓s0_17, ↓s0_20, ↓s0_22, ↓s0_23, ↓s0_26, ↓s0_28, ↓s0_29, ↓s0_32, ↓s0_34, ↓s0_36, ↓s0_39, ↓s0_40, ↓s0_42, ↓s0_44, ↓s0_47, ↓s0_49, ↓s0_50, ↓s0_53, ↓s0_54, ↓s0_56, ↓s0_57, ↓s0_58, ↓s0_60, ↓s0_61, ↓s0_63, ↓s0_66, ↓s0_68, ↓s0_69, ↓s0_72, ↓s0_73, ↓s0_75, ↓s0_76, ↓s0_77, ↓s0_79, ↓s0_80, ↓s0_81, ↓s0_82, ↓s0_84, ↓s0_85, ↓s0_87, ↓s0_90, ↓s0_91, ↓s0_93, ↓s0_94, ↓s0_95, ↓s0_97, ↓s0_98, ↓s0_99, ↓s0_100, ↓s0_102, ↓s0_103, ↓s0_104, ↓s0_105, ↓s0_107, ↓s0_108, ↓s0_110, ↓s0_112, ↓s0_115, ↓s0_117, ↓s0_119, ↓s0_122, ↓s0_124, ↓s0_126, ↓s0_128, ↓s0_130, ↓s0_133, ↓s0_135, ↓s0_137, ↓s0_139, ↓s0_142, ↓s0_144, ↓s0_146, ↓s0_147, ↓s0_150, ↓s0_152, ↓s0_154, ↓s0_156, ↓s0_159, ↓s0_161, ↓s0_163, ↓s0_164, ↓s0_167, ↓s0_169, ↓s0_171, ↓s0_173, ↓s0_176, ↓s0_178, ↓s0_180, ↓s0_182, ↓s0_183, ↓s0_184, ↓s0_186, ↓s0_188, ↓s0_189, ↓s0_190, ↓s0_191, ↓s0_192, ↓s0_194, ↓s0_195, ↓s0_196, ↓s0_198, ↓s0_200, ↓s0_202, ↓s0_204, ↓s0_207, ↓s0_209, ↓s0_211, ↓s0_213, ↓s0_216, ↓s0_218, ↓s0_220, ↓s0_223, ↓s0_226, ↓s0_227, ↓s0_230, ↓s0_231, ↓popI_c, ↓popJ_c, ↓popR_c, ↓pop1_i, ↓pop1_r, ↓pop1_n, ↓popA_r, ↓popA_n, ↓ldI_z, ↓ldJ_z, ↓ldA_z, ↓ldA_n, ↓ldI_s, ↓ldJ_s, ↓ldA_s, ↓sto1_u, ↓sto1_i, ↓sto1_r, ↓sto1_n, ↓sto1_s, ↓sto2_u, ↓sto2_l, ↓sto2_s, ↓arr_c, ↓arrI_z, ↓arrI_s, ↓obj_c, ↓objI_z, ↓objI_s, ↓idxN_c, ↓setL_z, ↓setL_s, ↓setH_z, ↓setH_s, ↓snoc_z, ↓snoc_s, ↓onLen_0, ↓onLen_1, ↓onLen_2, ↓onLen_3, ↓onLen_4, ↓repN_c, ↓onSome_c, ↓fgt_c, ↓fst_n, ↓fst_c, ↓reduceIte, List.length_cons, List.length_nil, List.mem_cons, List.not_mem_nil, or_false, true_or, or_true, true_and, and_true, and_self, not_true_eq_false, not_false_eq_true, eq_self, ne_eq, nar_b0, nar_b1, nar_bb, nar_cc, cmpL_lt, cmpL_gt, cmpL_eq, Nat.reduceAdd, Nat.reduceSub, Nat.reduceEqDiff, Nat.reduceLeDiff, Nat.zero_le, Nat.le_refl, Int32.reduceLT, Int32.reduceLE, Int32.reduceAdd, Int32.reduceSub, Int32.reduceMul, Int32.reduceToNatClampNeg, Int32.reduceOfNat, Int32.reduceOfInt, Int64.reduceLT, Int64.reduceAdd, Int64.reduceSub, Int64.reduceMul, i32_nl, i32_ng, i64_nl, i64_ng, String.reduceEq, reduceCtorEq, room_c, room_s, R2_c, R2_s, ↓idx_iv g0 g2, ↓setN_d, onat_nat g0, onat_succ, onat_2, onat_nat g1, n0, n1, ivs_set, ↓idx_iv g1 g3]
  refine kf0_204 (con3 _ [] E a (by simp) (by simp only [List.length_cons, List.length_nil]; omega) (by first | omega | simp) (by intro y hy; cases hy)) (r0 100 ?_)
  rw [hw]
  simp only [↓z0, ↓s0_0, ↓s0_1, ↓s0_2, ↓s0_3, ↓s0_5, ↓s0_7, ↓s0_8, ↓s0_9, ↓s0_11, ↓s0_13, ↓s0_14, ↓s0_16, ↓s0_17, ↓s0_20, ↓s0_22, ↓s0_23, ↓s0_26, ↓s0_28, ↓s0_29, ↓s0_32, ↓s0_34, ↓s0_36, ↓s0_39, ↓s0_40, ↓s0_42, ↓s0_44, ↓s0_47, ↓s0_49, ↓s0_50, ↓s0_53, ↓s0_54, ↓s0_56, ↓s0_57, ↓s0_58, ↓s0_60, ↓s0_61, ↓s0_63, ↓s0_66, ↓s0_68, ↓s0_69, ↓s0_72, ↓s0_73, ↓s0_75, ↓s0_76, ↓s0_77, ↓s0_79, ↓s0_80, ↓s0_81, ↓s0_82, ↓s0_84, ↓s0_85, ↓s0_87, ↓s0_90, ↓s0_91, ↓s0_93, ↓s0_94, ↓s0_95, ↓s0_97, ↓s0_98, ↓s0_99, ↓s0_100, ↓s0_102, ↓s0_103, ↓s0_104, ↓s0_105, ↓s0_107, ↓s0_108, ↓s0_110, ↓s0_112, ↓s0_115, ↓s0_117, ↓s0_119, ↓s0_122, ↓s0_124, ↓s0_126, ↓s0_128, ↓s0_130, ↓s0_133, ↓s0_135, ↓s0_137, ↓s0_139, ↓s0_142, ↓s0_144, ↓s0_146, ↓s0_147, ↓s0_150, ↓s0_152, ↓s0_154, ↓s0_156, ↓s0_159, ↓s0_161, ↓s0_163, ↓s0_164, ↓s0_167, ↓s0_169, ↓s0_171, ↓s0_173, ↓s0_176, ↓s0_178, ↓s0_180, ↓s0_182, ↓s0_183, ↓s0_184, ↓s0_186, ↓s0_188, ↓s0_189, ↓s0_190, ↓s0_191, ↓s0_192, ↓s0_194, ↓s0_195, ↓s0_196, ↓s0_198, ↓s0_200, ↓s0_202, ↓s0_204, ↓s0_207, ↓s0_209, ↓s0_211, ↓s0_213, ↓s0_216, ↓s0_218, ↓s0_220, ↓s0_223, ↓s0_226, ↓s0_227, ↓s0_230, ↓s0_231, ↓popI_c, ↓popJ_c, ↓popR_c, ↓pop1_i, ↓pop1_r, ↓pop1_n, ↓popA_r, ↓popA_n, ↓ldI_z, ↓ldJ_z, ↓ldA_z, ↓ldA_n, ↓ldI_s, ↓ldJ_s, ↓ldA_s, ↓sto1_u, ↓sto1_i, ↓sto1_r, ↓sto1_n, ↓sto1_s, ↓sto2_u, ↓sto2_l, ↓sto2_s, ↓arr_c, ↓arrI_z, ↓arrI_s, ↓obj_c, ↓objI_z, ↓objI_s, ↓idx_c, ↓idxN_c, ↓setN_c, ↓setL_z, ↓setL_s, ↓setH_z, ↓setH_s, ↓snoc_z, ↓snoc_s, ↓onLen_0, ↓onLen_1, ↓onLen_2, ↓onLen_3, ↓onLen_4, ↓repN_c, ↓onSome_c, ↓fgt_c, ↓fst_n, ↓fst_c, ↓reduceIte, List.length_cons, List.length_nil, List.mem_cons, List.not_mem_nil, or_false, true_or, or_true, true_and, and_true, and_self, not_true_eq_false, not_false_eq_true, eq_self, ne_eq, nar_b0, nar_b1, nar_bb, nar_cc, cmpL_lt, cmpL_gt, cmpL_eq, Nat.reduceAdd, Nat.reduceSub, Nat.reduceEqDiff, Nat.reduceLeDiff, Nat.zero_le, Nat.le_refl, Int32.reduceLT, Int32.reduceLE, Int32.reduceAdd, Int32.reduceSub, Int32.reduceMul, Int32.reduceToNatClampNeg, Int32.reduceOfNat, Int32.reduceOfInt, Int64.reduceLT, Int64.reduceAdd, Int64.reduceSub, Int64.reduceMul, i32_nl, i32_ng, i64_nl, i64_ng, String.reduceEq, reduceCtorEq, room_c, room_s, R2_c, R2_s]
  refine kf0_220 (con4 _ _ g4) (r0 100 ?_)
  simp only [↓z0, ↓s0_0, ↓s0_1, ↓s0_2, ↓s0_3, ↓s0_5, ↓s0_7, ↓s0_8, ↓s0_9, ↓s0_11, ↓s0_13, ↓s0_14, ↓s0_16, ↓s0_17, ↓s0_20, ↓s0_22, ↓s0_23, ↓s0_26, ↓s0_28, ↓s0_29, ↓s0_32, ↓s0_34, ↓s0_36, ↓s0_39, ↓s0_40, ↓s0_42, ↓s0_44, ↓s0_47, ↓s0_49, ↓s0_50, ↓s0_53, ↓s0_54, ↓s0_56, ↓s0_57, ↓s0_58, ↓s0_60, ↓s0_61, ↓s0_63, ↓s0_66, ↓s0_68, ↓s0_69, ↓s0_72, ↓s0_73, ↓s0_75, ↓s0_76, ↓s0_77, ↓s0_79, ↓s0_80, ↓s0_81, ↓s0_82, ↓s0_84, ↓s0_85, ↓s0_87, ↓s0_90, ↓s0_91, ↓s0_93, ↓s0_94, ↓s0_95, ↓s0_97, ↓s0_98, ↓s0_99, ↓s0_100, ↓s0_102, ↓s0_103, ↓s0_104, ↓s0_105, ↓s0_107, ↓s0_108, ↓s0_110, ↓s0_112, ↓s0_115, ↓s0_117, ↓s0_119, ↓s0_122, ↓s0_124, ↓s0_126, ↓s0_128, ↓s0_130, ↓s0_133, ↓s0_135, ↓s0_137, ↓s0_139, ↓s0_142, ↓s0_144, ↓s0_146, ↓s0_147, ↓s0_150, ↓s0_152, ↓s0_154, ↓s0_156, ↓s0_159, ↓s0_161, ↓s0_163, ↓s0_164, ↓s0_167, ↓s0_169, ↓s0_171, ↓s0_173, ↓s0_176, ↓s0_178, ↓s0_180, ↓s0_182, ↓s0_183, ↓s0_184, ↓s0_186, ↓s0_188, ↓s0_189, ↓s0_190, ↓s0_191, ↓s0_192, ↓s0_194, ↓s0_195, ↓s0_196, ↓s0_198, ↓s0_200, ↓s0_202, ↓s0_204, ↓s0_207, ↓s0_209, ↓s0_211, ↓s0_213, ↓s0_216, ↓s0_218, ↓s0_220, ↓s0_223, ↓s0_226, ↓s0_227, ↓s0_230, ↓s0_231, ↓popI_c, ↓popJ_c, ↓popR_c, ↓pop1_i, ↓pop1_r, ↓pop1_n, ↓popA_r, ↓popA_n, ↓ldI_z, ↓ldJ_z, ↓ldA_z, ↓ldA_n, ↓ldI_s, ↓ldJ_s, ↓ldA_s, ↓sto1_u, ↓sto1_i, ↓sto1_r, ↓sto1_n, ↓sto1_s, ↓sto2_u, ↓sto2_l, ↓sto2_s, ↓arr_c, ↓arrI_z, ↓arrI_s, ↓obj_c, ↓objI_z, ↓objI_s, ↓idx_c, ↓idxN_c, ↓setN_c, ↓setL_z, ↓setL_s, ↓setH_z, ↓setH_s, ↓snoc_z, ↓snoc_s, ↓onLen_0, ↓onLen_1, ↓onLen_2, ↓onLen_3, ↓onLen_4, ↓repN_c, ↓onSome_c, ↓fgt_c, ↓fst_n, ↓fst_c, ↓reduceIte, List.length_cons, List.length_nil, List.mem_cons, List.not_mem_nil, or_false, true_or, or_true, true_and, and_true, and_self, not_true_eq_false, not_false_eq_true, eq_self, ne_eq, nar_b0, nar_b1, nar_bb, nar_cc, cmpL_lt, cmpL_gt, cmpL_eq, Nat.reduceAdd, Nat.reduceSub, Nat.reduceEqDiff, Nat.reduceLeDiff, Nat.zero_le, Nat.le_refl, Int32.reduceLT, Int32.reduceLE, Int32.reduceAdd, Int32.reduceSub, Int32.reduceMul, Int32.reduceToNatClampNeg, Int32.reduceOfNat, Int32.reduceOfInt, Int64.reduceLT, Int64.reduceAdd, Int64.reduceSub, Int64.reduceMul, i32_nl, i32_ng, i64_nl, i64_ng, String.reduceEq, reduceCtorEq, room_c, room_s, R2_c, R2_s]
theorem st34_1 (i0 i1 i2 i3 i4 i5 f b0 b1 b2 : Int32) (a : Nat) (ha : a < 4) (hf : nar .byte f = f) (h0 : nar .byte b0 = b0) (h1 : nar .byte b1 = b1) (h2 : nar .byte b2 = b2) :
    G0 l Z b (fun v _ => v = some (.int 1)) 34 [.val (.int i0), .val (.int i1), .val (.int i2), .val (.int i3), .val (.int i4), .val (.int i5), .val (.int 1), .val (.int (Int32.ofNat a)), .val (.int f), .val (.int b0), .val (.int b1), .val (.int b2), .unset, .unset, .unset, .unset, .unset] [] [] 0 0 := by
  refine e0_34 100 ?_
  simp only [↓z0, ↓s0_0, ↓s0_1, ↓s0_2, ↓s0_3, ↓s0_5, ↓s0_7, ↓s0_8, ↓s0_9, ↓s0_11, ↓s0_13, ↓s0_14, ↓s0_16, ↓s0_17, ↓s0_20, ↓s0_22, ↓s0_23, ↓s0_26, ↓s0_28, ↓s0_29, ↓s0_32, ↓s0_34, ↓s0_36, ↓s0_39, ↓s0_40, ↓s0_42, ↓s0_44, ↓s0_47, ↓s0_49, ↓s0_50, ↓s0_53, ↓s0_54, ↓s0_56, ↓s0_57, ↓s0_58, ↓s0_60, ↓s0_61, ↓s0_63, ↓s0_66, ↓s0_68, ↓s0_69, ↓s0_72, ↓s0_73, ↓s0_75, ↓s0_76, ↓s0_77, ↓s0_79, ↓s0_80, ↓s0_81, ↓s0_82, ↓s0_84, ↓s0_85, ↓s0_87, ↓s0_90, ↓s0_91, ↓s0_93, ↓s0_94, ↓s0_95, ↓s0_97, ↓s0_98, ↓s0_99, ↓s0_100, ↓s0_102, ↓s0_103, ↓s0_104, ↓s0_105, ↓s0_107, ↓s0_108, ↓s0_110, ↓s0_112, ↓s0_115, ↓s0_117, ↓s0_119, ↓s0_122, ↓s0_124, ↓s0_126, ↓s0_128, ↓s0_130, ↓s0_133, ↓s0_135, ↓s0_137, ↓s0_139, ↓s0_142, ↓s0_144, ↓s0_146, ↓s0_147, ↓s0_150, ↓s0_152, ↓s0_154, ↓s0_156, ↓s0_159, ↓s0_161, ↓s0_163, ↓s0_164, ↓s0_167, ↓s0_169, ↓s0_171, ↓s0_173, ↓s0_176, ↓s0_178, ↓s0_180, ↓s0_182, ↓s0_183, ↓s0_184, ↓s0_186, ↓s0_188, ↓s0_189, ↓s0_190, ↓s0_191, ↓s0_192, ↓s0_194, ↓s0_195, ↓s0_196, ↓s0_198, ↓s0_200, ↓s0_202, ↓s0_204, ↓s0_207, ↓s0_209, ↓s0_211, ↓s0_213, ↓s0_216, ↓s0_218, ↓s0_220, ↓s0_223, ↓s0_226, ↓s0_227, ↓s0_230, ↓s0_231, ↓popI_c, ↓popJ_c, ↓popR_c, ↓pop1_i, ↓pop1_r, ↓pop1_n, ↓popA_r, ↓popA_n, ↓ldI_z, ↓ldJ_z, ↓ldA_z, ↓ldA_n, ↓ldI_s, ↓ldJ_s, ↓ldA_s, ↓sto1_u, ↓sto1_i, ↓sto1_r, ↓sto1_n, ↓sto1_s, ↓sto2_u, ↓sto2_l, ↓sto2_s, ↓arr_c, ↓arrI_z, ↓arrI_s, ↓obj_c, ↓objI_z, ↓objI_s, ↓idx_c, ↓idxN_c, ↓setN_c, ↓setL_z, ↓setL_s, ↓setH_z, ↓setH_s, ↓snoc_z, ↓snoc_s, ↓onLen_0, ↓onLen_1, ↓onLen_2, ↓onLen_3, ↓onLen_4, ↓repN_c, ↓onSome_c, ↓fgt_c, ↓fst_n, ↓fst_c, ↓reduceIte, List.length_cons, List.length_nil, List.mem_cons, List.not_mem_nil, or_false, true_or, or_true, true_and, and_true, and_self, not_true_eq_false, not_false_eq_true, eq_self, ne_eq, nar_b0, nar_b1, nar_bb, nar_cc, cmpL_lt, cmpL_gt, cmpL_eq, Nat.reduceAdd, Nat.reduceSub, Nat.reduceEqDiff, Nat.reduceLeDiff, Nat.zero_le, Nat.le_refl, Int32.reduceLT, Int32.reduceLE, Int32.reduceAdd, Int32.reduceSub, Int32.reduceMul, Int32.reduceToNatClampNeg, Int32.reduceOfNat, Int32.reduceOfInt, Int64.reduceLT, Int64.reduceAdd, Int64.reduceSub, Int64.reduceMul, i32_nl, i32_ng, i64_nl, i64_ng, String.reduceEq, reduceCtorEq, room_c, room_s, R2_c, R2_s, h0, h1, h2]
  refine kf0_112 (con2a _ _ hf) (r0 100 ?_)
  simp only [↓z0, ↓s0_0, ↓s0_1, ↓s0_2, ↓s0_3, ↓s0_5, ↓s0_7, ↓s0_8, ↓s0_9, ↓s0_11, ↓s0_13, ↓s0_14, ↓s0_16, ↓s0_17, ↓s0_20, ↓s0_22, ↓s0_23, ↓s0_26, ↓s0_28, ↓s0_29, ↓s0_32, ↓s0_34, ↓s0_36, ↓s0_39, ↓s0_40, ↓s0_42, ↓s0_44, ↓s0_47, ↓s0_49, ↓s0_50, ↓s0_53, ↓s0_54, ↓s0_56, ↓s0_57, ↓s0_58, ↓s0_60, ↓s0_61, ↓s0_63, ↓s0_66, ↓s0_68, ↓s0_69, ↓s0_72, ↓s0_73, ↓s0_75, ↓s0_76, ↓s0_77, ↓s0_79, ↓s0_80, ↓s0_81, ↓s0_82, ↓s0_84, ↓s0_85, ↓s0_87, ↓s0_90, ↓s0_91, ↓s0_93, ↓s0_94, ↓s0_95, ↓s0_97, ↓s0_98, ↓s0_99, ↓s0_100, ↓s0_102, ↓s0_103, ↓s0_104, ↓s0_105, ↓s0_107, ↓s0_108, ↓s0_110, ↓s0_112, ↓s0_115, ↓s0_117, ↓s0_119, ↓s0_122, ↓s0_124, ↓s0_126, ↓s0_128, ↓s0_130, ↓s0_133, ↓s0_135, ↓s0_137, ↓s0_139, ↓s0_142, ↓s0_144, ↓s0_146, ↓s0_147, ↓s0_150, ↓s0_152, ↓s0_154, ↓s0_156, ↓s0_159, ↓s0_161, ↓s0_163, ↓s0_164, ↓s0_167, ↓s0_169, ↓s0_171, ↓s0_173, ↓s0_176, ↓s0_178, ↓s0_180, ↓s0_182, ↓s0_183, ↓s0_184, ↓s0_186, ↓s0_188, ↓s0_189, ↓s0_190, ↓s0_191, ↓s0_192, ↓s0_194, ↓s0_195, ↓s0_196, ↓s0_198, ↓s0_200, ↓s0_202, ↓s0_204, ↓s0_207, ↓s0_209, ↓s0_211, ↓s0_213, ↓s0_216, ↓s0_218, ↓s0_220, ↓s0_223, ↓s0_226, ↓s0_227, ↓s0_230, ↓s0_231, ↓popI_c, ↓popJ_c, ↓popR_c, ↓pop1_i, ↓pop1_r, ↓pop1_n, ↓popA_r, ↓popA_n, ↓ldI_z, ↓ldJ_z, ↓ldA_z, ↓ldA_n, ↓ldI_s, ↓ldJ_s, ↓ldA_s, ↓sto1_u, ↓sto1_i, ↓sto1_r, ↓sto1_n, ↓sto1_s, ↓sto2_u, ↓sto2_l, ↓sto2_s, ↓arr_c, ↓arrI_z, ↓arrI_s, ↓obj_c, ↓objI_z, ↓objI_s, ↓idx_c, ↓idxN_c, ↓setN_c, ↓setL_z, ↓setL_s, ↓setH_z, ↓setH_s, ↓snoc_z, ↓snoc_s, ↓onLen_0, ↓onLen_1, ↓onLen_2, ↓onLen_3, ↓onLen_4, ↓repN_c, ↓onSome_c, ↓fgt_c, ↓fst_n, ↓fst_c, ↓reduceIte, List.length_cons, List.length_nil, List.mem_cons, List.not_mem_nil, or_false, true_or, or_true, true_and, and_true, and_self, not_true_eq_false, not_false_eq_true, eq_self, ne_eq, nar_b0, nar_b1, nar_bb, nar_cc, cmpL_lt, cmpL_gt, cmpL_eq, Nat.reduceAdd, Nat.reduceSub, Nat.reduceEqDiff, Nat.reduceLeDiff, Nat.zero_le, Nat.le_refl, Int32.reduceLT, Int32.reduceLE, Int32.reduceAdd, Int32.reduceSub, Int32.reduceMul, Int32.reduceToNatClampNeg, Int32.reduceOfNat, Int32.reduceOfInt, Int64.reduceLT, Int64.reduceAdd, Int64.reduceSub, Int64.reduceMul, i32_nl, i32_ng, i64_nl, i64_ng, String.reduceEq, reduceCtorEq, room_c, room_s, R2_c, R2_s]
  refine kf0_119 (con2b _ _ _ hf) (r0 100 ?_)
  simp only [↓z0, ↓s0_0, ↓s0_1, ↓s0_2, ↓s0_3, ↓s0_5, ↓s0_7, ↓s0_8, ↓s0_9, ↓s0_11, ↓s0_13, ↓s0_14, ↓s0_16, ↓s0_17, ↓s0_20, ↓s0_22, ↓s0_23, ↓s0_26, ↓s0_28, ↓s0_29, ↓s0_32, ↓s0_34, ↓s0_36, ↓s0_39, ↓s0_40, ↓s0_42, ↓s0_44, ↓s0_47, ↓s0_49, ↓s0_50, ↓s0_53, ↓s0_54, ↓s0_56, ↓s0_57, ↓s0_58, ↓s0_60, ↓s0_61, ↓s0_63, ↓s0_66, ↓s0_68, ↓s0_69, ↓s0_72, ↓s0_73, ↓s0_75, ↓s0_76, ↓s0_77, ↓s0_79, ↓s0_80, ↓s0_81, ↓s0_82, ↓s0_84, ↓s0_85, ↓s0_87, ↓s0_90, ↓s0_91, ↓s0_93, ↓s0_94, ↓s0_95, ↓s0_97, ↓s0_98, ↓s0_99, ↓s0_100, ↓s0_102, ↓s0_103, ↓s0_104, ↓s0_105, ↓s0_107, ↓s0_108, ↓s0_110, ↓s0_112, ↓s0_115, ↓s0_117, ↓s0_119, ↓s0_122, ↓s0_124, ↓s0_126, ↓s0_128, ↓s0_130, ↓s0_133, ↓s0_135, ↓s0_137, ↓s0_139, ↓s0_142, ↓s0_144, ↓s0_146, ↓s0_147, ↓s0_150, ↓s0_152, ↓s0_154, ↓s0_156, ↓s0_159, ↓s0_161, ↓s0_163, ↓s0_164, ↓s0_167, ↓s0_169, ↓s0_171, ↓s0_173, ↓s0_176, ↓s0_178, ↓s0_180, ↓s0_182, ↓s0_183, ↓s0_184, ↓s0_186, ↓s0_188, ↓s0_189, ↓s0_190, ↓s0_191, ↓s0_192, ↓s0_194, ↓s0_195, ↓s0_196, ↓s0_198, ↓s0_200, ↓s0_202, ↓s0_204, ↓s0_207, ↓s0_209, ↓s0_211, ↓s0_213, ↓s0_216, ↓s0_218, ↓s0_220, ↓s0_223, ↓s0_226, ↓s0_227, ↓s0_230, ↓s0_231, ↓popI_c, ↓popJ_c, ↓popR_c, ↓pop1_i, ↓pop1_r, ↓pop1_n, ↓popA_r, ↓popA_n, ↓ldI_z, ↓ldJ_z, ↓ldA_z, ↓ldA_n, ↓ldI_s, ↓ldJ_s, ↓ldA_s, ↓sto1_u, ↓sto1_i, ↓sto1_r, ↓sto1_n, ↓sto1_s, ↓sto2_u, ↓sto2_l, ↓sto2_s, ↓arr_c, ↓arrI_z, ↓arrI_s, ↓obj_c, ↓objI_z, ↓objI_s, ↓idx_c, ↓idxN_c, ↓setN_c, ↓setL_z, ↓setL_s, ↓setH_z, ↓setH_s, ↓snoc_z, ↓snoc_s, ↓onLen_0, ↓onLen_1, ↓onLen_2, ↓onLen_3, ↓onLen_4, ↓repN_c, ↓onSome_c, ↓fgt_c, ↓fst_n, ↓fst_c, ↓reduceIte, List.length_cons, List.length_nil, List.mem_cons, List.not_mem_nil, or_false, true_or, or_true, true_and, and_true, and_self, not_true_eq_false, not_false_eq_true, eq_self, ne_eq, nar_b0, nar_b1, nar_bb, nar_cc, cmpL_lt, cmpL_gt, cmpL_eq, Nat.reduceAdd, Nat.reduceSub, Nat.reduceEqDiff, Nat.reduceLeDiff, Nat.zero_le, Nat.le_refl, Int32.reduceLT, Int32.reduceLE, Int32.reduceAdd, Int32.reduceSub, Int32.reduceMul, Int32.reduceToNatClampNeg, Int32.reduceOfNat, Int32.reduceOfInt, Int64.reduceLT, Int64.reduceAdd, Int64.reduceSub, Int64.reduceMul, i32_nl, i32_ng, i64_nl, i64_ng, String.reduceEq, reduceCtorEq, room_c, room_s, R2_c, R2_s]
  have p0 := pn_le (a) b0
  refine kf0_139 (con5 _ _ ([f, f, f, f, f, f, f, f, f, f, f, f]) (a) b0 h0 (by simp only [pl_len, List.length_cons, List.length_nil]; omega) (by simp only [pl_len, List.length_cons, List.length_nil]; omega)) (r0 100 ?_)
  obtain ⟨P, hP⟩ : ∃ P, P = pn (a) b0 := ⟨_, rfl⟩
  obtain ⟨E, hE⟩ : ∃ E, E = pl ([f, f, f, f, f, f, f, f, f, f, f, f]) (a) b0 := ⟨_, rfl⟩
  have hlen : E.length = 12 := by rw [hE]; simp [pl_len]
  have hw : wr [b0] a [f, f, f, f, f, f, f, f, f, f, f, f] = (P + 2, (E.set P 0).set (P + 1) 1) := by rw [hP, hE]; rfl
  have hPb : P < 10 := by omega
  rw [← hP, ← hE]
  have g0 : P < 2147483648 := by omega
  have g1 : P + 1 < 2147483648 := by omega
  have g2 : P < E.length := by omega
  have g3 : P + 1 < (E.set P 0).length := by rw [List.length_set]; omega
  have g4 : ((E.set P 0).set (P + 1) 1).length = 12 := by rw [List.length_set, List.length_set]; exact hlen
  simp only [↓z0, ↓s0_0, ↓s0_1, ↓s0_2, ↓s0_3, ↓s0_5, ↓s0_7, ↓s0_8, ↓s0_9, ↓s0_11, ↓s0_13, ↓s0_14, ↓s0_16, ↓s0_17, ↓s0_20, ↓s0_22, ↓s0_23, ↓s0_26, ↓s0_28, ↓s0_29, ↓s0_32, ↓s0_34, ↓s0_36, ↓s0_39, ↓s0_40, ↓s0_42, ↓s0_44, ↓s0_47, ↓s0_49, ↓s0_50, ↓s0_53, ↓s0_54, ↓s0_56, ↓s0_57, ↓s0_58, ↓s0_60, ↓s0_61, ↓s0_63, ↓s0_66, ↓s0_68, ↓s0_69, ↓s0_72, ↓s0_73, ↓s0_75, ↓s0_76, ↓s0_77, ↓s0_79, ↓s0_80, ↓s0_81, ↓s0_82, ↓s0_84, ↓s0_85, ↓s0_87, ↓s0_90, ↓s0_91, ↓s0_93, ↓s0_94, ↓s0_95, ↓s0_97, ↓s0_98, ↓s0_99, ↓s0_100, ↓s0_102, ↓s0_103, ↓s0_104, ↓s0_105, ↓s0_107, ↓s0_108, ↓s0_110, ↓s0_112, ↓s0_115, ↓s0_117, ↓s0_119, ↓s0_122, ↓s0_124, ↓s0_126, ↓s0_128, ↓s0_130, ↓s0_133, ↓s0_135, ↓s0_137, ↓s0_139, ↓s0_142, ↓s0_144, ↓s0_146, ↓s0_147, ↓s0_150, ↓s0_152, ↓s0_154, ↓s0_156, ↓s0_159, ↓s0_161, ↓s0_163, ↓s0_164, ↓s0_167, ↓s0_169, ↓s0_171, ↓s0_173, ↓s0_176, ↓s0_178, ↓s0_180, ↓s0_182, ↓s0_183, ↓s0_184, ↓s0_186, ↓s0_188, ↓s0_189, ↓s0_190, ↓s0_191, ↓s0_192, ↓s0_194, ↓s0_195, ↓s0_196, ↓s0_198, ↓s0_200, ↓s0_202, ↓s0_204, ↓s0_207, ↓s0_209, ↓s0_211, ↓s0_213, ↓s0_216, ↓s0_218, ↓s0_220, ↓s0_223, ↓s0_226, ↓s0_227, ↓s0_230, ↓s0_231, ↓popI_c, ↓popJ_c, ↓popR_c, ↓pop1_i, ↓pop1_r, ↓pop1_n, ↓popA_r, ↓popA_n, ↓ldI_z, ↓ldJ_z, ↓ldA_z, ↓ldA_n, ↓ldI_s, ↓ldJ_s, ↓ldA_s, ↓sto1_u, ↓sto1_i, ↓sto1_r, ↓sto1_n, ↓sto1_s, ↓sto2_u, ↓sto2_l, ↓sto2_s, ↓arr_c, ↓arrI_z, ↓arrI_s, ↓obj_c, ↓objI_z, ↓objI_s, ↓idxN_c, ↓setL_z, ↓setL_s, ↓setH_z, ↓setH_s, ↓snoc_z, ↓snoc_s, ↓onLen_0, ↓onLen_1, ↓onLen_2, ↓onLen_3, ↓onLen_4, ↓repN_c, ↓onSome_c, ↓fgt_c, ↓fst_n, ↓fst_c, ↓reduceIte, List.length_cons, List.length_nil, List.mem_cons, List.not_mem_nil, or_false, true_or, or_true, true_and, and_true, and_self, not_true_eq_false, not_false_eq_true, eq_self, ne_eq, nar_b0, nar_b1, nar_bb, nar_cc, cmpL_lt, cmpL_gt, cmpL_eq, Nat.reduceAdd, Nat.reduceSub, Nat.reduceEqDiff, Nat.reduceLeDiff, Nat.zero_le, Nat.le_refl, Int32.reduceLT, Int32.reduceLE, Int32.reduceAdd, Int32.reduceSub, Int32.reduceMul, Int32.reduceToNatClampNeg, Int32.reduceOfNat, Int32.reduceOfInt, Int64.reduceLT, Int64.reduceAdd, Int64.reduceSub, Int64.reduceMul, i32_nl, i32_ng, i64_nl, i64_ng, String.reduceEq, reduceCtorEq, room_c, room_s, R2_c, R2_s, ↓idx_iv g0 g2, ↓setN_d, onat_nat g0, onat_succ, onat_2, onat_nat g1, n0, n1, ivs_set, ↓idx_iv g1 g3]
  refine kf0_204 (con3 _ [b0] [f, f, f, f, f, f, f, f, f, f, f, f] a (by simp) (by simp only [List.length_cons, List.length_nil]; omega) (by first | omega | simp) (by intro y hy; simp only [List.mem_cons, List.not_mem_nil, or_false] at hy; rcases hy with rfl <;> assumption)) (r0 100 ?_)
  rw [hw]
  simp only [↓z0, ↓s0_0, ↓s0_1, ↓s0_2, ↓s0_3, ↓s0_5, ↓s0_7, ↓s0_8, ↓s0_9, ↓s0_11, ↓s0_13, ↓s0_14, ↓s0_16, ↓s0_17, ↓s0_20, ↓s0_22, ↓s0_23, ↓s0_26, ↓s0_28, ↓s0_29, ↓s0_32, ↓s0_34, ↓s0_36, ↓s0_39, ↓s0_40, ↓s0_42, ↓s0_44, ↓s0_47, ↓s0_49, ↓s0_50, ↓s0_53, ↓s0_54, ↓s0_56, ↓s0_57, ↓s0_58, ↓s0_60, ↓s0_61, ↓s0_63, ↓s0_66, ↓s0_68, ↓s0_69, ↓s0_72, ↓s0_73, ↓s0_75, ↓s0_76, ↓s0_77, ↓s0_79, ↓s0_80, ↓s0_81, ↓s0_82, ↓s0_84, ↓s0_85, ↓s0_87, ↓s0_90, ↓s0_91, ↓s0_93, ↓s0_94, ↓s0_95, ↓s0_97, ↓s0_98, ↓s0_99, ↓s0_100, ↓s0_102, ↓s0_103, ↓s0_104, ↓s0_105, ↓s0_107, ↓s0_108, ↓s0_110, ↓s0_112, ↓s0_115, ↓s0_117, ↓s0_119, ↓s0_122, ↓s0_124, ↓s0_126, ↓s0_128, ↓s0_130, ↓s0_133, ↓s0_135, ↓s0_137, ↓s0_139, ↓s0_142, ↓s0_144, ↓s0_146, ↓s0_147, ↓s0_150, ↓s0_152, ↓s0_154, ↓s0_156, ↓s0_159, ↓s0_161, ↓s0_163, ↓s0_164, ↓s0_167, ↓s0_169, ↓s0_171, ↓s0_173, ↓s0_176, ↓s0_178, ↓s0_180, ↓s0_182, ↓s0_183, ↓s0_184, ↓s0_186, ↓s0_188, ↓s0_189, ↓s0_190, ↓s0_191, ↓s0_192, ↓s0_194, ↓s0_195, ↓s0_196, ↓s0_198, ↓s0_200, ↓s0_202, ↓s0_204, ↓s0_207, ↓s0_209, ↓s0_211, ↓s0_213, ↓s0_216, ↓s0_218, ↓s0_220, ↓s0_223, ↓s0_226, ↓s0_227, ↓s0_230, ↓s0_231, ↓popI_c, ↓popJ_c, ↓popR_c, ↓pop1_i, ↓pop1_r, ↓pop1_n, ↓popA_r, ↓popA_n, ↓ldI_z, ↓ldJ_z, ↓ldA_z, ↓ldA_n, ↓ldI_s, ↓ldJ_s, ↓ldA_s, ↓sto1_u, ↓sto1_i, ↓sto1_r, ↓sto1_n, ↓sto1_s, ↓sto2_u, ↓sto2_l, ↓sto2_s, ↓arr_c, ↓arrI_z, ↓arrI_s, ↓obj_c, ↓objI_z, ↓objI_s, ↓idx_c, ↓idxN_c, ↓setN_c, ↓setL_z, ↓setL_s, ↓setH_z, ↓setH_s, ↓snoc_z, ↓snoc_s, ↓onLen_0, ↓onLen_1, ↓onLen_2, ↓onLen_3, ↓onLen_4, ↓repN_c, ↓onSome_c, ↓fgt_c, ↓fst_n, ↓fst_c, ↓reduceIte, List.length_cons, List.length_nil, List.mem_cons, List.not_mem_nil, or_false, true_or, or_true, true_and, and_true, and_self, not_true_eq_false, not_false_eq_true, eq_self, ne_eq, nar_b0, nar_b1, nar_bb, nar_cc, cmpL_lt, cmpL_gt, cmpL_eq, Nat.reduceAdd, Nat.reduceSub, Nat.reduceEqDiff, Nat.reduceLeDiff, Nat.zero_le, Nat.le_refl, Int32.reduceLT, Int32.reduceLE, Int32.reduceAdd, Int32.reduceSub, Int32.reduceMul, Int32.reduceToNatClampNeg, Int32.reduceOfNat, Int32.reduceOfInt, Int64.reduceLT, Int64.reduceAdd, Int64.reduceSub, Int64.reduceMul, i32_nl, i32_ng, i64_nl, i64_ng, String.reduceEq, reduceCtorEq, room_c, room_s, R2_c, R2_s]
  refine kf0_220 (con4 _ _ g4) (r0 100 ?_)
  simp only [↓z0, ↓s0_0, ↓s0_1, ↓s0_2, ↓s0_3, ↓s0_5, ↓s0_7, ↓s0_8, ↓s0_9, ↓s0_11, ↓s0_13, ↓s0_14, ↓s0_16, ↓s0_17, ↓s0_20, ↓s0_22, ↓s0_23, ↓s0_26, ↓s0_28, ↓s0_29, ↓s0_32, ↓s0_34, ↓s0_36, ↓s0_39, ↓s0_40, ↓s0_42, ↓s0_44, ↓s0_47, ↓s0_49, ↓s0_50, ↓s0_53, ↓s0_54, ↓s0_56, ↓s0_57, ↓s0_58, ↓s0_60, ↓s0_61, ↓s0_63, ↓s0_66, ↓s0_68, ↓s0_69, ↓s0_72, ↓s0_73, ↓s0_75, ↓s0_76, ↓s0_77, ↓s0_79, ↓s0_80, ↓s0_81, ↓s0_82, ↓s0_84, ↓s0_85, ↓s0_87, ↓s0_90, ↓s0_91, ↓s0_93, ↓s0_94, ↓s0_95, ↓s0_97, ↓s0_98, ↓s0_99, ↓s0_100, ↓s0_102, ↓s0_103, ↓s0_104, ↓s0_105, ↓s0_107, ↓s0_108, ↓s0_110, ↓s0_112, ↓s0_115, ↓s0_117, ↓s0_119, ↓s0_122, ↓s0_124, ↓s0_126, ↓s0_128, ↓s0_130, ↓s0_133, ↓s0_135, ↓s0_137, ↓s0_139, ↓s0_142, ↓s0_144, ↓s0_146, ↓s0_147, ↓s0_150, ↓s0_152, ↓s0_154, ↓s0_156, ↓s0_159, ↓s0_161, ↓s0_163, ↓s0_164, ↓s0_167, ↓s0_169, ↓s0_171, ↓s0_173, ↓s0_176, ↓s0_178, ↓s0_180, ↓s0_182, ↓s0_183, ↓s0_184, ↓s0_186, ↓s0_188, ↓s0_189, ↓s0_190, ↓s0_191, ↓s0_192, ↓s0_194, ↓s0_195, ↓s0_196, ↓s0_198, ↓s0_200, ↓s0_202, ↓s0_204, ↓s0_207, ↓s0_209, ↓s0_211, ↓s0_213, ↓s0_216, ↓s0_218, ↓s0_220, ↓s0_223, ↓s0_226, ↓s0_227, ↓s0_230, ↓s0_231, ↓popI_c, ↓popJ_c, ↓popR_c, ↓pop1_i, ↓pop1_r, ↓pop1_n, ↓popA_r, ↓popA_n, ↓ldI_z, ↓ldJ_z, ↓ldA_z, ↓ldA_n, ↓ldI_s, ↓ldJ_s, ↓ldA_s, ↓sto1_u, ↓sto1_i, ↓sto1_r, ↓sto1_n, ↓sto1_s, ↓sto2_u, ↓sto2_l, ↓sto2_s, ↓arr_c, ↓arrI_z, ↓arrI_s, ↓obj_c, ↓objI_z, ↓objI_s, ↓idx_c, ↓idxN_c, ↓setN_c, ↓setL_z, ↓setL_s, ↓setH_z, ↓setH_s, ↓snoc_z, ↓snoc_s, ↓onLen_0, ↓onLen_1, ↓onLen_2, ↓onLen_3, ↓onLen_4, ↓repN_c, ↓onSome_c, ↓fgt_c, ↓fst_n, ↓fst_c, ↓reduceIte, List.length_cons, List.length_nil, List.mem_cons, List.not_mem_nil, or_false, true_or, or_true, true_and, and_true, and_self, not_true_eq_false, not_false_eq_true, eq_self, ne_eq, nar_b0, nar_b1, nar_bb, nar_cc, cmpL_lt, cmpL_gt, cmpL_eq, Nat.reduceAdd, Nat.reduceSub, Nat.reduceEqDiff, Nat.reduceLeDiff, Nat.zero_le, Nat.le_refl, Int32.reduceLT, Int32.reduceLE, Int32.reduceAdd, Int32.reduceSub, Int32.reduceMul, Int32.reduceToNatClampNeg, Int32.reduceOfNat, Int32.reduceOfInt, Int64.reduceLT, Int64.reduceAdd, Int64.reduceSub, Int64.reduceMul, i32_nl, i32_ng, i64_nl, i64_ng, String.reduceEq, reduceCtorEq, room_c, room_s, R2_c, R2_s]
theorem st34_2 (i0 i1 i2 i3 i4 i5 f b0 b1 b2 : Int32) (a : Nat) (ha : a < 4) (hf : nar .byte f = f) (h0 : nar .byte b0 = b0) (h1 : nar .byte b1 = b1) (h2 : nar .byte b2 = b2) :
    G0 l Z b (fun v _ => v = some (.int 1)) 34 [.val (.int i0), .val (.int i1), .val (.int i2), .val (.int i3), .val (.int i4), .val (.int i5), .val (.int 2), .val (.int (Int32.ofNat a)), .val (.int f), .val (.int b0), .val (.int b1), .val (.int b2), .unset, .unset, .unset, .unset, .unset] [] [] 0 0 := by
  refine e0_34 100 ?_
  simp only [↓z0, ↓s0_0, ↓s0_1, ↓s0_2, ↓s0_3, ↓s0_5, ↓s0_7, ↓s0_8, ↓s0_9, ↓s0_11, ↓s0_13, ↓s0_14, ↓s0_16, ↓s0_17, ↓s0_20, ↓s0_22, ↓s0_23, ↓s0_26, ↓s0_28, ↓s0_29, ↓s0_32, ↓s0_34, ↓s0_36, ↓s0_39, ↓s0_40, ↓s0_42, ↓s0_44, ↓s0_47, ↓s0_49, ↓s0_50, ↓s0_53, ↓s0_54, ↓s0_56, ↓s0_57, ↓s0_58, ↓s0_60, ↓s0_61, ↓s0_63, ↓s0_66, ↓s0_68, ↓s0_69, ↓s0_72, ↓s0_73, ↓s0_75, ↓s0_76, ↓s0_77, ↓s0_79, ↓s0_80, ↓s0_81, ↓s0_82, ↓s0_84, ↓s0_85, ↓s0_87, ↓s0_90, ↓s0_91, ↓s0_93, ↓s0_94, ↓s0_95, ↓s0_97, ↓s0_98, ↓s0_99, ↓s0_100, ↓s0_102, ↓s0_103, ↓s0_104, ↓s0_105, ↓s0_107, ↓s0_108, ↓s0_110, ↓s0_112, ↓s0_115, ↓s0_117, ↓s0_119, ↓s0_122, ↓s0_124, ↓s0_126, ↓s0_128, ↓s0_130, ↓s0_133, ↓s0_135, ↓s0_137, ↓s0_139, ↓s0_142, ↓s0_144, ↓s0_146, ↓s0_147, ↓s0_150, ↓s0_152, ↓s0_154, ↓s0_156, ↓s0_159, ↓s0_161, ↓s0_163, ↓s0_164, ↓s0_167, ↓s0_169, ↓s0_171, ↓s0_173, ↓s0_176, ↓s0_178, ↓s0_180, ↓s0_182, ↓s0_183, ↓s0_184, ↓s0_186, ↓s0_188, ↓s0_189, ↓s0_190, ↓s0_191, ↓s0_192, ↓s0_194, ↓s0_195, ↓s0_196, ↓s0_198, ↓s0_200, ↓s0_202, ↓s0_204, ↓s0_207, ↓s0_209, ↓s0_211, ↓s0_213, ↓s0_216, ↓s0_218, ↓s0_220, ↓s0_223, ↓s0_226, ↓s0_227, ↓s0_230, ↓s0_231, ↓popI_c, ↓popJ_c, ↓popR_c, ↓pop1_i, ↓pop1_r, ↓pop1_n, ↓popA_r, ↓popA_n, ↓ldI_z, ↓ldJ_z, ↓ldA_z, ↓ldA_n, ↓ldI_s, ↓ldJ_s, ↓ldA_s, ↓sto1_u, ↓sto1_i, ↓sto1_r, ↓sto1_n, ↓sto1_s, ↓sto2_u, ↓sto2_l, ↓sto2_s, ↓arr_c, ↓arrI_z, ↓arrI_s, ↓obj_c, ↓objI_z, ↓objI_s, ↓idx_c, ↓idxN_c, ↓setN_c, ↓setL_z, ↓setL_s, ↓setH_z, ↓setH_s, ↓snoc_z, ↓snoc_s, ↓onLen_0, ↓onLen_1, ↓onLen_2, ↓onLen_3, ↓onLen_4, ↓repN_c, ↓onSome_c, ↓fgt_c, ↓fst_n, ↓fst_c, ↓reduceIte, List.length_cons, List.length_nil, List.mem_cons, List.not_mem_nil, or_false, true_or, or_true, true_and, and_true, and_self, not_true_eq_false, not_false_eq_true, eq_self, ne_eq, nar_b0, nar_b1, nar_bb, nar_cc, cmpL_lt, cmpL_gt, cmpL_eq, Nat.reduceAdd, Nat.reduceSub, Nat.reduceEqDiff, Nat.reduceLeDiff, Nat.zero_le, Nat.le_refl, Int32.reduceLT, Int32.reduceLE, Int32.reduceAdd, Int32.reduceSub, Int32.reduceMul, Int32.reduceToNatClampNeg, Int32.reduceOfNat, Int32.reduceOfInt, Int64.reduceLT, Int64.reduceAdd, Int64.reduceSub, Int64.reduceMul, i32_nl, i32_ng, i64_nl, i64_ng, String.reduceEq, reduceCtorEq, room_c, room_s, R2_c, R2_s, h0, h1, h2]
  refine kf0_112 (con2a _ _ hf) (r0 100 ?_)
  simp only [↓z0, ↓s0_0, ↓s0_1, ↓s0_2, ↓s0_3, ↓s0_5, ↓s0_7, ↓s0_8, ↓s0_9, ↓s0_11, ↓s0_13, ↓s0_14, ↓s0_16, ↓s0_17, ↓s0_20, ↓s0_22, ↓s0_23, ↓s0_26, ↓s0_28, ↓s0_29, ↓s0_32, ↓s0_34, ↓s0_36, ↓s0_39, ↓s0_40, ↓s0_42, ↓s0_44, ↓s0_47, ↓s0_49, ↓s0_50, ↓s0_53, ↓s0_54, ↓s0_56, ↓s0_57, ↓s0_58, ↓s0_60, ↓s0_61, ↓s0_63, ↓s0_66, ↓s0_68, ↓s0_69, ↓s0_72, ↓s0_73, ↓s0_75, ↓s0_76, ↓s0_77, ↓s0_79, ↓s0_80, ↓s0_81, ↓s0_82, ↓s0_84, ↓s0_85, ↓s0_87, ↓s0_90, ↓s0_91, ↓s0_93, ↓s0_94, ↓s0_95, ↓s0_97, ↓s0_98, ↓s0_99, ↓s0_100, ↓s0_102, ↓s0_103, ↓s0_104, ↓s0_105, ↓s0_107, ↓s0_108, ↓s0_110, ↓s0_112, ↓s0_115, ↓s0_117, ↓s0_119, ↓s0_122, ↓s0_124, ↓s0_126, ↓s0_128, ↓s0_130, ↓s0_133, ↓s0_135, ↓s0_137, ↓s0_139, ↓s0_142, ↓s0_144, ↓s0_146, ↓s0_147, ↓s0_150, ↓s0_152, ↓s0_154, ↓s0_156, ↓s0_159, ↓s0_161, ↓s0_163, ↓s0_164, ↓s0_167, ↓s0_169, ↓s0_171, ↓s0_173, ↓s0_176, ↓s0_178, ↓s0_180, ↓s0_182, ↓s0_183, ↓s0_184, ↓s0_186, ↓s0_188, ↓s0_189, ↓s0_190, ↓s0_191, ↓s0_192, ↓s0_194, ↓s0_195, ↓s0_196, ↓s0_198, ↓s0_200, ↓s0_202, ↓s0_204, ↓s0_207, ↓s0_209, ↓s0_211, ↓s0_213, ↓s0_216, ↓s0_218, ↓s0_220, ↓s0_223, ↓s0_226, ↓s0_227, ↓s0_230, ↓s0_231, ↓popI_c, ↓popJ_c, ↓popR_c, ↓pop1_i, ↓pop1_r, ↓pop1_n, ↓popA_r, ↓popA_n, ↓ldI_z, ↓ldJ_z, ↓ldA_z, ↓ldA_n, ↓ldI_s, ↓ldJ_s, ↓ldA_s, ↓sto1_u, ↓sto1_i, ↓sto1_r, ↓sto1_n, ↓sto1_s, ↓sto2_u, ↓sto2_l, ↓sto2_s, ↓arr_c, ↓arrI_z, ↓arrI_s, ↓obj_c, ↓objI_z, ↓objI_s, ↓idx_c, ↓idxN_c, ↓setN_c, ↓setL_z, ↓setL_s, ↓setH_z, ↓setH_s, ↓snoc_z, ↓snoc_s, ↓onLen_0, ↓onLen_1, ↓onLen_2, ↓onLen_3, ↓onLen_4, ↓repN_c, ↓onSome_c, ↓fgt_c, ↓fst_n, ↓fst_c, ↓reduceIte, List.length_cons, List.length_nil, List.mem_cons, List.not_mem_nil, or_false, true_or, or_true, true_and, and_true, and_self, not_true_eq_false, not_false_eq_true, eq_self, ne_eq, nar_b0, nar_b1, nar_bb, nar_cc, cmpL_lt, cmpL_gt, cmpL_eq, Nat.reduceAdd, Nat.reduceSub, Nat.reduceEqDiff, Nat.reduceLeDiff, Nat.zero_le, Nat.le_refl, Int32.reduceLT, Int32.reduceLE, Int32.reduceAdd, Int32.reduceSub, Int32.reduceMul, Int32.reduceToNatClampNeg, Int32.reduceOfNat, Int32.reduceOfInt, Int64.reduceLT, Int64.reduceAdd, Int64.reduceSub, Int64.reduceMul, i32_nl, i32_ng, i64_nl, i64_ng, String.reduceEq, reduceCtorEq, room_c, room_s, R2_c, R2_s]
  refine kf0_119 (con2b _ _ _ hf) (r0 100 ?_)
  simp only [↓z0, ↓s0_0, ↓s0_1, ↓s0_2, ↓s0_3, ↓s0_5, ↓s0_7, ↓s0_8, ↓s0_9, ↓s0_11, ↓s0_13, ↓s0_14, ↓s0_16, ↓s0_17, ↓s0_20, ↓s0_22, ↓s0_23, ↓s0_26, ↓s0_28, ↓s0_29, ↓s0_32, ↓s0_34, ↓s0_36, ↓s0_39, ↓s0_40, ↓s0_42, ↓s0_44, ↓s0_47, ↓s0_49, ↓s0_50, ↓s0_53, ↓s0_54, ↓s0_56, ↓s0_57, ↓s0_58, ↓s0_60, ↓s0_61, ↓s0_63, ↓s0_66, ↓s0_68, ↓s0_69, ↓s0_72, ↓s0_73, ↓s0_75, ↓s0_76, ↓s0_77, ↓s0_79, ↓s0_80, ↓s0_81, ↓s0_82, ↓s0_84, ↓s0_85, ↓s0_87, ↓s0_90, ↓s0_91, ↓s0_93, ↓s0_94, ↓s0_95, ↓s0_97, ↓s0_98, ↓s0_99, ↓s0_100, ↓s0_102, ↓s0_103, ↓s0_104, ↓s0_105, ↓s0_107, ↓s0_108, ↓s0_110, ↓s0_112, ↓s0_115, ↓s0_117, ↓s0_119, ↓s0_122, ↓s0_124, ↓s0_126, ↓s0_128, ↓s0_130, ↓s0_133, ↓s0_135, ↓s0_137, ↓s0_139, ↓s0_142, ↓s0_144, ↓s0_146, ↓s0_147, ↓s0_150, ↓s0_152, ↓s0_154, ↓s0_156, ↓s0_159, ↓s0_161, ↓s0_163, ↓s0_164, ↓s0_167, ↓s0_169, ↓s0_171, ↓s0_173, ↓s0_176, ↓s0_178, ↓s0_180, ↓s0_182, ↓s0_183, ↓s0_184, ↓s0_186, ↓s0_188, ↓s0_189, ↓s0_190, ↓s0_191, ↓s0_192, ↓s0_194, ↓s0_195, ↓s0_196, ↓s0_198, ↓s0_200, ↓s0_202, ↓s0_204, ↓s0_207, ↓s0_209, ↓s0_211, ↓s0_213, ↓s0_216, ↓s0_218, ↓s0_220, ↓s0_223, ↓s0_226, ↓s0_227, ↓s0_230, ↓s0_231, ↓popI_c, ↓popJ_c, ↓popR_c, ↓pop1_i, ↓pop1_r, ↓pop1_n, ↓popA_r, ↓popA_n, ↓ldI_z, ↓ldJ_z, ↓ldA_z, ↓ldA_n, ↓ldI_s, ↓ldJ_s, ↓ldA_s, ↓sto1_u, ↓sto1_i, ↓sto1_r, ↓sto1_n, ↓sto1_s, ↓sto2_u, ↓sto2_l, ↓sto2_s, ↓arr_c, ↓arrI_z, ↓arrI_s, ↓obj_c, ↓objI_z, ↓objI_s, ↓idx_c, ↓idxN_c, ↓setN_c, ↓setL_z, ↓setL_s, ↓setH_z, ↓setH_s, ↓snoc_z, ↓snoc_s, ↓onLen_0, ↓onLen_1, ↓onLen_2, ↓onLen_3, ↓onLen_4, ↓repN_c, ↓onSome_c, ↓fgt_c, ↓fst_n, ↓fst_c, ↓reduceIte, List.length_cons, List.length_nil, List.mem_cons, List.not_mem_nil, or_false, true_or, or_true, true_and, and_true, and_self, not_true_eq_false, not_false_eq_true, eq_self, ne_eq, nar_b0, nar_b1, nar_bb, nar_cc, cmpL_lt, cmpL_gt, cmpL_eq, Nat.reduceAdd, Nat.reduceSub, Nat.reduceEqDiff, Nat.reduceLeDiff, Nat.zero_le, Nat.le_refl, Int32.reduceLT, Int32.reduceLE, Int32.reduceAdd, Int32.reduceSub, Int32.reduceMul, Int32.reduceToNatClampNeg, Int32.reduceOfNat, Int32.reduceOfInt, Int64.reduceLT, Int64.reduceAdd, Int64.reduceSub, Int64.reduceMul, i32_nl, i32_ng, i64_nl, i64_ng, String.reduceEq, reduceCtorEq, room_c, room_s, R2_c, R2_s]
  have p0 := pn_le (a) b0
  refine kf0_139 (con5 _ _ ([f, f, f, f, f, f, f, f, f, f, f, f]) (a) b0 h0 (by simp only [pl_len, List.length_cons, List.length_nil]; omega) (by simp only [pl_len, List.length_cons, List.length_nil]; omega)) (r0 100 ?_)
  simp only [↓z0, ↓s0_0, ↓s0_1, ↓s0_2, ↓s0_3, ↓s0_5, ↓s0_7, ↓s0_8, ↓s0_9, ↓s0_11, ↓s0_13, ↓s0_14, ↓s0_16, ↓s0_17, ↓s0_20, ↓s0_22, ↓s0_23, ↓s0_26, ↓s0_28, ↓s0_29, ↓s0_32, ↓s0_34, ↓s0_36, ↓s0_39, ↓s0_40, ↓s0_42, ↓s0_44, ↓s0_47, ↓s0_49, ↓s0_50, ↓s0_53, ↓s0_54, ↓s0_56, ↓s0_57, ↓s0_58, ↓s0_60, ↓s0_61, ↓s0_63, ↓s0_66, ↓s0_68, ↓s0_69, ↓s0_72, ↓s0_73, ↓s0_75, ↓s0_76, ↓s0_77, ↓s0_79, ↓s0_80, ↓s0_81, ↓s0_82, ↓s0_84, ↓s0_85, ↓s0_87, ↓s0_90, ↓s0_91, ↓s0_93, ↓s0_94, ↓s0_95, ↓s0_97, ↓s0_98, ↓s0_99, ↓s0_100, ↓s0_102, ↓s0_103, ↓s0_104, ↓s0_105, ↓s0_107, ↓s0_108, ↓s0_110, ↓s0_112, ↓s0_115, ↓s0_117, ↓s0_119, ↓s0_122, ↓s0_124, ↓s0_126, ↓s0_128, ↓s0_130, ↓s0_133, ↓s0_135, ↓s0_137, ↓s0_139, ↓s0_142, ↓s0_144, ↓s0_146, ↓s0_147, ↓s0_150, ↓s0_152, ↓s0_154, ↓s0_156, ↓s0_159, ↓s0_161, ↓s0_163, ↓s0_164, ↓s0_167, ↓s0_169, ↓s0_171, ↓s0_173, ↓s0_176, ↓s0_178, ↓s0_180, ↓s0_182, ↓s0_183, ↓s0_184, ↓s0_186, ↓s0_188, ↓s0_189, ↓s0_190, ↓s0_191, ↓s0_192, ↓s0_194, ↓s0_195, ↓s0_196, ↓s0_198, ↓s0_200, ↓s0_202, ↓s0_204, ↓s0_207, ↓s0_209, ↓s0_211, ↓s0_213, ↓s0_216, ↓s0_218, ↓s0_220, ↓s0_223, ↓s0_226, ↓s0_227, ↓s0_230, ↓s0_231, ↓popI_c, ↓popJ_c, ↓popR_c, ↓pop1_i, ↓pop1_r, ↓pop1_n, ↓popA_r, ↓popA_n, ↓ldI_z, ↓ldJ_z, ↓ldA_z, ↓ldA_n, ↓ldI_s, ↓ldJ_s, ↓ldA_s, ↓sto1_u, ↓sto1_i, ↓sto1_r, ↓sto1_n, ↓sto1_s, ↓sto2_u, ↓sto2_l, ↓sto2_s, ↓arr_c, ↓arrI_z, ↓arrI_s, ↓obj_c, ↓objI_z, ↓objI_s, ↓idx_c, ↓idxN_c, ↓setN_c, ↓setL_z, ↓setL_s, ↓setH_z, ↓setH_s, ↓snoc_z, ↓snoc_s, ↓onLen_0, ↓onLen_1, ↓onLen_2, ↓onLen_3, ↓onLen_4, ↓repN_c, ↓onSome_c, ↓fgt_c, ↓fst_n, ↓fst_c, ↓reduceIte, List.length_cons, List.length_nil, List.mem_cons, List.not_mem_nil, or_false, true_or, or_true, true_and, and_true, and_self, not_true_eq_false, not_false_eq_true, eq_self, ne_eq, nar_b0, nar_b1, nar_bb, nar_cc, cmpL_lt, cmpL_gt, cmpL_eq, Nat.reduceAdd, Nat.reduceSub, Nat.reduceEqDiff, Nat.reduceLeDiff, Nat.zero_le, Nat.le_refl, Int32.reduceLT, Int32.reduceLE, Int32.reduceAdd, Int32.reduceSub, Int32.reduceMul, Int32.reduceToNatClampNeg, Int32.reduceOfNat, Int32.reduceOfInt, Int64.reduceLT, Int64.reduceAdd, Int64.reduceSub, Int64.reduceMul, i32_nl, i32_ng, i64_nl, i64_ng, String.reduceEq, reduceCtorEq, room_c, room_s, R2_c, R2_s]
  have p1 := pn_le (pn (a) b0) b1
  refine kf0_156 (con5 _ _ (pl ([f, f, f, f, f, f, f, f, f, f, f, f]) (a) b0) (pn (a) b0) b1 h1 (by simp only [pl_len, List.length_cons, List.length_nil]; omega) (by simp only [pl_len, List.length_cons, List.length_nil]; omega)) (r0 100 ?_)
  obtain ⟨P, hP⟩ : ∃ P, P = pn (pn (a) b0) b1 := ⟨_, rfl⟩
  obtain ⟨E, hE⟩ : ∃ E, E = pl (pl ([f, f, f, f, f, f, f, f, f, f, f, f]) (a) b0) (pn (a) b0) b1 := ⟨_, rfl⟩
  have hlen : E.length = 12 := by rw [hE]; simp [pl_len]
  have hw : wr [b0, b1] a [f, f, f, f, f, f, f, f, f, f, f, f] = (P + 2, (E.set P 0).set (P + 1) 1) := by rw [hP, hE]; rfl
  have hPb : P < 10 := by omega
  rw [← hP, ← hE]
  have g0 : P < 2147483648 := by omega
  have g1 : P + 1 < 2147483648 := by omega
  have g2 : P < E.length := by omega
  have g3 : P + 1 < (E.set P 0).length := by rw [List.length_set]; omega
  have g4 : ((E.set P 0).set (P + 1) 1).length = 12 := by rw [List.length_set, List.length_set]; exact hlen
  simp only [↓z0, ↓s0_0, ↓s0_1, ↓s0_2, ↓s0_3, ↓s0_5, ↓s0_7, ↓s0_8, ↓s0_9, ↓s0_11, ↓s0_13, ↓s0_14, ↓s0_16, ↓s0_17, ↓s0_20, ↓s0_22, ↓s0_23, ↓s0_26, ↓s0_28, ↓s0_29, ↓s0_32, ↓s0_34, ↓s0_36, ↓s0_39, ↓s0_40, ↓s0_42, ↓s0_44, ↓s0_47, ↓s0_49, ↓s0_50, ↓s0_53, ↓s0_54, ↓s0_56, ↓s0_57, ↓s0_58, ↓s0_60, ↓s0_61, ↓s0_63, ↓s0_66, ↓s0_68, ↓s0_69, ↓s0_72, ↓s0_73, ↓s0_75, ↓s0_76, ↓s0_77, ↓s0_79, ↓s0_80, ↓s0_81, ↓s0_82, ↓s0_84, ↓s0_85, ↓s0_87, ↓s0_90, ↓s0_91, ↓s0_93, ↓s0_94, ↓s0_95, ↓s0_97, ↓s0_98, ↓s0_99, ↓s0_100, ↓s0_102, ↓s0_103, ↓s0_104, ↓s0_105, ↓s0_107, ↓s0_108, ↓s0_110, ↓s0_112, ↓s0_115, ↓s0_117, ↓s0_119, ↓s0_122, ↓s0_124, ↓s0_126, ↓s0_128, ↓s0_130, ↓s0_133, ↓s0_135, ↓s0_137, ↓s0_139, ↓s0_142, ↓s0_144, ↓s0_146, ↓s0_147, ↓s0_150, ↓s0_152, ↓s0_154, ↓s0_156, ↓s0_159, ↓s0_161, ↓s0_163, ↓s0_164, ↓s0_167, ↓s0_169, ↓s0_171, ↓s0_173, ↓s0_176, ↓s0_178, ↓s0_180, ↓s0_182, ↓s0_183, ↓s0_184, ↓s0_186, ↓s0_188, ↓s0_189, ↓s0_190, ↓s0_191, ↓s0_192, ↓s0_194, ↓s0_195, ↓s0_196, ↓s0_198, ↓s0_200, ↓s0_202, ↓s0_204, ↓s0_207, ↓s0_209, ↓s0_211, ↓s0_213, ↓s0_216, ↓s0_218, ↓s0_220, ↓s0_223, ↓s0_226, ↓s0_227, ↓s0_230, ↓s0_231, ↓popI_c, ↓popJ_c, ↓popR_c, ↓pop1_i, ↓pop1_r, ↓pop1_n, ↓popA_r, ↓popA_n, ↓ldI_z, ↓ldJ_z, ↓ldA_z, ↓ldA_n, ↓ldI_s, ↓ldJ_s, ↓ldA_s, ↓sto1_u, ↓sto1_i, ↓sto1_r, ↓sto1_n, ↓sto1_s, ↓sto2_u, ↓sto2_l, ↓sto2_s, ↓arr_c, ↓arrI_z, ↓arrI_s, ↓obj_c, ↓objI_z, ↓objI_s, ↓idxN_c, ↓setL_z, ↓setL_s, ↓setH_z, ↓setH_s, ↓snoc_z, ↓snoc_s, ↓onLen_0, ↓onLen_1, ↓onLen_2, ↓onLen_3, ↓onLen_4, ↓repN_c, ↓onSome_c, ↓fgt_c, ↓fst_n, ↓fst_c, ↓reduceIte, List.length_cons, List.length_nil, List.mem_cons, List.not_mem_nil, or_false, true_or, or_true, true_and, and_true, and_self, not_true_eq_false, not_false_eq_true, eq_self, ne_eq, nar_b0, nar_b1, nar_bb, nar_cc, cmpL_lt, cmpL_gt, cmpL_eq, Nat.reduceAdd, Nat.reduceSub, Nat.reduceEqDiff, Nat.reduceLeDiff, Nat.zero_le, Nat.le_refl, Int32.reduceLT, Int32.reduceLE, Int32.reduceAdd, Int32.reduceSub, Int32.reduceMul, Int32.reduceToNatClampNeg, Int32.reduceOfNat, Int32.reduceOfInt, Int64.reduceLT, Int64.reduceAdd, Int64.reduceSub, Int64.reduceMul, i32_nl, i32_ng, i64_nl, i64_ng, String.reduceEq, reduceCtorEq, room_c, room_s, R2_c, R2_s, ↓idx_iv g0 g2, ↓setN_d, onat_nat g0, onat_succ, onat_2, onat_nat g1, n0, n1, ivs_set, ↓idx_iv g1 g3]
  refine kf0_204 (con3 _ [b0, b1] [f, f, f, f, f, f, f, f, f, f, f, f] a (by simp) (by simp only [List.length_cons, List.length_nil]; omega) (by first | omega | simp) (by intro y hy; simp only [List.mem_cons, List.not_mem_nil, or_false] at hy; rcases hy with rfl | rfl <;> assumption)) (r0 100 ?_)
  rw [hw]
  simp only [↓z0, ↓s0_0, ↓s0_1, ↓s0_2, ↓s0_3, ↓s0_5, ↓s0_7, ↓s0_8, ↓s0_9, ↓s0_11, ↓s0_13, ↓s0_14, ↓s0_16, ↓s0_17, ↓s0_20, ↓s0_22, ↓s0_23, ↓s0_26, ↓s0_28, ↓s0_29, ↓s0_32, ↓s0_34, ↓s0_36, ↓s0_39, ↓s0_40, ↓s0_42, ↓s0_44, ↓s0_47, ↓s0_49, ↓s0_50, ↓s0_53, ↓s0_54, ↓s0_56, ↓s0_57, ↓s0_58, ↓s0_60, ↓s0_61, ↓s0_63, ↓s0_66, ↓s0_68, ↓s0_69, ↓s0_72, ↓s0_73, ↓s0_75, ↓s0_76, ↓s0_77, ↓s0_79, ↓s0_80, ↓s0_81, ↓s0_82, ↓s0_84, ↓s0_85, ↓s0_87, ↓s0_90, ↓s0_91, ↓s0_93, ↓s0_94, ↓s0_95, ↓s0_97, ↓s0_98, ↓s0_99, ↓s0_100, ↓s0_102, ↓s0_103, ↓s0_104, ↓s0_105, ↓s0_107, ↓s0_108, ↓s0_110, ↓s0_112, ↓s0_115, ↓s0_117, ↓s0_119, ↓s0_122, ↓s0_124, ↓s0_126, ↓s0_128, ↓s0_130, ↓s0_133, ↓s0_135, ↓s0_137, ↓s0_139, ↓s0_142, ↓s0_144, ↓s0_146, ↓s0_147, ↓s0_150, ↓s0_152, ↓s0_154, ↓s0_156, ↓s0_159, ↓s0_161, ↓s0_163, ↓s0_164, ↓s0_167, ↓s0_169, ↓s0_171, ↓s0_173, ↓s0_176, ↓s0_178, ↓s0_180, ↓s0_182, ↓s0_183, ↓s0_184, ↓s0_186, ↓s0_188, ↓s0_189, ↓s0_190, ↓s0_191, ↓s0_192, ↓s0_194, ↓s0_195, ↓s0_196, ↓s0_198, ↓s0_200, ↓s0_202, ↓s0_204, ↓s0_207, ↓s0_209, ↓s0_211, ↓s0_213, ↓s0_216, ↓s0_218, ↓s0_220, ↓s0_223, ↓s0_226, ↓s0_227, ↓s0_230, ↓s0_231, ↓popI_c, ↓popJ_c, ↓popR_c, ↓pop1_i, ↓pop1_r, ↓pop1_n, ↓popA_r, ↓popA_n, ↓ldI_z, ↓ldJ_z, ↓ldA_z, ↓ldA_n, ↓ldI_s, ↓ldJ_s, ↓ldA_s, ↓sto1_u, ↓sto1_i, ↓sto1_r, ↓sto1_n, ↓sto1_s, ↓sto2_u, ↓sto2_l, ↓sto2_s, ↓arr_c, ↓arrI_z, ↓arrI_s, ↓obj_c, ↓objI_z, ↓objI_s, ↓idx_c, ↓idxN_c, ↓setN_c, ↓setL_z, ↓setL_s, ↓setH_z, ↓setH_s, ↓snoc_z, ↓snoc_s, ↓onLen_0, ↓onLen_1, ↓onLen_2, ↓onLen_3, ↓onLen_4, ↓repN_c, ↓onSome_c, ↓fgt_c, ↓fst_n, ↓fst_c, ↓reduceIte, List.length_cons, List.length_nil, List.mem_cons, List.not_mem_nil, or_false, true_or, or_true, true_and, and_true, and_self, not_true_eq_false, not_false_eq_true, eq_self, ne_eq, nar_b0, nar_b1, nar_bb, nar_cc, cmpL_lt, cmpL_gt, cmpL_eq, Nat.reduceAdd, Nat.reduceSub, Nat.reduceEqDiff, Nat.reduceLeDiff, Nat.zero_le, Nat.le_refl, Int32.reduceLT, Int32.reduceLE, Int32.reduceAdd, Int32.reduceSub, Int32.reduceMul, Int32.reduceToNatClampNeg, Int32.reduceOfNat, Int32.reduceOfInt, Int64.reduceLT, Int64.reduceAdd, Int64.reduceSub, Int64.reduceMul, i32_nl, i32_ng, i64_nl, i64_ng, String.reduceEq, reduceCtorEq, room_c, room_s, R2_c, R2_s]
  refine kf0_220 (con4 _ _ g4) (r0 100 ?_)
  simp only [↓z0, ↓s0_0, ↓s0_1, ↓s0_2, ↓s0_3, ↓s0_5, ↓s0_7, ↓s0_8, ↓s0_9, ↓s0_11, ↓s0_13, ↓s0_14, ↓s0_16, ↓s0_17, ↓s0_20, ↓s0_22, ↓s0_23, ↓s0_26, ↓s0_28, ↓s0_29, ↓s0_32, ↓s0_34, ↓s0_36, ↓s0_39, ↓s0_40, ↓s0_42, ↓s0_44, ↓s0_47, ↓s0_49, ↓s0_50, ↓s0_53, ↓s0_54, ↓s0_56, ↓s0_57, ↓s0_58, ↓s0_60, ↓s0_61, ↓s0_63, ↓s0_66, ↓s0_68, ↓s0_69, ↓s0_72, ↓s0_73, ↓s0_75, ↓s0_76, ↓s0_77, ↓s0_79, ↓s0_80, ↓s0_81, ↓s0_82, ↓s0_84, ↓s0_85, ↓s0_87, ↓s0_90, ↓s0_91, ↓s0_93, ↓s0_94, ↓s0_95, ↓s0_97, ↓s0_98, ↓s0_99, ↓s0_100, ↓s0_102, ↓s0_103, ↓s0_104, ↓s0_105, ↓s0_107, ↓s0_108, ↓s0_110, ↓s0_112, ↓s0_115, ↓s0_117, ↓s0_119, ↓s0_122, ↓s0_124, ↓s0_126, ↓s0_128, ↓s0_130, ↓s0_133, ↓s0_135, ↓s0_137, ↓s0_139, ↓s0_142, ↓s0_144, ↓s0_146, ↓s0_147, ↓s0_150, ↓s0_152, ↓s0_154, ↓s0_156, ↓s0_159, ↓s0_161, ↓s0_163, ↓s0_164, ↓s0_167, ↓s0_169, ↓s0_171, ↓s0_173, ↓s0_176, ↓s0_178, ↓s0_180, ↓s0_182, ↓s0_183, ↓s0_184, ↓s0_186, ↓s0_188, ↓s0_189, ↓s0_190, ↓s0_191, ↓s0_192, ↓s0_194, ↓s0_195, ↓s0_196, ↓s0_198, ↓s0_200, ↓s0_202, ↓s0_204, ↓s0_207, ↓s0_209, ↓s0_211, ↓s0_213, ↓s0_216, ↓s0_218, ↓s0_220, ↓s0_223, ↓s0_226, ↓s0_227, ↓s0_230, ↓s0_231, ↓popI_c, ↓popJ_c, ↓popR_c, ↓pop1_i, ↓pop1_r, ↓pop1_n, ↓popA_r, ↓popA_n, ↓ldI_z, ↓ldJ_z, ↓ldA_z, ↓ldA_n, ↓ldI_s, ↓ldJ_s, ↓ldA_s, ↓sto1_u, ↓sto1_i, ↓sto1_r, ↓sto1_n, ↓sto1_s, ↓sto2_u, ↓sto2_l, ↓sto2_s, ↓arr_c, ↓arrI_z, ↓arrI_s, ↓obj_c, ↓objI_z, ↓objI_s, ↓idx_c, ↓idxN_c, ↓setN_c, ↓setL_z, ↓setL_s, ↓setH_z, ↓setH_s, ↓snoc_z, ↓snoc_s, ↓onLen_0, ↓onLen_1, ↓onLen_2, ↓onLen_3, ↓onLen_4, ↓repN_c, ↓onSome_c, ↓fgt_c, ↓fst_n, ↓fst_c, ↓reduceIte, List.length_cons, List.length_nil, List.mem_cons, List.not_mem_nil, or_false, true_or, or_true, true_and, and_true, and_self, not_true_eq_false, not_false_eq_true, eq_self, ne_eq, nar_b0, nar_b1, nar_bb, nar_cc, cmpL_lt, cmpL_gt, cmpL_eq, Nat.reduceAdd, Nat.reduceSub, Nat.reduceEqDiff, Nat.reduceLeDiff, Nat.zero_le, Nat.le_refl, Int32.reduceLT, Int32.reduceLE, Int32.reduceAdd, Int32.reduceSub, Int32.reduceMul, Int32.reduceToNatClampNeg, Int32.reduceOfNat, Int32.reduceOfInt, Int64.reduceLT, Int64.reduceAdd, Int64.reduceSub, Int64.reduceMul, i32_nl, i32_ng, i64_nl, i64_ng, String.reduceEq, reduceCtorEq, room_c, room_s, R2_c, R2_s]
theorem st34_3 (i0 i1 i2 i3 i4 i5 f b0 b1 b2 : Int32) (a : Nat) (ha : a < 4) (hf : nar .byte f = f) (h0 : nar .byte b0 = b0) (h1 : nar .byte b1 = b1) (h2 : nar .byte b2 = b2) :
    G0 l Z b (fun v _ => v = some (.int 1)) 34 [.val (.int i0), .val (.int i1), .val (.int i2), .val (.int i3), .val (.int i4), .val (.int i5), .val (.int 3), .val (.int (Int32.ofNat a)), .val (.int f), .val (.int b0), .val (.int b1), .val (.int b2), .unset, .unset, .unset, .unset, .unset] [] [] 0 0 := by
  refine e0_34 100 ?_
  simp only [↓z0, ↓s0_0, ↓s0_1, ↓s0_2, ↓s0_3, ↓s0_5, ↓s0_7, ↓s0_8, ↓s0_9, ↓s0_11, ↓s0_13, ↓s0_14, ↓s0_16, ↓s0_17, ↓s0_20, ↓s0_22, ↓s0_23, ↓s0_26, ↓s0_28, ↓s0_29, ↓s0_32, ↓s0_34, ↓s0_36, ↓s0_39, ↓s0_40, ↓s0_42, ↓s0_44, ↓s0_47, ↓s0_49, ↓s0_50, ↓s0_53, ↓s0_54, ↓s0_56, ↓s0_57, ↓s0_58, ↓s0_60, ↓s0_61, ↓s0_63, ↓s0_66, ↓s0_68, ↓s0_69, ↓s0_72, ↓s0_73, ↓s0_75, ↓s0_76, ↓s0_77, ↓s0_79, ↓s0_80, ↓s0_81, ↓s0_82, ↓s0_84, ↓s0_85, ↓s0_87, ↓s0_90, ↓s0_91, ↓s0_93, ↓s0_94, ↓s0_95, ↓s0_97, ↓s0_98, ↓s0_99, ↓s0_100, ↓s0_102, ↓s0_103, ↓s0_104, ↓s0_105, ↓s0_107, ↓s0_108, ↓s0_110, ↓s0_112, ↓s0_115, ↓s0_117, ↓s0_119, ↓s0_122, ↓s0_124, ↓s0_126, ↓s0_128, ↓s0_130, ↓s0_133, ↓s0_135, ↓s0_137, ↓s0_139, ↓s0_142, ↓s0_144, ↓s0_146, ↓s0_147, ↓s0_150, ↓s0_152, ↓s0_154, ↓s0_156, ↓s0_159, ↓s0_161, ↓s0_163, ↓s0_164, ↓s0_167, ↓s0_169, ↓s0_171, ↓s0_173, ↓s0_176, ↓s0_178, ↓s0_180, ↓s0_182, ↓s0_183, ↓s0_184, ↓s0_186, ↓s0_188, ↓s0_189, ↓s0_190, ↓s0_191, ↓s0_192, ↓s0_194, ↓s0_195, ↓s0_196, ↓s0_198, ↓s0_200, ↓s0_202, ↓s0_204, ↓s0_207, ↓s0_209, ↓s0_211, ↓s0_213, ↓s0_216, ↓s0_218, ↓s0_220, ↓s0_223, ↓s0_226, ↓s0_227, ↓s0_230, ↓s0_231, ↓popI_c, ↓popJ_c, ↓popR_c, ↓pop1_i, ↓pop1_r, ↓pop1_n, ↓popA_r, ↓popA_n, ↓ldI_z, ↓ldJ_z, ↓ldA_z, ↓ldA_n, ↓ldI_s, ↓ldJ_s, ↓ldA_s, ↓sto1_u, ↓sto1_i, ↓sto1_r, ↓sto1_n, ↓sto1_s, ↓sto2_u, ↓sto2_l, ↓sto2_s, ↓arr_c, ↓arrI_z, ↓arrI_s, ↓obj_c, ↓objI_z, ↓objI_s, ↓idx_c, ↓idxN_c, ↓setN_c, ↓setL_z, ↓setL_s, ↓setH_z, ↓setH_s, ↓snoc_z, ↓snoc_s, ↓onLen_0, ↓onLen_1, ↓onLen_2, ↓onLen_3, ↓onLen_4, ↓repN_c, ↓onSome_c, ↓fgt_c, ↓fst_n, ↓fst_c, ↓reduceIte, List.length_cons, List.length_nil, List.mem_cons, List.not_mem_nil, or_false, true_or, or_true, true_and, and_true, and_self, not_true_eq_false, not_false_eq_true, eq_self, ne_eq, nar_b0, nar_b1, nar_bb, nar_cc, cmpL_lt, cmpL_gt, cmpL_eq, Nat.reduceAdd, Nat.reduceSub, Nat.reduceEqDiff, Nat.reduceLeDiff, Nat.zero_le, Nat.le_refl, Int32.reduceLT, Int32.reduceLE, Int32.reduceAdd, Int32.reduceSub, Int32.reduceMul, Int32.reduceToNatClampNeg, Int32.reduceOfNat, Int32.reduceOfInt, Int64.reduceLT, Int64.reduceAdd, Int64.reduceSub, Int64.reduceMul, i32_nl, i32_ng, i64_nl, i64_ng, String.reduceEq, reduceCtorEq, room_c, room_s, R2_c, R2_s, h0, h1, h2]
  refine kf0_112 (con2a _ _ hf) (r0 100 ?_)
  simp only [↓z0, ↓s0_0, ↓s0_1, ↓s0_2, ↓s0_3, ↓s0_5, ↓s0_7, ↓s0_8, ↓s0_9, ↓s0_11, ↓s0_13, ↓s0_14, ↓s0_16, ↓s0_17, ↓s0_20, ↓s0_22, ↓s0_23, ↓s0_26, ↓s0_28, ↓s0_29, ↓s0_32, ↓s0_34, ↓s0_36, ↓s0_39, ↓s0_40, ↓s0_42, ↓s0_44, ↓s0_47, ↓s0_49, ↓s0_50, ↓s0_53, ↓s0_54, ↓s0_56, ↓s0_57, ↓s0_58, ↓s0_60, ↓s0_61, ↓s0_63, ↓s0_66, ↓s0_68, ↓s0_69, ↓s0_72, ↓s0_73, ↓s0_75, ↓s0_76, ↓s0_77, ↓s0_79, ↓s0_80, ↓s0_81, ↓s0_82, ↓s0_84, ↓s0_85, ↓s0_87, ↓s0_90, ↓s0_91, ↓s0_93, ↓s0_94, ↓s0_95, ↓s0_97, ↓s0_98, ↓s0_99, ↓s0_100, ↓s0_102, ↓s0_103, ↓s0_104, ↓s0_105, ↓s0_107, ↓s0_108, ↓s0_110, ↓s0_112, ↓s0_115, ↓s0_117, ↓s0_119, ↓s0_122, ↓s0_124, ↓s0_126, ↓s0_128, ↓s0_130, ↓s0_133, ↓s0_135, ↓s0_137, ↓s0_139, ↓s0_142, ↓s0_144, ↓s0_146, ↓s0_147, ↓s0_150, ↓s0_152, ↓s0_154, ↓s0_156, ↓s0_159, ↓s0_161, ↓s0_163, ↓s0_164, ↓s0_167, ↓s0_169, ↓s0_171, ↓s0_173, ↓s0_176, ↓s0_178, ↓s0_180, ↓s0_182, ↓s0_183, ↓s0_184, ↓s0_186, ↓s0_188, ↓s0_189, ↓s0_190, ↓s0_191, ↓s0_192, ↓s0_194, ↓s0_195, ↓s0_196, ↓s0_198, ↓s0_200, ↓s0_202, ↓s0_204, ↓s0_207, ↓s0_209, ↓s0_211, ↓s0_213, ↓s0_216, ↓s0_218, ↓s0_220, ↓s0_223, ↓s0_226, ↓s0_227, ↓s0_230, ↓s0_231, ↓popI_c, ↓popJ_c, ↓popR_c, ↓pop1_i, ↓pop1_r, ↓pop1_n, ↓popA_r, ↓popA_n, ↓ldI_z, ↓ldJ_z, ↓ldA_z, ↓ldA_n, ↓ldI_s, ↓ldJ_s, ↓ldA_s, ↓sto1_u, ↓sto1_i, ↓sto1_r, ↓sto1_n, ↓sto1_s, ↓sto2_u, ↓sto2_l, ↓sto2_s, ↓arr_c, ↓arrI_z, ↓arrI_s, ↓obj_c, ↓objI_z, ↓objI_s, ↓idx_c, ↓idxN_c, ↓setN_c, ↓setL_z, ↓setL_s, ↓setH_z, ↓setH_s, ↓snoc_z, ↓snoc_s, ↓onLen_0, ↓onLen_1, ↓onLen_2, ↓onLen_3, ↓onLen_4, ↓repN_c, ↓onSome_c, ↓fgt_c, ↓fst_n, ↓fst_c, ↓reduceIte, List.length_cons, List.length_nil, List.mem_cons, List.not_mem_nil, or_false, true_or, or_true, true_and, and_true, and_self, not_true_eq_false, not_false_eq_true, eq_self, ne_eq, nar_b0, nar_b1, nar_bb, nar_cc, cmpL_lt, cmpL_gt, cmpL_eq, Nat.reduceAdd, Nat.reduceSub, Nat.reduceEqDiff, Nat.reduceLeDiff, Nat.zero_le, Nat.le_refl, Int32.reduceLT, Int32.reduceLE, Int32.reduceAdd, Int32.reduceSub, Int32.reduceMul, Int32.reduceToNatClampNeg, Int32.reduceOfNat, Int32.reduceOfInt, Int64.reduceLT, Int64.reduceAdd, Int64.reduceSub, Int64.reduceMul, i32_nl, i32_ng, i64_nl, i64_ng, String.reduceEq, reduceCtorEq, room_c, room_s, R2_c, R2_s]
  refine kf0_119 (con2b _ _ _ hf) (r0 100 ?_)
  simp only [↓z0, ↓s0_0, ↓s0_1, ↓s0_2, ↓s0_3, ↓s0_5, ↓s0_7, ↓s0_8, ↓s0_9, ↓s0_11, ↓s0_13, ↓s0_14, ↓s0_16, ↓s0_17, ↓s0_20, ↓s0_22, ↓s0_23, ↓s0_26, ↓s0_28, ↓s0_29, ↓s0_32, ↓s0_34, ↓s0_36, ↓s0_39, ↓s0_40, ↓s0_42, ↓s0_44, ↓s0_47, ↓s0_49, ↓s0_50, ↓s0_53, ↓s0_54, ↓s0_56, ↓s0_57, ↓s0_58, ↓s0_60, ↓s0_61, ↓s0_63, ↓s0_66, ↓s0_68, ↓s0_69, ↓s0_72, ↓s0_73, ↓s0_75, ↓s0_76, ↓s0_77, ↓s0_79, ↓s0_80, ↓s0_81, ↓s0_82, ↓s0_84, ↓s0_85, ↓s0_87, ↓s0_90, ↓s0_91, ↓s0_93, ↓s0_94, ↓s0_95, ↓s0_97, ↓s0_98, ↓s0_99, ↓s0_100, ↓s0_102, ↓s0_103, ↓s0_104, ↓s0_105, ↓s0_107, ↓s0_108, ↓s0_110, ↓s0_112, ↓s0_115, ↓s0_117, ↓s0_119, ↓s0_122, ↓s0_124, ↓s0_126, ↓s0_128, ↓s0_130, ↓s0_133, ↓s0_135, ↓s0_137, ↓s0_139, ↓s0_142, ↓s0_144, ↓s0_146, ↓s0_147, ↓s0_150, ↓s0_152, ↓s0_154, ↓s0_156, ↓s0_159, ↓s0_161, ↓s0_163, ↓s0_164, ↓s0_167, ↓s0_169, ↓s0_171, ↓s0_173, ↓s0_176, ↓s0_178, ↓s0_180, ↓s0_182, ↓s0_183, ↓s0_184, ↓s0_186, ↓s0_188, ↓s0_189, ↓s0_190, ↓s0_191, ↓s0_192, ↓s0_194, ↓s0_195, ↓s0_196, ↓s0_198, ↓s0_200, ↓s0_202, ↓s0_204, ↓s0_207, ↓s0_209, ↓s0_211, ↓s0_213, ↓s0_216, ↓s0_218, ↓s0_220, ↓s0_223, ↓s0_226, ↓s0_227, ↓s0_230, ↓s0_231, ↓popI_c, ↓popJ_c, ↓popR_c, ↓pop1_i, ↓pop1_r, ↓pop1_n, ↓popA_r, ↓popA_n, ↓ldI_z, ↓ldJ_z, ↓ldA_z, ↓ldA_n, ↓ldI_s, ↓ldJ_s, ↓ldA_s, ↓sto1_u, ↓sto1_i, ↓sto1_r, ↓sto1_n, ↓sto1_s, ↓sto2_u, ↓sto2_l, ↓sto2_s, ↓arr_c, ↓arrI_z, ↓arrI_s, ↓obj_c, ↓objI_z, ↓objI_s, ↓idx_c, ↓idxN_c, ↓setN_c, ↓setL_z, ↓setL_s, ↓setH_z, ↓setH_s, ↓snoc_z, ↓snoc_s, ↓onLen_0, ↓onLen_1, ↓onLen_2, ↓onLen_3, ↓onLen_4, ↓repN_c, ↓onSome_c, ↓fgt_c, ↓fst_n, ↓fst_c, ↓reduceIte, List.length_cons, List.length_nil, List.mem_cons, List.not_mem_nil, or_false, true_or, or_true, true_and, and_true, and_self, not_true_eq_false, not_false_eq_true, eq_self, ne_eq, nar_b0, nar_b1, nar_bb, nar_cc, cmpL_lt, cmpL_gt, cmpL_eq, Nat.reduceAdd, Nat.reduceSub, Nat.reduceEqDiff, Nat.reduceLeDiff, Nat.zero_le, Nat.le_refl, Int32.reduceLT, Int32.reduceLE, Int32.reduceAdd, Int32.reduceSub, Int32.reduceMul, Int32.reduceToNatClampNeg, Int32.reduceOfNat, Int32.reduceOfInt, Int64.reduceLT, Int64.reduceAdd, Int64.reduceSub, Int64.reduceMul, i32_nl, i32_ng, i64_nl, i64_ng, String.reduceEq, reduceCtorEq, room_c, room_s, R2_c, R2_s]
  have p0 := pn_le (a) b0
  refine kf0_139 (con5 _ _ ([f, f, f, f, f, f, f, f, f, f, f, f]) (a) b0 h0 (by simp only [pl_len, List.length_cons, List.length_nil]; omega) (by simp only [pl_len, List.length_cons, List.length_nil]; omega)) (r0 100 ?_)
  simp only [↓z0, ↓s0_0, ↓s0_1, ↓s0_2, ↓s0_3, ↓s0_5, ↓s0_7, ↓s0_8, ↓s0_9, ↓s0_11, ↓s0_13, ↓s0_14, ↓s0_16, ↓s0_17, ↓s0_20, ↓s0_22, ↓s0_23, ↓s0_26, ↓s0_28, ↓s0_29, ↓s0_32, ↓s0_34, ↓s0_36, ↓s0_39, ↓s0_40, ↓s0_42, ↓s0_44, ↓s0_47, ↓s0_49, ↓s0_50, ↓s0_53, ↓s0_54, ↓s0_56, ↓s0_57, ↓s0_58, ↓s0_60, ↓s0_61, ↓s0_63, ↓s0_66, ↓s0_68, ↓s0_69, ↓s0_72, ↓s0_73, ↓s0_75, ↓s0_76, ↓s0_77, ↓s0_79, ↓s0_80, ↓s0_81, ↓s0_82, ↓s0_84, ↓s0_85, ↓s0_87, ↓s0_90, ↓s0_91, ↓s0_93, ↓s0_94, ↓s0_95, ↓s0_97, ↓s0_98, ↓s0_99, ↓s0_100, ↓s0_102, ↓s0_103, ↓s0_104, ↓s0_105, ↓s0_107, ↓s0_108, ↓s0_110, ↓s0_112, ↓s0_115, ↓s0_117, ↓s0_119, ↓s0_122, ↓s0_124, ↓s0_126, ↓s0_128, ↓s0_130, ↓s0_133, ↓s0_135, ↓s0_137, ↓s0_139, ↓s0_142, ↓s0_144, ↓s0_146, ↓s0_147, ↓s0_150, ↓s0_152, ↓s0_154, ↓s0_156, ↓s0_159, ↓s0_161, ↓s0_163, ↓s0_164, ↓s0_167, ↓s0_169, ↓s0_171, ↓s0_173, ↓s0_176, ↓s0_178, ↓s0_180, ↓s0_182, ↓s0_183, ↓s0_184, ↓s0_186, ↓s0_188, ↓s0_189, ↓s0_190, ↓s0_191, ↓s0_192, ↓s0_194, ↓s0_195, ↓s0_196, ↓s0_198, ↓s0_200, ↓s0_202, ↓s0_204, ↓s0_207, ↓s0_209, ↓s0_211, ↓s0_213, ↓s0_216, ↓s0_218, ↓s0_220, ↓s0_223, ↓s0_226, ↓s0_227, ↓s0_230, ↓s0_231, ↓popI_c, ↓popJ_c, ↓popR_c, ↓pop1_i, ↓pop1_r, ↓pop1_n, ↓popA_r, ↓popA_n, ↓ldI_z, ↓ldJ_z, ↓ldA_z, ↓ldA_n, ↓ldI_s, ↓ldJ_s, ↓ldA_s, ↓sto1_u, ↓sto1_i, ↓sto1_r, ↓sto1_n, ↓sto1_s, ↓sto2_u, ↓sto2_l, ↓sto2_s, ↓arr_c, ↓arrI_z, ↓arrI_s, ↓obj_c, ↓objI_z, ↓objI_s, ↓idx_c, ↓idxN_c, ↓setN_c, ↓setL_z, ↓setL_s, ↓setH_z, ↓setH_s, ↓snoc_z, ↓snoc_s, ↓onLen_0, ↓onLen_1, ↓onLen_2, ↓onLen_3, ↓onLen_4, ↓repN_c, ↓onSome_c, ↓fgt_c, ↓fst_n, ↓fst_c, ↓reduceIte, List.length_cons, List.length_nil, List.mem_cons, List.not_mem_nil, or_false, true_or, or_true, true_and, and_true, and_self, not_true_eq_false, not_false_eq_true, eq_self, ne_eq, nar_b0, nar_b1, nar_bb, nar_cc, cmpL_lt, cmpL_gt, cmpL_eq, Nat.reduceAdd, Nat.reduceSub, Nat.reduceEqDiff, Nat.reduceLeDiff, Nat.zero_le, Nat.le_refl, Int32.reduceLT, Int32.reduceLE, Int32.reduceAdd, Int32.reduceSub, Int32.reduceMul, Int32.reduceToNatClampNeg, Int32.reduceOfNat, Int32.reduceOfInt, Int64.reduceLT, Int64.reduceAdd, Int64.reduceSub, Int64.reduceMul, i32_nl, i32_ng, i64_nl, i64_ng, String.reduceEq, reduceCtorEq, room_c, room_s, R2_c, R2_s]
  have p1 := pn_le (pn (a) b0) b1
  refine kf0_156 (con5 _ _ (pl ([f, f, f, f, f, f, f, f, f, f, f, f]) (a) b0) (pn (a) b0) b1 h1 (by simp only [pl_len, List.length_cons, List.length_nil]; omega) (by simp only [pl_len, List.length_cons, List.length_nil]; omega)) (r0 100 ?_)
  simp only [↓z0, ↓s0_0, ↓s0_1, ↓s0_2, ↓s0_3, ↓s0_5, ↓s0_7, ↓s0_8, ↓s0_9, ↓s0_11, ↓s0_13, ↓s0_14, ↓s0_16, ↓s0_17, ↓s0_20, ↓s0_22, ↓s0_23, ↓s0_26, ↓s0_28, ↓s0_29, ↓s0_32, ↓s0_34, ↓s0_36, ↓s0_39, ↓s0_40, ↓s0_42, ↓s0_44, ↓s0_47, ↓s0_49, ↓s0_50, ↓s0_53, ↓s0_54, ↓s0_56, ↓s0_57, ↓s0_58, ↓s0_60, ↓s0_61, ↓s0_63, ↓s0_66, ↓s0_68, ↓s0_69, ↓s0_72, ↓s0_73, ↓s0_75, ↓s0_76, ↓s0_77, ↓s0_79, ↓s0_80, ↓s0_81, ↓s0_82, ↓s0_84, ↓s0_85, ↓s0_87, ↓s0_90, ↓s0_91, ↓s0_93, ↓s0_94, ↓s0_95, ↓s0_97, ↓s0_98, ↓s0_99, ↓s0_100, ↓s0_102, ↓s0_103, ↓s0_104, ↓s0_105, ↓s0_107, ↓s0_108, ↓s0_110, ↓s0_112, ↓s0_115, ↓s0_117, ↓s0_119, ↓s0_122, ↓s0_124, ↓s0_126, ↓s0_128, ↓s0_130, ↓s0_133, ↓s0_135, ↓s0_137, ↓s0_139, ↓s0_142, ↓s0_144, ↓s0_146, ↓s0_147, ↓s0_150, ↓s0_152, ↓s0_154, ↓s0_156, ↓s0_159, ↓s0_161, ↓s0_163, ↓s0_164, ↓s0_167, ↓s0_169, ↓s0_171, ↓s0_173, ↓s0_176, ↓s0_178, ↓s0_180, ↓s0_182, ↓s0_183, ↓s0_184, ↓s0_186, ↓s0_188, ↓s0_189, ↓s0_190, ↓s0_191, ↓s0_192, ↓s0_194, ↓s0_195, ↓s0_196, ↓s0_198, ↓s0_200, ↓s0_202, ↓s0_204, ↓s0_207, ↓s0_209, ↓s0_211, ↓s0_213, ↓s0_216, ↓s0_218, ↓s0_220, ↓s0_223, ↓s0_226, ↓s0_227, ↓s0_230, ↓s0_231, ↓popI_c, ↓popJ_c, ↓popR_c, ↓pop1_i, ↓pop1_r, ↓pop1_n, ↓popA_r, ↓popA_n, ↓ldI_z, ↓ldJ_z, ↓ldA_z, ↓ldA_n, ↓ldI_s, ↓ldJ_s, ↓ldA_s, ↓sto1_u, ↓sto1_i, ↓sto1_r, ↓sto1_n, ↓sto1_s, ↓sto2_u, ↓sto2_l, ↓sto2_s, ↓arr_c, ↓arrI_z, ↓arrI_s, ↓obj_c, ↓objI_z, ↓objI_s, ↓idx_c, ↓idxN_c, ↓setN_c, ↓setL_z, ↓setL_s, ↓setH_z, ↓setH_s, ↓snoc_z, ↓snoc_s, ↓onLen_0, ↓onLen_1, ↓onLen_2, ↓onLen_3, ↓onLen_4, ↓repN_c, ↓onSome_c, ↓fgt_c, ↓fst_n, ↓fst_c, ↓reduceIte, List.length_cons, List.length_nil, List.mem_cons, List.not_mem_nil, or_false, true_or, or_true, true_and, and_true, and_self, not_true_eq_false, not_false_eq_true, eq_self, ne_eq, nar_b0, nar_b1, nar_bb, nar_cc, cmpL_lt, cmpL_gt, cmpL_eq, Nat.reduceAdd, Nat.reduceSub, Nat.reduceEqDiff, Nat.reduceLeDiff, Nat.zero_le, Nat.le_refl, Int32.reduceLT, Int32.reduceLE, Int32.reduceAdd, Int32.reduceSub, Int32.reduceMul, Int32.reduceToNatClampNeg, Int32.reduceOfNat, Int32.reduceOfInt, Int64.reduceLT, Int64.reduceAdd, Int64.reduceSub, Int64.reduceMul, i32_nl, i32_ng, i64_nl, i64_ng, String.reduceEq, reduceCtorEq, room_c, room_s, R2_c, R2_s]
  have p2 := pn_le (pn (pn (a) b0) b1) b2
  refine kf0_173 (con5 _ _ (pl (pl ([f, f, f, f, f, f, f, f, f, f, f, f]) (a) b0) (pn (a) b0) b1) (pn (pn (a) b0) b1) b2 h2 (by simp only [pl_len, List.length_cons, List.length_nil]; omega) (by simp only [pl_len, List.length_cons, List.length_nil]; omega)) (r0 100 ?_)
  obtain ⟨P, hP⟩ : ∃ P, P = pn (pn (pn (a) b0) b1) b2 := ⟨_, rfl⟩
  obtain ⟨E, hE⟩ : ∃ E, E = pl (pl (pl ([f, f, f, f, f, f, f, f, f, f, f, f]) (a) b0) (pn (a) b0) b1) (pn (pn (a) b0) b1) b2 := ⟨_, rfl⟩
  have hlen : E.length = 12 := by rw [hE]; simp [pl_len]
  have hw : wr [b0, b1, b2] a [f, f, f, f, f, f, f, f, f, f, f, f] = (P + 2, (E.set P 0).set (P + 1) 1) := by rw [hP, hE]; rfl
  have hPb : P < 10 := by omega
  rw [← hP, ← hE]
  have g0 : P < 2147483648 := by omega
  have g1 : P + 1 < 2147483648 := by omega
  have g2 : P < E.length := by omega
  have g3 : P + 1 < (E.set P 0).length := by rw [List.length_set]; omega
  have g4 : ((E.set P 0).set (P + 1) 1).length = 12 := by rw [List.length_set, List.length_set]; exact hlen
  simp only [↓z0, ↓s0_0, ↓s0_1, ↓s0_2, ↓s0_3, ↓s0_5, ↓s0_7, ↓s0_8, ↓s0_9, ↓s0_11, ↓s0_13, ↓s0_14, ↓s0_16, ↓s0_17, ↓s0_20, ↓s0_22, ↓s0_23, ↓s0_26, ↓s0_28, ↓s0_29, ↓s0_32, ↓s0_34, ↓s0_36, ↓s0_39, ↓s0_40, ↓s0_42, ↓s0_44, ↓s0_47, ↓s0_49, ↓s0_50, ↓s0_53, ↓s0_54, ↓s0_56, ↓s0_57, ↓s0_58, ↓s0_60, ↓s0_61, ↓s0_63, ↓s0_66, ↓s0_68, ↓s0_69, ↓s0_72, ↓s0_73, ↓s0_75, ↓s0_76, ↓s0_77, ↓s0_79, ↓s0_80, ↓s0_81, ↓s0_82, ↓s0_84, ↓s0_85, ↓s0_87, ↓s0_90, ↓s0_91, ↓s0_93, ↓s0_94, ↓s0_95, ↓s0_97, ↓s0_98, ↓s0_99, ↓s0_100, ↓s0_102, ↓s0_103, ↓s0_104, ↓s0_105, ↓s0_107, ↓s0_108, ↓s0_110, ↓s0_112, ↓s0_115, ↓s0_117, ↓s0_119, ↓s0_122, ↓s0_124, ↓s0_126, ↓s0_128, ↓s0_130, ↓s0_133, ↓s0_135, ↓s0_137, ↓s0_139, ↓s0_142, ↓s0_144, ↓s0_146, ↓s0_147, ↓s0_150, ↓s0_152, ↓s0_154, ↓s0_156, ↓s0_159, ↓s0_161, ↓s0_163, ↓s0_164, ↓s0_167, ↓s0_169, ↓s0_171, ↓s0_173, ↓s0_176, ↓s0_178, ↓s0_180, ↓s0_182, ↓s0_183, ↓s0_184, ↓s0_186, ↓s0_188, ↓s0_189, ↓s0_190, ↓s0_191, ↓s0_192, ↓s0_194, ↓s0_195, ↓s0_196, ↓s0_198, ↓s0_200, ↓s0_202, ↓s0_204, ↓s0_207, ↓s0_209, ↓s0_211, ↓s0_213, ↓s0_216, ↓s0_218, ↓s0_220, ↓s0_223, ↓s0_226, ↓s0_227, ↓s0_230, ↓s0_231, ↓popI_c, ↓popJ_c, ↓popR_c, ↓pop1_i, ↓pop1_r, ↓pop1_n, ↓popA_r, ↓popA_n, ↓ldI_z, ↓ldJ_z, ↓ldA_z, ↓ldA_n, ↓ldI_s, ↓ldJ_s, ↓ldA_s, ↓sto1_u, ↓sto1_i, ↓sto1_r, ↓sto1_n, ↓sto1_s, ↓sto2_u, ↓sto2_l, ↓sto2_s, ↓arr_c, ↓arrI_z, ↓arrI_s, ↓obj_c, ↓objI_z, ↓objI_s, ↓idxN_c, ↓setL_z, ↓setL_s, ↓setH_z, ↓setH_s, ↓snoc_z, ↓snoc_s, ↓onLen_0, ↓onLen_1, ↓onLen_2, ↓onLen_3, ↓onLen_4, ↓repN_c, ↓onSome_c, ↓fgt_c, ↓fst_n, ↓fst_c, ↓reduceIte, List.length_cons, List.length_nil, List.mem_cons, List.not_mem_nil, or_false, true_or, or_true, true_and, and_true, and_self, not_true_eq_false, not_false_eq_true, eq_self, ne_eq, nar_b0, nar_b1, nar_bb, nar_cc, cmpL_lt, cmpL_gt, cmpL_eq, Nat.reduceAdd, Nat.reduceSub, Nat.reduceEqDiff, Nat.reduceLeDiff, Nat.zero_le, Nat.le_refl, Int32.reduceLT, Int32.reduceLE, Int32.reduceAdd, Int32.reduceSub, Int32.reduceMul, Int32.reduceToNatClampNeg, Int32.reduceOfNat, Int32.reduceOfInt, Int64.reduceLT, Int64.reduceAdd, Int64.reduceSub, Int64.reduceMul, i32_nl, i32_ng, i64_nl, i64_ng, String.reduceEq, reduceCtorEq, room_c, room_s, R2_c, R2_s, ↓idx_iv g0 g2, ↓setN_d, onat_nat g0, onat_succ, onat_2, onat_nat g1, n0, n1, ivs_set, ↓idx_iv g1 g3]
  refine kf0_204 (con3 _ [b0, b1, b2] [f, f, f, f, f, f, f, f, f, f, f, f] a (by simp) (by simp only [List.length_cons, List.length_nil]; omega) (by first | omega | simp) (by intro y hy; simp only [List.mem_cons, List.not_mem_nil, or_false] at hy; rcases hy with rfl | rfl | rfl <;> assumption)) (r0 100 ?_)
  rw [hw]
  simp only [↓z0, ↓s0_0, ↓s0_1, ↓s0_2, ↓s0_3, ↓s0_5, ↓s0_7, ↓s0_8, ↓s0_9, ↓s0_11, ↓s0_13, ↓s0_14, ↓s0_16, ↓s0_17, ↓s0_20, ↓s0_22, ↓s0_23, ↓s0_26, ↓s0_28, ↓s0_29, ↓s0_32, ↓s0_34, ↓s0_36, ↓s0_39, ↓s0_40, ↓s0_42, ↓s0_44, ↓s0_47, ↓s0_49, ↓s0_50, ↓s0_53, ↓s0_54, ↓s0_56, ↓s0_57, ↓s0_58, ↓s0_60, ↓s0_61, ↓s0_63, ↓s0_66, ↓s0_68, ↓s0_69, ↓s0_72, ↓s0_73, ↓s0_75, ↓s0_76, ↓s0_77, ↓s0_79, ↓s0_80, ↓s0_81, ↓s0_82, ↓s0_84, ↓s0_85, ↓s0_87, ↓s0_90, ↓s0_91, ↓s0_93, ↓s0_94, ↓s0_95, ↓s0_97, ↓s0_98, ↓s0_99, ↓s0_100, ↓s0_102, ↓s0_103, ↓s0_104, ↓s0_105, ↓s0_107, ↓s0_108, ↓s0_110, ↓s0_112, ↓s0_115, ↓s0_117, ↓s0_119, ↓s0_122, ↓s0_124, ↓s0_126, ↓s0_128, ↓s0_130, ↓s0_133, ↓s0_135, ↓s0_137, ↓s0_139, ↓s0_142, ↓s0_144, ↓s0_146, ↓s0_147, ↓s0_150, ↓s0_152, ↓s0_154, ↓s0_156, ↓s0_159, ↓s0_161, ↓s0_163, ↓s0_164, ↓s0_167, ↓s0_169, ↓s0_171, ↓s0_173, ↓s0_176, ↓s0_178, ↓s0_180, ↓s0_182, ↓s0_183, ↓s0_184, ↓s0_186, ↓s0_188, ↓s0_189, ↓s0_190, ↓s0_191, ↓s0_192, ↓s0_194, ↓s0_195, ↓s0_196, ↓s0_198, ↓s0_200, ↓s0_202, ↓s0_204, ↓s0_207, ↓s0_209, ↓s0_211, ↓s0_213, ↓s0_216, ↓s0_218, ↓s0_220, ↓s0_223, ↓s0_226, ↓s0_227, ↓s0_230, ↓s0_231, ↓popI_c, ↓popJ_c, ↓popR_c, ↓pop1_i, ↓pop1_r, ↓pop1_n, ↓popA_r, ↓popA_n, ↓ldI_z, ↓ldJ_z, ↓ldA_z, ↓ldA_n, ↓ldI_s, ↓ldJ_s, ↓ldA_s, ↓sto1_u, ↓sto1_i, ↓sto1_r, ↓sto1_n, ↓sto1_s, ↓sto2_u, ↓sto2_l, ↓sto2_s, ↓arr_c, ↓arrI_z, ↓arrI_s, ↓obj_c, ↓objI_z, ↓objI_s, ↓idx_c, ↓idxN_c, ↓setN_c, ↓setL_z, ↓setL_s, ↓setH_z, ↓setH_s, ↓snoc_z, ↓snoc_s, ↓onLen_0, ↓onLen_1, ↓onLen_2, ↓onLen_3, ↓onLen_4, ↓repN_c, ↓onSome_c, ↓fgt_c, ↓fst_n, ↓fst_c, ↓reduceIte, List.length_cons, List.length_nil, List.mem_cons, List.not_mem_nil, or_false, true_or, or_true, true_and, and_true, and_self, not_true_eq_false, not_false_eq_true, eq_self, ne_eq, nar_b0, nar_b1, nar_bb, nar_cc, cmpL_lt, cmpL_gt, cmpL_eq, Nat.reduceAdd, Nat.reduceSub, Nat.reduceEqDiff, Nat.reduceLeDiff, Nat.zero_le, Nat.le_refl, Int32.reduceLT, Int32.reduceLE, Int32.reduceAdd, Int32.reduceSub, Int32.reduceMul, Int32.reduceToNatClampNeg, Int32.reduceOfNat, Int32.reduceOfInt, Int64.reduceLT, Int64.reduceAdd, Int64.reduceSub, Int64.reduceMul, i32_nl, i32_ng, i64_nl, i64_ng, String.reduceEq, reduceCtorEq, room_c, room_s, R2_c, R2_s]
  refine kf0_220 (con4 _ _ g4) (r0 100 ?_)
  simp only [↓z0, ↓s0_0, ↓s0_1, ↓s0_2, ↓s0_3, ↓s0_5, ↓s0_7, ↓s0_8, ↓s0_9, ↓s0_11, ↓s0_13, ↓s0_14, ↓s0_16, ↓s0_17, ↓s0_20, ↓s0_22, ↓s0_23, ↓s0_26, ↓s0_28, ↓s0_29, ↓s0_32, ↓s0_34, ↓s0_36, ↓s0_39, ↓s0_40, ↓s0_42, ↓s0_44, ↓s0_47, ↓s0_49, ↓s0_50, ↓s0_53, ↓s0_54, ↓s0_56, ↓s0_57, ↓s0_58, ↓s0_60, ↓s0_61, ↓s0_63, ↓s0_66, ↓s0_68, ↓s0_69, ↓s0_72, ↓s0_73, ↓s0_75, ↓s0_76, ↓s0_77, ↓s0_79, ↓s0_80, ↓s0_81, ↓s0_82, ↓s0_84, ↓s0_85, ↓s0_87, ↓s0_90, ↓s0_91, ↓s0_93, ↓s0_94, ↓s0_95, ↓s0_97, ↓s0_98, ↓s0_99, ↓s0_100, ↓s0_102, ↓s0_103, ↓s0_104, ↓s0_105, ↓s0_107, ↓s0_108, ↓s0_110, ↓s0_112, ↓s0_115, ↓s0_117, ↓s0_119, ↓s0_122, ↓s0_124, ↓s0_126, ↓s0_128, ↓s0_130, ↓s0_133, ↓s0_135, ↓s0_137, ↓s0_139, ↓s0_142, ↓s0_144, ↓s0_146, ↓s0_147, ↓s0_150, ↓s0_152, ↓s0_154, ↓s0_156, ↓s0_159, ↓s0_161, ↓s0_163, ↓s0_164, ↓s0_167, ↓s0_169, ↓s0_171, ↓s0_173, ↓s0_176, ↓s0_178, ↓s0_180, ↓s0_182, ↓s0_183, ↓s0_184, ↓s0_186, ↓s0_188, ↓s0_189, ↓s0_190, ↓s0_191, ↓s0_192, ↓s0_194, ↓s0_195, ↓s0_196, ↓s0_198, ↓s0_200, ↓s0_202, ↓s0_204, ↓s0_207, ↓s0_209, ↓s0_211, ↓s0_213, ↓s0_216, ↓s0_218, ↓s0_220, ↓s0_223, ↓s0_226, ↓s0_227, ↓s0_230, ↓s0_231, ↓popI_c, ↓popJ_c, ↓popR_c, ↓pop1_i, ↓pop1_r, ↓pop1_n, ↓popA_r, ↓popA_n, ↓ldI_z, ↓ldJ_z, ↓ldA_z, ↓ldA_n, ↓ldI_s, ↓ldJ_s, ↓ldA_s, ↓sto1_u, ↓sto1_i, ↓sto1_r, ↓sto1_n, ↓sto1_s, ↓sto2_u, ↓sto2_l, ↓sto2_s, ↓arr_c, ↓arrI_z, ↓arrI_s, ↓obj_c, ↓objI_z, ↓objI_s, ↓idx_c, ↓idxN_c, ↓setN_c, ↓setL_z, ↓setL_s, ↓setH_z, ↓setH_s, ↓snoc_z, ↓snoc_s, ↓onLen_0, ↓onLen_1, ↓onLen_2, ↓onLen_3, ↓onLen_4, ↓repN_c, ↓onSome_c, ↓fgt_c, ↓fst_n, ↓fst_c, ↓reduceIte, List.length_cons, List.length_nil, List.mem_cons, List.not_mem_nil, or_false, true_or, or_true, true_and, and_true, and_self, not_true_eq_false, not_false_eq_true, eq_self, ne_eq, nar_b0, nar_b1, nar_bb, nar_cc, cmpL_lt, cmpL_gt, cmpL_eq, Nat.reduceAdd, Nat.reduceSub, Nat.reduceEqDiff, Nat.reduceLeDiff, Nat.zero_le, Nat.le_refl, Int32.reduceLT, Int32.reduceLE, Int32.reduceAdd, Int32.reduceSub, Int32.reduceMul, Int32.reduceToNatClampNeg, Int32.reduceOfNat, Int32.reduceOfInt, Int64.reduceLT, Int64.reduceAdd, Int64.reduceSub, Int64.reduceMul, i32_nl, i32_ng, i64_nl, i64_ng, String.reduceEq, reduceCtorEq, room_c, room_s, R2_c, R2_s]
end Own
theorem law (l : Launch) (Z : State) (b : Heap) (i0 i1 i2 i3 i4 i5 : Int32) : G0 l Z b (fun v _ => v = some (.int 1)) 0 [.val (.int i0), .val (.int i1), .val (.int i2), .val (.int i3), .val (.int i4), .val (.int i5), .unset, .unset, .unset, .unset, .unset, .unset, .unset, .unset, .unset, .unset, .unset] [] [] 0 0 := by
  have e1 : (i0 &&& 3).toInt = i0.toInt % 2 ^ 2 := Jvm.Kit.i32_mask _ _ (k := 2) (by decide) (by decide)
  have e2 : (i4 &&& 3).toInt = i4.toInt % 2 ^ 2 := Jvm.Kit.i32_mask _ _ (k := 2) (by decide) (by decide)
  obtain ⟨a, ha, hv⟩ := to_onat (x := i4 &&& 3) (m := 4) (by omega) (by omega)
  refine r0 100 ?_
  simp only [↓z0, ↓s0_0, ↓s0_1, ↓s0_2, ↓s0_3, ↓s0_5, ↓s0_7, ↓s0_8, ↓s0_9, ↓s0_11, ↓s0_13, ↓s0_14, ↓s0_16, ↓s0_17, ↓s0_20, ↓s0_22, ↓s0_23, ↓s0_26, ↓s0_28, ↓s0_29, ↓s0_32, ↓s0_34, ↓s0_36, ↓s0_39, ↓s0_40, ↓s0_42, ↓s0_44, ↓s0_47, ↓s0_49, ↓s0_50, ↓s0_53, ↓s0_54, ↓s0_56, ↓s0_57, ↓s0_58, ↓s0_60, ↓s0_61, ↓s0_63, ↓s0_66, ↓s0_68, ↓s0_69, ↓s0_72, ↓s0_73, ↓s0_75, ↓s0_76, ↓s0_77, ↓s0_79, ↓s0_80, ↓s0_81, ↓s0_82, ↓s0_84, ↓s0_85, ↓s0_87, ↓s0_90, ↓s0_91, ↓s0_93, ↓s0_94, ↓s0_95, ↓s0_97, ↓s0_98, ↓s0_99, ↓s0_100, ↓s0_102, ↓s0_103, ↓s0_104, ↓s0_105, ↓s0_107, ↓s0_108, ↓s0_110, ↓s0_112, ↓s0_115, ↓s0_117, ↓s0_119, ↓s0_122, ↓s0_124, ↓s0_126, ↓s0_128, ↓s0_130, ↓s0_133, ↓s0_135, ↓s0_137, ↓s0_139, ↓s0_142, ↓s0_144, ↓s0_146, ↓s0_147, ↓s0_150, ↓s0_152, ↓s0_154, ↓s0_156, ↓s0_159, ↓s0_161, ↓s0_163, ↓s0_164, ↓s0_167, ↓s0_169, ↓s0_171, ↓s0_173, ↓s0_176, ↓s0_178, ↓s0_180, ↓s0_182, ↓s0_183, ↓s0_184, ↓s0_186, ↓s0_188, ↓s0_189, ↓s0_190, ↓s0_191, ↓s0_192, ↓s0_194, ↓s0_195, ↓s0_196, ↓s0_198, ↓s0_200, ↓s0_202, ↓s0_204, ↓s0_207, ↓s0_209, ↓s0_211, ↓s0_213, ↓s0_216, ↓s0_218, ↓s0_220, ↓s0_223, ↓s0_226, ↓s0_227, ↓s0_230, ↓s0_231, ↓popI_c, ↓popJ_c, ↓popR_c, ↓pop1_i, ↓pop1_r, ↓pop1_n, ↓popA_r, ↓popA_n, ↓ldI_z, ↓ldJ_z, ↓ldA_z, ↓ldA_n, ↓ldI_s, ↓ldJ_s, ↓ldA_s, ↓sto1_u, ↓sto1_i, ↓sto1_r, ↓sto1_n, ↓sto1_s, ↓sto2_u, ↓sto2_l, ↓sto2_s, ↓arr_c, ↓arrI_z, ↓arrI_s, ↓obj_c, ↓objI_z, ↓objI_s, ↓idx_c, ↓idxN_c, ↓setN_c, ↓setL_z, ↓setL_s, ↓setH_z, ↓setH_s, ↓snoc_z, ↓snoc_s, ↓onLen_0, ↓onLen_1, ↓onLen_2, ↓onLen_3, ↓onLen_4, ↓repN_c, ↓onSome_c, ↓fgt_c, ↓fst_n, ↓fst_c, ↓reduceIte, List.length_cons, List.length_nil, List.mem_cons, List.not_mem_nil, or_false, true_or, or_true, true_and, and_true, and_self, not_true_eq_false, not_false_eq_true, eq_self, ne_eq, nar_b0, nar_b1, nar_bb, nar_cc, cmpL_lt, cmpL_gt, cmpL_eq, Nat.reduceAdd, Nat.reduceSub, Nat.reduceEqDiff, Nat.reduceLeDiff, Nat.zero_le, Nat.le_refl, Int32.reduceLT, Int32.reduceLE, Int32.reduceAdd, Int32.reduceSub, Int32.reduceMul, Int32.reduceToNatClampNeg, Int32.reduceOfNat, Int32.reduceOfInt, Int64.reduceLT, Int64.reduceAdd, Int64.reduceSub, Int64.reduceMul, i32_nl, i32_ng, i64_nl, i64_ng, String.reduceEq, reduceCtorEq, room_c, room_s, R2_c, R2_s]
  refine k0_17 (con1 _) ?_
  rintro _ _ ⟨b0, rfl, h0, rfl⟩
  refine r0 100 ?_
  show V0 l Z b _ 100 _ _ (.int b0 :: _) _ _ _
  simp only [↓z0, ↓s0_0, ↓s0_1, ↓s0_2, ↓s0_3, ↓s0_5, ↓s0_7, ↓s0_8, ↓s0_9, ↓s0_11, ↓s0_13, ↓s0_14, ↓s0_16, ↓s0_17, ↓s0_20, ↓s0_22, ↓s0_23, ↓s0_26, ↓s0_28, ↓s0_29, ↓s0_32, ↓s0_34, ↓s0_36, ↓s0_39, ↓s0_40, ↓s0_42, ↓s0_44, ↓s0_47, ↓s0_49, ↓s0_50, ↓s0_53, ↓s0_54, ↓s0_56, ↓s0_57, ↓s0_58, ↓s0_60, ↓s0_61, ↓s0_63, ↓s0_66, ↓s0_68, ↓s0_69, ↓s0_72, ↓s0_73, ↓s0_75, ↓s0_76, ↓s0_77, ↓s0_79, ↓s0_80, ↓s0_81, ↓s0_82, ↓s0_84, ↓s0_85, ↓s0_87, ↓s0_90, ↓s0_91, ↓s0_93, ↓s0_94, ↓s0_95, ↓s0_97, ↓s0_98, ↓s0_99, ↓s0_100, ↓s0_102, ↓s0_103, ↓s0_104, ↓s0_105, ↓s0_107, ↓s0_108, ↓s0_110, ↓s0_112, ↓s0_115, ↓s0_117, ↓s0_119, ↓s0_122, ↓s0_124, ↓s0_126, ↓s0_128, ↓s0_130, ↓s0_133, ↓s0_135, ↓s0_137, ↓s0_139, ↓s0_142, ↓s0_144, ↓s0_146, ↓s0_147, ↓s0_150, ↓s0_152, ↓s0_154, ↓s0_156, ↓s0_159, ↓s0_161, ↓s0_163, ↓s0_164, ↓s0_167, ↓s0_169, ↓s0_171, ↓s0_173, ↓s0_176, ↓s0_178, ↓s0_180, ↓s0_182, ↓s0_183, ↓s0_184, ↓s0_186, ↓s0_188, ↓s0_189, ↓s0_190, ↓s0_191, ↓s0_192, ↓s0_194, ↓s0_195, ↓s0_196, ↓s0_198, ↓s0_200, ↓s0_202, ↓s0_204, ↓s0_207, ↓s0_209, ↓s0_211, ↓s0_213, ↓s0_216, ↓s0_218, ↓s0_220, ↓s0_223, ↓s0_226, ↓s0_227, ↓s0_230, ↓s0_231, ↓popI_c, ↓popJ_c, ↓popR_c, ↓pop1_i, ↓pop1_r, ↓pop1_n, ↓popA_r, ↓popA_n, ↓ldI_z, ↓ldJ_z, ↓ldA_z, ↓ldA_n, ↓ldI_s, ↓ldJ_s, ↓ldA_s, ↓sto1_u, ↓sto1_i, ↓sto1_r, ↓sto1_n, ↓sto1_s, ↓sto2_u, ↓sto2_l, ↓sto2_s, ↓arr_c, ↓arrI_z, ↓arrI_s, ↓obj_c, ↓objI_z, ↓objI_s, ↓idx_c, ↓idxN_c, ↓setN_c, ↓setL_z, ↓setL_s, ↓setH_z, ↓setH_s, ↓snoc_z, ↓snoc_s, ↓onLen_0, ↓onLen_1, ↓onLen_2, ↓onLen_3, ↓onLen_4, ↓repN_c, ↓onSome_c, ↓fgt_c, ↓fst_n, ↓fst_c, ↓reduceIte, List.length_cons, List.length_nil, List.mem_cons, List.not_mem_nil, or_false, true_or, or_true, true_and, and_true, and_self, not_true_eq_false, not_false_eq_true, eq_self, ne_eq, nar_b0, nar_b1, nar_bb, nar_cc, cmpL_lt, cmpL_gt, cmpL_eq, Nat.reduceAdd, Nat.reduceSub, Nat.reduceEqDiff, Nat.reduceLeDiff, Nat.zero_le, Nat.le_refl, Int32.reduceLT, Int32.reduceLE, Int32.reduceAdd, Int32.reduceSub, Int32.reduceMul, Int32.reduceToNatClampNeg, Int32.reduceOfNat, Int32.reduceOfInt, Int64.reduceLT, Int64.reduceAdd, Int64.reduceSub, Int64.reduceMul, i32_nl, i32_ng, i64_nl, i64_ng, String.reduceEq, reduceCtorEq, room_c, room_s, R2_c, R2_s]
  refine k0_23 (con1 _) ?_
  rintro _ _ ⟨b1, rfl, h1, rfl⟩
  refine r0 100 ?_
  show V0 l Z b _ 100 _ _ (.int b1 :: _) _ _ _
  simp only [↓z0, ↓s0_0, ↓s0_1, ↓s0_2, ↓s0_3, ↓s0_5, ↓s0_7, ↓s0_8, ↓s0_9, ↓s0_11, ↓s0_13, ↓s0_14, ↓s0_16, ↓s0_17, ↓s0_20, ↓s0_22, ↓s0_23, ↓s0_26, ↓s0_28, ↓s0_29, ↓s0_32, ↓s0_34, ↓s0_36, ↓s0_39, ↓s0_40, ↓s0_42, ↓s0_44, ↓s0_47, ↓s0_49, ↓s0_50, ↓s0_53, ↓s0_54, ↓s0_56, ↓s0_57, ↓s0_58, ↓s0_60, ↓s0_61, ↓s0_63, ↓s0_66, ↓s0_68, ↓s0_69, ↓s0_72, ↓s0_73, ↓s0_75, ↓s0_76, ↓s0_77, ↓s0_79, ↓s0_80, ↓s0_81, ↓s0_82, ↓s0_84, ↓s0_85, ↓s0_87, ↓s0_90, ↓s0_91, ↓s0_93, ↓s0_94, ↓s0_95, ↓s0_97, ↓s0_98, ↓s0_99, ↓s0_100, ↓s0_102, ↓s0_103, ↓s0_104, ↓s0_105, ↓s0_107, ↓s0_108, ↓s0_110, ↓s0_112, ↓s0_115, ↓s0_117, ↓s0_119, ↓s0_122, ↓s0_124, ↓s0_126, ↓s0_128, ↓s0_130, ↓s0_133, ↓s0_135, ↓s0_137, ↓s0_139, ↓s0_142, ↓s0_144, ↓s0_146, ↓s0_147, ↓s0_150, ↓s0_152, ↓s0_154, ↓s0_156, ↓s0_159, ↓s0_161, ↓s0_163, ↓s0_164, ↓s0_167, ↓s0_169, ↓s0_171, ↓s0_173, ↓s0_176, ↓s0_178, ↓s0_180, ↓s0_182, ↓s0_183, ↓s0_184, ↓s0_186, ↓s0_188, ↓s0_189, ↓s0_190, ↓s0_191, ↓s0_192, ↓s0_194, ↓s0_195, ↓s0_196, ↓s0_198, ↓s0_200, ↓s0_202, ↓s0_204, ↓s0_207, ↓s0_209, ↓s0_211, ↓s0_213, ↓s0_216, ↓s0_218, ↓s0_220, ↓s0_223, ↓s0_226, ↓s0_227, ↓s0_230, ↓s0_231, ↓popI_c, ↓popJ_c, ↓popR_c, ↓pop1_i, ↓pop1_r, ↓pop1_n, ↓popA_r, ↓popA_n, ↓ldI_z, ↓ldJ_z, ↓ldA_z, ↓ldA_n, ↓ldI_s, ↓ldJ_s, ↓ldA_s, ↓sto1_u, ↓sto1_i, ↓sto1_r, ↓sto1_n, ↓sto1_s, ↓sto2_u, ↓sto2_l, ↓sto2_s, ↓arr_c, ↓arrI_z, ↓arrI_s, ↓obj_c, ↓objI_z, ↓objI_s, ↓idx_c, ↓idxN_c, ↓setN_c, ↓setL_z, ↓setL_s, ↓setH_z, ↓setH_s, ↓snoc_z, ↓snoc_s, ↓onLen_0, ↓onLen_1, ↓onLen_2, ↓onLen_3, ↓onLen_4, ↓repN_c, ↓onSome_c, ↓fgt_c, ↓fst_n, ↓fst_c, ↓reduceIte, List.length_cons, List.length_nil, List.mem_cons, List.not_mem_nil, or_false, true_or, or_true, true_and, and_true, and_self, not_true_eq_false, not_false_eq_true, eq_self, ne_eq, nar_b0, nar_b1, nar_bb, nar_cc, cmpL_lt, cmpL_gt, cmpL_eq, Nat.reduceAdd, Nat.reduceSub, Nat.reduceEqDiff, Nat.reduceLeDiff, Nat.zero_le, Nat.le_refl, Int32.reduceLT, Int32.reduceLE, Int32.reduceAdd, Int32.reduceSub, Int32.reduceMul, Int32.reduceToNatClampNeg, Int32.reduceOfNat, Int32.reduceOfInt, Int64.reduceLT, Int64.reduceAdd, Int64.reduceSub, Int64.reduceMul, i32_nl, i32_ng, i64_nl, i64_ng, String.reduceEq, reduceCtorEq, room_c, room_s, R2_c, R2_s]
  refine k0_29 (con1 _) ?_
  rintro _ _ ⟨b2, rfl, h2, rfl⟩
  refine r0 100 ?_
  show V0 l Z b _ 100 _ _ (.int b2 :: _) _ _ _
  simp only [↓z0, ↓s0_0, ↓s0_1, ↓s0_2, ↓s0_3, ↓s0_5, ↓s0_7, ↓s0_8, ↓s0_9, ↓s0_11, ↓s0_13, ↓s0_14, ↓s0_16, ↓s0_17, ↓s0_20, ↓s0_22, ↓s0_23, ↓s0_26, ↓s0_28, ↓s0_29, ↓s0_32, ↓s0_34, ↓s0_36, ↓s0_39, ↓s0_40, ↓s0_42, ↓s0_44, ↓s0_47, ↓s0_49, ↓s0_50, ↓s0_53, ↓s0_54, ↓s0_56, ↓s0_57, ↓s0_58, ↓s0_60, ↓s0_61, ↓s0_63, ↓s0_66, ↓s0_68, ↓s0_69, ↓s0_72, ↓s0_73, ↓s0_75, ↓s0_76, ↓s0_77, ↓s0_79, ↓s0_80, ↓s0_81, ↓s0_82, ↓s0_84, ↓s0_85, ↓s0_87, ↓s0_90, ↓s0_91, ↓s0_93, ↓s0_94, ↓s0_95, ↓s0_97, ↓s0_98, ↓s0_99, ↓s0_100, ↓s0_102, ↓s0_103, ↓s0_104, ↓s0_105, ↓s0_107, ↓s0_108, ↓s0_110, ↓s0_112, ↓s0_115, ↓s0_117, ↓s0_119, ↓s0_122, ↓s0_124, ↓s0_126, ↓s0_128, ↓s0_130, ↓s0_133, ↓s0_135, ↓s0_137, ↓s0_139, ↓s0_142, ↓s0_144, ↓s0_146, ↓s0_147, ↓s0_150, ↓s0_152, ↓s0_154, ↓s0_156, ↓s0_159, ↓s0_161, ↓s0_163, ↓s0_164, ↓s0_167, ↓s0_169, ↓s0_171, ↓s0_173, ↓s0_176, ↓s0_178, ↓s0_180, ↓s0_182, ↓s0_183, ↓s0_184, ↓s0_186, ↓s0_188, ↓s0_189, ↓s0_190, ↓s0_191, ↓s0_192, ↓s0_194, ↓s0_195, ↓s0_196, ↓s0_198, ↓s0_200, ↓s0_202, ↓s0_204, ↓s0_207, ↓s0_209, ↓s0_211, ↓s0_213, ↓s0_216, ↓s0_218, ↓s0_220, ↓s0_223, ↓s0_226, ↓s0_227, ↓s0_230, ↓s0_231, ↓popI_c, ↓popJ_c, ↓popR_c, ↓pop1_i, ↓pop1_r, ↓pop1_n, ↓popA_r, ↓popA_n, ↓ldI_z, ↓ldJ_z, ↓ldA_z, ↓ldA_n, ↓ldI_s, ↓ldJ_s, ↓ldA_s, ↓sto1_u, ↓sto1_i, ↓sto1_r, ↓sto1_n, ↓sto1_s, ↓sto2_u, ↓sto2_l, ↓sto2_s, ↓arr_c, ↓arrI_z, ↓arrI_s, ↓obj_c, ↓objI_z, ↓objI_s, ↓idx_c, ↓idxN_c, ↓setN_c, ↓setL_z, ↓setL_s, ↓setH_z, ↓setH_s, ↓snoc_z, ↓snoc_s, ↓onLen_0, ↓onLen_1, ↓onLen_2, ↓onLen_3, ↓onLen_4, ↓repN_c, ↓onSome_c, ↓fgt_c, ↓fst_n, ↓fst_c, ↓reduceIte, List.length_cons, List.length_nil, List.mem_cons, List.not_mem_nil, or_false, true_or, or_true, true_and, and_true, and_self, not_true_eq_false, not_false_eq_true, eq_self, ne_eq, nar_b0, nar_b1, nar_bb, nar_cc, cmpL_lt, cmpL_gt, cmpL_eq, Nat.reduceAdd, Nat.reduceSub, Nat.reduceEqDiff, Nat.reduceLeDiff, Nat.zero_le, Nat.le_refl, Int32.reduceLT, Int32.reduceLE, Int32.reduceAdd, Int32.reduceSub, Int32.reduceMul, Int32.reduceToNatClampNeg, Int32.reduceOfNat, Int32.reduceOfInt, Int64.reduceLT, Int64.reduceAdd, Int64.reduceSub, Int64.reduceMul, i32_nl, i32_ng, i64_nl, i64_ng, String.reduceEq, reduceCtorEq, room_c, room_s, R2_c, R2_s, hv]
  rcases cases4 (v := i0 &&& 3) (by omega) (by omega) with hn | hn | hn | hn <;> rw [hn]
  · exact st34_0 _ _ _ _ _ _ _ _ _ _ a ha nar_bb h0 h1 h2
  · exact st34_1 _ _ _ _ _ _ _ _ _ _ a ha nar_bb h0 h1 h2
  · exact st34_2 _ _ _ _ _ _ _ _ _ _ a ha nar_bb h0 h1 h2
  · exact st34_3 _ _ _ _ _ _ _ _ _ _ a ha nar_bb h0 h1 h2
theorem comes_1 {Post : Tables → Env → Array Value → State → Outcome → State → Prop} (hpost : ∀ tb e args s v u, (limb_1_1.after args s (.returned v) u = true ∧ limb_1_2.after args s (.returned v) u = true ∧ True) → FrameEnd s (.returned v) u (Jvm.fieldLocs frame_1_writes args s ++ Jvm.arrayLocs frame_1_arrays args s ++ Jvm.staticLocs frame_1_statics s) 16 128 → Post tb e args s (.returned v) u) :
    ArmFor flags0 classFile x code maxLocals ret World_1 tables_1 room_1 Calls_1 rest_1 Pre_1 Post := by
  intro l hfl _ _ p e ha hc hk s m args below hf hA hF happ hP
  obtain ⟨hcalls, hrest, hpre⟩ := hP
  obtain ⟨-, -, -, hnamed, -, -, -, hat⟩ := (Spec.applies_iff hf).mp happ
  obtain ⟨hg, hn⟩ := and_e (Cond.before_iff.mp (show (Jvm.Cond.and given_1 narrow_1).before args s = true from hpre))
  obtain ⟨hcount, g0⟩ := and_e hg
  obtain ⟨q0, g1⟩ := and_e g0
  obtain ⟨q1, g2⟩ := and_e g1
  obtain ⟨q2, g3⟩ := and_e g2
  obtain ⟨q3, g4⟩ := and_e g3
  obtain ⟨q4, g5⟩ := and_e g4
  obtain ⟨w0, w1, w2, w3, w4, w5, rfl⟩ : ∃ w0 w1 w2 w3 w4 w5 : Value, args = #[w0, w1, w2, w3, w4, w5] := by
    have hs : args.size = 6 := by simpa [Cond.value, given_1] using hcount
    obtain ⟨L⟩ := args
    match L, hs with
    | [w0, w1, w2, w3, w4, w5], _ => exact ⟨w0, w1, w2, w3, w4, w5, rfl⟩
  have hw := fun d (hd : d ∈ tables_1) => atoms_spec (ws := Jvm.Cond.code x code maxLocals ret :: tables_1) hat d (List.mem_cons_of_mem _ hd)
  obtain ⟨i0, ei0⟩ := is_v q0
  obtain rfl : w0 = (.int i0) := Option.some.inj ei0
  obtain ⟨i1, ei1⟩ := is_v q1
  obtain rfl : w1 = (.int i1) := Option.some.inj ei1
  obtain ⟨i2, ei2⟩ := is_v q2
  obtain rfl : w2 = (.int i2) := Option.some.inj ei2
  obtain ⟨i3, ei3⟩ := is_v q3
  obtain rfl : w3 = (.int i3) := Option.some.inj ei3
  obtain ⟨i4, ei4⟩ := is_v q4
  obtain rfl : w4 = (.int i4) := Option.some.inj ei4
  obtain ⟨i5, ei5⟩ := is_v g5
  obtain rfl : w5 = (.int i5) := Option.some.inj ei5
  obtain ⟨n, o, h1, h2, h3, v, L, rfl, ⟨N, H', -, hv⟩, hq⟩ := G.met (ws := tables_1) (y := x) (by first | decide +kernel | exact plainFor_of_name (by simp [x, plainName, overriddenIn])) (fun m => ef0 m i0 i1 i2 i3 i4 i5) (show G code x.cls x.name maxLocals ret room_1 tables_1 l s s.heap 16 128 _ 0 _ [] [] 0 0 from law l s s.heap i0 i1 i2 i3 i4 i5) _ s.heap hw ⟨rfl, fun i c hc => by cases hc⟩ p e ha hc hk s m _ below hf ((Spec.applies_iff_loose hf).mp happ).1 ⟨rfl, State.Warmed39.refl s, rfl⟩ trivial
  cases hv
  refine ⟨n, _, h1, h2, h3, hpost _ _ _ _ _ _ ⟨Cond.after_iff.mpr rfl, Cond.after_iff.mpr (eq_i res_at (Term.int_eval (1)) rfl), trivial⟩ ⟨hq.1, hq.2.1, hq.2.2.sift fun y hy => Or.inr (N y hy)⟩⟩
theorem main_1_1 : Claimed_1_1 := comes_1 fun _ _ _ _ _ _ h hF => ⟨h.1, hF⟩
theorem main_1_2 : Claimed_1_2 := comes_1 fun _ _ _ _ _ _ h hF => ⟨h.2.1, hF⟩
end Jvm.Pilot.@@N@@
namespace Jvm.Pilot.@@N@@
open Jvm Jvm.ClassFile Sem Op Lib Jvm.Free Jvm.Stand Jvm.Pilot.@@N@@.Jvm.D
/-! MADE BY PROGRAM (witnessworld.py) out of the Statement's table words and the real class files: 9 classes; the members and pool entries that the words name. The judged class is class 1, her method 1. -/
namespace start1
open Jvm.ClassFile
def u (s : String) : CpInfo := .utf8 (stringToUtf16 s)
/-- a pool by its gaps: so many unusable entries, then the entry; so many at the end -/
def gap : Nat → List CpInfo → List CpInfo
  | 0, r => r
  | n + 1, r => .unusable :: gap n r
def poolList (es : List (Nat × CpInfo)) (last : Nat) : List CpInfo := es.foldr (fun e r => gap e.1 (e.2 :: r)) (gap last [])
def pool (es : List (Nat × CpInfo)) (last : Nat) : Array CpInfo := ⟨poolList es last⟩
def fileOf (pool : Array CpInfo) (this : Nat) (attrs : Array Attribute := #[]) (ms : Array MethodInfo := #[]) (fl : Nat := 33) (sup : Nat := 0) (ifs : Array Nat := #[]) (fds : Array FieldInfo := #[]) : ClassFile where
  minorVersion := 0
  majorVersion := 65
  constantPool := pool
  accessFlags := fl
  thisClass := this
  superClass := sup
  interfaces := ifs
  fields := fds
  methods := ms
  attributes := attrs
def plain (name : String) (sup : Option ClassId) : Class where
  name := name
  kind := .ordinary
  loader := none
  accessFlags := 33
  super := sup
  interfaces := #[]
  cf := none
  fields := #[]
  methods := #[]
  instanceTypes := #[]
  staticTypes := #[]
  resolved := #[]
  callSites := []
  init := .initialized
  statics := none
  mirror := none

def pool0 : Array CpInfo := pool [(5, u "<init>"), (0, u "()V"), (1, .class_ 10), (1, u "java/lang/Object")] 113

def k0m0 : Method := { name := "<init>", desc := "()V", sig := { parameters := [], returnType := none }, accessFlags := 1, code := none }
/-- java/lang/Object -/
def k0 : Class := { plain "java/lang/Object" none with
  accessFlags := 33
  interfaces := #[]
  cf := some (fileOf pool0 8 #[] #[{ accessFlags := 1, nameIndex := 5, descriptorIndex := 6, attributes := #[] }] 33 0 #[] #[])
  fields := #[]
  methods := #[k0m0]
  instanceTypes := #[]
  staticTypes := #[]
  resolved := Array.replicate 124 none
  statics := none }

def pool1 : Array CpInfo := pool [(2, .class_ 4), (1, u "java/lang/Object"), (0, u "<init>"), (0, u "()V"), (0, .methodref 8 9), (0, .class_ 10), (0, .nameAndType 11 12), (0, u "com/example/rowkey/rowkey/EndedPartsWritePinLaw"), (0, u "draw"), (0, u "(I)B"), (0, .methodref 8 14), (0, .nameAndType 15 16), (0, u "filled"), (0, u "(B)[B"), (0, .methodref 8 18), (0, .nameAndType 19 20), (0, u "put"), (0, u "([BIB)I"), (0, .methodref 22 23), (0, .class_ 24), (0, .nameAndType 25 26), (0, u "com/example/rowkey/rowkey/EndedParts"), (0, u "write"), (0, u "([B[BI)I"), (0, .methodref 8 28), (0, .nameAndType 29 30), (0, u "same"), (0, u "([B[B)Z"), (2, u "law"), (0, u "(IIIIII)Z")] 5

def k1m0 : Method := { name := "<init>", desc := "()V", sig := { parameters := [], returnType := none }, accessFlags := 2, code := none }
def k1c1 : Code := { maxStack := 4, maxLocals := 17, code := code, exceptionTable := #[], attributes := #[] }
def k1m1 : Method := { name := "law", desc := "(IIIIII)Z", sig := { parameters := [.int, .int, .int, .int, .int, .int], returnType := some .boolean }, accessFlags := 9, code := some k1c1 }
def k1c2 : Code := { maxStack := 2, maxLocals := 1, code := method_3_code, exceptionTable := #[], attributes := #[] }
def k1m2 : Method := { name := "draw", desc := "(I)B", sig := { parameters := [.int], returnType := some .byte }, accessFlags := 10, code := some k1c2 }
def k1c3 : Code := { maxStack := 3, maxLocals := 3, code := method_4_code, exceptionTable := #[], attributes := #[] }
def k1m3 : Method := { name := "put", desc := "([BIB)I", sig := { parameters := [(.array .byte), .int, .byte], returnType := some .int }, accessFlags := 10, code := some k1c3 }
def k1c4 : Code := { maxStack := 4, maxLocals := 1, code := method_5_code, exceptionTable := #[], attributes := #[] }
def k1m4 : Method := { name := "filled", desc := "(B)[B", sig := { parameters := [.byte], returnType := some (.array .byte) }, accessFlags := 10, code := some k1c4 }
def k1c5 : Code := { maxStack := 3, maxLocals := 2, code := method_6_code, exceptionTable := #[], attributes := #[] }
def k1m5 : Method := { name := "same", desc := "([B[B)Z", sig := { parameters := [(.array .byte), (.array .byte)], returnType := some .boolean }, accessFlags := 10, code := some k1c5 }
/-- com/example/rowkey/rowkey/EndedPartsWritePinLaw -/
def k1 : Class := { plain "com/example/rowkey/rowkey/EndedPartsWritePinLaw" (some 0) with
  accessFlags := 49
  interfaces := #[]
  cf := some (fileOf pool1 8 #[] #[{ accessFlags := 2, nameIndex := 5, descriptorIndex := 6, attributes := #[] }, { accessFlags := 9, nameIndex := 33, descriptorIndex := 34, attributes := #[] }, { accessFlags := 10, nameIndex := 11, descriptorIndex := 12, attributes := #[] }, { accessFlags := 10, nameIndex := 19, descriptorIndex := 20, attributes := #[] }, { accessFlags := 10, nameIndex := 15, descriptorIndex := 16, attributes := #[] }, { accessFlags := 10, nameIndex := 29, descriptorIndex := 30, attributes := #[] }] 49 2 #[] #[])
  fields := #[]
  methods := #[k1m0, k1m1, k1m2, k1m3, k1m4, k1m5]
  instanceTypes := #[]
  staticTypes := #[]
  resolved := Array.replicate 40 none
  statics := none }

def pool2 : Array CpInfo := pool [(2, .class_ 4), (1, u "java/lang/Object"), (0, u "<init>"), (0, u "()V"), (0, .class_ 8), (0, u "com/example/rowkey/rowkey/EndedParts"), (7, u "write"), (4, u "ZERO"), (0, u "B"), (2, u "ESCAPED_ZERO"), (1, u "END"), (1, u "END_LENGTH"), (0, u "I"), (8, u "([B[BI)I")] 6

def k2m0 : Method := { name := "<init>", desc := "()V", sig := { parameters := [], returnType := none }, accessFlags := 2, code := none }
def k2c1 : Code := { maxStack := 3, maxLocals := 7, code := prog_19_method_3_code, exceptionTable := #[], attributes := #[] }
def k2m1 : Method := { name := "write", desc := "([B[BI)I", sig := { parameters := [(.array .byte), (.array .byte), .int], returnType := some .int }, accessFlags := 8, code := some k2c1 }
/-- com/example/rowkey/rowkey/EndedParts -/
def k2 : Class := { plain "com/example/rowkey/rowkey/EndedParts" (some 0) with
  accessFlags := 32
  interfaces := #[]
  cf := some (fileOf pool2 7 #[] #[{ accessFlags := 2, nameIndex := 5, descriptorIndex := 6, attributes := #[] }, { accessFlags := 8, nameIndex := 16, descriptorIndex := 39, attributes := #[] }] 32 2 #[] #[{ accessFlags := 26, nameIndex := 21, descriptorIndex := 22, attributes := #[] }, { accessFlags := 26, nameIndex := 25, descriptorIndex := 22, attributes := #[] }, { accessFlags := 26, nameIndex := 27, descriptorIndex := 22, attributes := #[] }, { accessFlags := 24, nameIndex := 29, descriptorIndex := 30, attributes := #[] }])
  fields := #[{ name := "ZERO", type := .byte, accessFlags := 26, slot := 0, constantValue := 0 }, { name := "ESCAPED_ZERO", type := .byte, accessFlags := 26, slot := 1, constantValue := 0 }, { name := "END", type := .byte, accessFlags := 26, slot := 2, constantValue := 0 }, { name := "END_LENGTH", type := .int, accessFlags := 24, slot := 3, constantValue := 0 }]
  methods := #[k2m0, k2m1]
  instanceTypes := #[]
  staticTypes := #[.byte, .byte, .byte, .int]
  resolved := Array.replicate 46 none
  statics := none }

def pool3 : Array CpInfo := pool [(1, u "java/lang/Cloneable"), (0, .class_ 1), (0, u "java/lang/Object"), (0, .class_ 3)] 3

/-- java/lang/Cloneable -/
def k3 : Class := { plain "java/lang/Cloneable" (some 0) with
  accessFlags := 1537
  interfaces := #[]
  cf := some (fileOf pool3 2 #[] #[] 1537 4 #[] #[])
  fields := #[]
  methods := #[]
  instanceTypes := #[]
  staticTypes := #[]
  resolved := Array.replicate 8 none
  statics := none }

def pool4 : Array CpInfo := pool [(1, u "java/io/Serializable"), (0, .class_ 1), (0, u "java/lang/Object"), (0, .class_ 3)] 3

/-- java/io/Serializable -/
def k4 : Class := { plain "java/io/Serializable" (some 0) with
  accessFlags := 1537
  interfaces := #[]
  cf := some (fileOf pool4 2 #[] #[] 1537 4 #[] #[])
  fields := #[]
  methods := #[]
  instanceTypes := #[]
  staticTypes := #[]
  resolved := Array.replicate 8 none
  statics := none }

/-- the primitive byte -/
def k5 : Class := { plain "byte" none with kind := .primitive 'B', accessFlags := 0x411 }
/-- [B -/
def k6 : Class := { plain "[B" (some 0) with kind := .array 5 .byte, interfaces := #[3, 4], accessFlags := 1041 }

/-- the primitive int -/
def k7 : Class := { plain "int" none with kind := .primitive 'I', accessFlags := 0x411 }
/-- [I -/
def k8 : Class := { plain "[I" (some 0) with kind := .array 7 .int, interfaces := #[3, 4], accessFlags := 1041 }

def heap : Heap := #[]
def classes : Array Class := #[k0, k1, k2, k3, k4, k5, k6, k7, k8]
def interned : List (Array UInt16 × Addr) := []
def slotsUsed : Nat := 0
def theMethod : MethodId := ⟨1, 1⟩
def args0 : Array Value := #[.int 3, .int 5, .int 256, .int 7, .int 2, .int 9]
def aboutOver (below : List Frame) : State where
  vm := { classes := classes, interned := interned.toArray }
  heap := heap
  slotsUsed := slotsUsed
  threads := #[{ frames := .invoking theMethod args0 :: below }]
def below0 : List Frame := [.native { method := ⟨0, 0⟩, args := #[] }]
def about1 : State := aboutOver below0
def p0 : Program := .bare "" "" ""
def e0 : Env := launch0.env 0 0 0
theorem w_frames : about1.frames = Frame.invoking theMethod args0 :: below0 := rfl
set_option maxRecDepth 65536 in
theorem w_args : argsFit about1.vm theMethod args0 = true := by decide +kernel
set_option maxRecDepth 65536 in
theorem w_heap : heapFits about1 = true := by decide +kernel
set_option maxRecDepth 65536 in
theorem w_runnable : about1.curStatus? = some .runnable := by decide +kernel
set_option maxRecDepth 65536 in
theorem w_alone : about1.alone = true := by decide +kernel
set_option maxRecDepth 65536 in
theorem w_named : about1.methodNamed? x = some theMethod := by decide +kernel
set_option maxRecDepth 65536 in
theorem w_hears : about1.hears theMethod below0 = true := by decide +kernel
set_option maxRecDepth 65536 in
theorem w_ripe : about1.ripe theMethod args0 below0 = true := by decide +kernel
theorem w_running : about1.status = .running := rfl
set_option maxRecDepth 65536 in
theorem w_room : about1.hasRoom e0.platform room_1 = true :=
  launch0.hasRoom_least _ room_1 (by decide +kernel) (by decide +kernel) (by decide +kernel) (by decide +kernel) (by decide +kernel) (by decide +kernel)
theorem allAtoms_all (ts : List Jvm.Cond) (a : Array Jvm.Value) (st : Jvm.State) : (allAtoms ts).before a st = ts.all (fun c => c.before a st) := by
  induction ts with
  | nil => rfl
  | cons c t ih =>
    show (Jvm.Cond.and c (allAtoms t)).before a st = _
    rw [Jvm.Cond.before_and, ih, List.all_cons]
def words1 : List Jvm.Cond := Jvm.Cond.code x code maxLocals ret :: tables_1
/-- a 'code' word, met by the world's own term for the bytes: nothing is compared byte by byte -/
theorem code_word {y : MethodName} {bytes : ByteArray} {mx : Nat} {rt : Option FieldType} {a : Array Value} {s : State} {m : MethodId} {meth : Method} {c : Code} (h1 : s.methodNamed? y = some m) (h2 : s.vm.method? m = some meth) (h3 : meth.code = some c) (h4 : c.code = bytes)
    (h5 : (c.maxLocals == mx && c.exceptionTable.isEmpty && decide (c.maxStack ≤ mostOperands) && decide (meth.sig.returnType = rt) && !meth.locks && decide (parseMethodDescriptor y.desc = some meth.sig)) = true) : (Jvm.Cond.code y bytes mx rt).before a s = true := by
  simp only [Bool.and_eq_true, beq_iff_eq, Bool.not_eq_true', decide_eq_true_eq] at h5
  obtain ⟨⟨⟨⟨⟨g1, g2⟩, g3⟩, g4⟩, g5⟩, g6⟩ := h5
  simp [Cond.before, Cond.holds, Cond.value, h1, h2, h3, h4, g1, g2, g3, g4, g5, g6]
def isCode : Jvm.Cond → Bool
  | .code _ _ _ _ => true
  | _ => false
theorem all_split {L : List Jvm.Cond} {P : Jvm.Cond → Bool} (h1 : L.all (fun c => isCode c || P c) = true) (h2 : ∀ c ∈ L.filter isCode, P c = true) : L.all P = true := by
  refine List.all_eq_true.mpr fun c hc => ?_
  have h := List.all_eq_true.mp h1 c hc
  rcases Bool.eq_false_or_eq_true (isCode c) with hi | hi
  · exact h2 c (List.mem_filter.mpr ⟨hc, hi⟩)
  · simpa [hi] using h
set_option maxRecDepth 65536 in
theorem w_c0 : (Jvm.Cond.code x code maxLocals ret).before args0 about1 = true := code_word (m := ⟨1, 1⟩) (meth := k1m1) (c := k1c1) (by decide +kernel) rfl rfl rfl (by decide +kernel)
set_option maxRecDepth 65536 in
theorem w_c1 : (Jvm.Cond.code ({ cls := "com/example/rowkey/rowkey/EndedPartsWritePinLaw", name := "draw", desc := "(I)B" } : Jvm.MethodName) method_3_code (1 : Nat) (Option.some Jvm.ClassFile.FieldType.byte)).before args0 about1 = true := code_word (m := ⟨1, 2⟩) (meth := k1m2) (c := k1c2) (by decide +kernel) rfl rfl rfl (by decide +kernel)
set_option maxRecDepth 65536 in
theorem w_c2 : (Jvm.Cond.code ({ cls := "com/example/rowkey/rowkey/EndedPartsWritePinLaw", name := "filled", desc := "(B)[B" } : Jvm.MethodName) method_5_code (1 : Nat) (Option.some (Jvm.ClassFile.FieldType.array Jvm.ClassFile.FieldType.byte))).before args0 about1 = true := code_word (m := ⟨1, 4⟩) (meth := k1m4) (c := k1c4) (by decide +kernel) rfl rfl rfl (by decide +kernel)
set_option maxRecDepth 65536 in
theorem w_c3 : (Jvm.Cond.code ({ cls := "com/example/rowkey/rowkey/EndedParts", name := "write", desc := "([B[BI)I" } : Jvm.MethodName) prog_19_method_3_code (7 : Nat) (Option.some Jvm.ClassFile.FieldType.int)).before args0 about1 = true := code_word (m := ⟨2, 1⟩) (meth := k2m1) (c := k2c1) (by decide +kernel) rfl rfl rfl (by decide +kernel)
set_option maxRecDepth 65536 in
theorem w_c4 : (Jvm.Cond.code ({ cls := "com/example/rowkey/rowkey/EndedPartsWritePinLaw", name := "same", desc := "([B[B)Z" } : Jvm.MethodName) method_6_code (2 : Nat) (Option.some Jvm.ClassFile.FieldType.boolean)).before args0 about1 = true := code_word (m := ⟨1, 5⟩) (meth := k1m5) (c := k1c5) (by decide +kernel) rfl rfl rfl (by decide +kernel)
set_option maxRecDepth 65536 in
theorem w_c5 : (Jvm.Cond.code ({ cls := "com/example/rowkey/rowkey/EndedPartsWritePinLaw", name := "put", desc := "([BIB)I" } : Jvm.MethodName) method_4_code (3 : Nat) (Option.some Jvm.ClassFile.FieldType.int)).before args0 about1 = true := code_word (m := ⟨1, 3⟩) (meth := k1m3) (c := k1c3) (by decide +kernel) rfl rfl rfl (by decide +kernel)
def codes1 : List Jvm.Cond := [Jvm.Cond.code x code maxLocals ret, Jvm.Cond.code ({ cls := "com/example/rowkey/rowkey/EndedPartsWritePinLaw", name := "draw", desc := "(I)B" } : Jvm.MethodName) method_3_code (1 : Nat) (Option.some Jvm.ClassFile.FieldType.byte), Jvm.Cond.code ({ cls := "com/example/rowkey/rowkey/EndedPartsWritePinLaw", name := "filled", desc := "(B)[B" } : Jvm.MethodName) method_5_code (1 : Nat) (Option.some (Jvm.ClassFile.FieldType.array Jvm.ClassFile.FieldType.byte)), Jvm.Cond.code ({ cls := "com/example/rowkey/rowkey/EndedParts", name := "write", desc := "([B[BI)I" } : Jvm.MethodName) prog_19_method_3_code (7 : Nat) (Option.some Jvm.ClassFile.FieldType.int), Jvm.Cond.code ({ cls := "com/example/rowkey/rowkey/EndedPartsWritePinLaw", name := "same", desc := "([B[B)Z" } : Jvm.MethodName) method_6_code (2 : Nat) (Option.some Jvm.ClassFile.FieldType.boolean), Jvm.Cond.code ({ cls := "com/example/rowkey/rowkey/EndedPartsWritePinLaw", name := "put", desc := "([BIB)I" } : Jvm.MethodName) method_4_code (3 : Nat) (Option.some Jvm.ClassFile.FieldType.int)]
set_option maxRecDepth 65536 in
theorem codes_eq : words1.filter isCode = codes1 := rfl
theorem w_codes : ∀ c ∈ words1.filter isCode, c.before args0 about1 = true := by
  rw [codes_eq]
  intro c hc
  simp only [codes1, List.mem_cons, List.not_mem_nil, or_false] at hc
  rcases hc with rfl | rfl | rfl | rfl | rfl | rfl
  · exact w_c0
  · exact w_c1
  · exact w_c2
  · exact w_c3
  · exact w_c4
  · exact w_c5
set_option maxRecDepth 65536 in
theorem w_t1 : words1.all (fun c => isCode c || c.before args0 about1) = true := by decide +kernel
theorem w_tables : (allAtoms (Jvm.Cond.code x code maxLocals ret :: tables_1)).before args0 about1 = true := by
  rw [allAtoms_all]
  show words1.all (fun c => c.before args0 about1) = true
  refine all_split ?_ w_codes
  rw [w_t1]
set_option maxRecDepth 65536 in
theorem w_case : (Jvm.Cond.and given_1 narrow_1).before args0 about1 = true := by decide +kernel
theorem w_applies : (headSpec (Jvm.Cond.code x code maxLocals ret :: tables_1) room_1).applies x e0.platform about1 = true :=
  (Spec.applies_iff w_frames).mpr ⟨w_running, w_runnable, w_alone, w_named, w_hears, w_ripe, w_room, w_tables⟩
theorem atStart : AtStart classFile x code maxLocals ret World_1 tables_1 room_1 Calls_1 rest_1 Pre_1 launch0 p0 e0 about1 theMethod args0 below0 :=
  ⟨lists_1, trivial, launch0.admits_env _ _ _, launch0.least_env, fairChoices_fair.cas, fairChoices_fair.clock, w_frames, w_args, w_heap, w_applies, trivial, trivial, w_case⟩
end start1
theorem witness_1 : WitnessClaimed_1 := ⟨start1.p0, start1.e0, start1.about1, start1.theMethod, start1.args0, start1.below0, start1.atStart⟩
end Jvm.Pilot.@@N@@
